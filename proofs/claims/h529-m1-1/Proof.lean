import JvmDerived
import JvmDerived.Pilot.@@N@@Statement
import JvmDerived.Pilot.@@N@@Code
set_option linter.unusedVariables false
set_option linter.unusedSimpArgs false
@@BLOCK:NumsL.lean.txt@@
namespace Jvm.Pilot.@@N@@
open Jvm Jvm.ClassFile Sem Op Lib Jvm.Free Jvm.Stand Jvm.LawKit Jvm.RoadKit Bundle Jvm.Pilot.@@N@@.Jvm.D
/-! OWN LAYER (one text for all claims of this seat): a walk's goal with its state hidden ('Go'), one rule an instruction. -/
/-- all that a walk through one body holds fixed -/
abbrev OwnK : Type := Program × Launch × Env × Room × State × MethodId × Array Value × List Frame × Method × Code × Nat × (Option Value → Heap → Prop)
namespace OwnK
abbrev p (K : OwnK) : Program := K.1
abbrev l (K : OwnK) : Launch := K.2.1
abbrev e (K : OwnK) : Env := K.2.2.1
abbrev R (K : OwnK) : Room := K.2.2.2.1
abbrev s (K : OwnK) : State := K.2.2.2.2.1
abbrev m (K : OwnK) : MethodId := K.2.2.2.2.2.1
abbrev args (K : OwnK) : Array Value := K.2.2.2.2.2.2.1
abbrev below (K : OwnK) : List Frame := K.2.2.2.2.2.2.2.1
abbrev meth (K : OwnK) : Method := K.2.2.2.2.2.2.2.2.1
abbrev c (K : OwnK) : Code := K.2.2.2.2.2.2.2.2.2.1
abbrev n0 (K : OwnK) : Nat := K.2.2.2.2.2.2.2.2.2.2.1
abbrev Post (K : OwnK) : Option Value → Heap → Prop := K.2.2.2.2.2.2.2.2.2.2.2
end OwnK
/-- a place of the walk -/
abbrev OwnSt (K : OwnK) (T : State) (locs : List Loc) (cells slots : Nat) : Prop := Stand K.p K.l K.e K.R K.s K.m K.args K.below K.meth K.c T locs cells slots
/-- from this state the run ends as the contract says -/
def OwnDone (K : OwnK) (t : State) : Prop :=
  ∃ s₂ o, Steps K.p.tables K.e K.below t s₂ ∧ s₂.status = .running ∧ Ended s₂ K.below o ∧ ∃ v L, o = .returned v ∧ (Fr K.n0 L ∧ K.Post v s₂.heap) ∧ FrameEnd K.s o s₂ L K.R.cells K.R.slots
/-- from every state at this pc, with these locals, this stack and this heap the run ends as the contract says -/
def Go (K : OwnK) (h : Heap) (cells slots pc : Nat) (Ls : List Slot) (st : List Value) : Prop :=
  ∀ T locs, OwnSt K T locs cells slots → T.heap = h → Fr K.n0 locs → OwnDone K (T.setTop (mkF K.m pc Ls.toArray st))
/-- what the walk through one body may lean on -/
def Cx (K : OwnK) (Z : State) (own name : String) (code : ByteArray) (maxL : Nat) (ret : Option FieldType) (R : Room) (n0 : Nat) (Post : Option Value → Heap → Prop) : Prop :=
  K.p.tables.exec = Jvm.exec ∧ K.c.code = code ∧ K.c.maxLocals = maxL ∧ K.s.vm.findClass own = some K.m.cls ∧ K.meth.name = name ∧ K.meth.sig.returnType = ret ∧ K.meth.locks = false ∧ Z.Warmed39 K.s.vm ∧ K.R = R ∧ K.n0 = n0 ∧ K.Post = Post
/-- a body's contract -/
def OwnMet (l : Launch) (y : MethodName) (bytes : ByteArray) (maxL : Nat) (ret : Option FieldType) (ws : List Jvm.Cond) (rm : Room) (Z : State) (h : Heap) (n0 : Nat) (as : Array Value) (P : Option Value → Heap → Prop) : Prop :=
  MetFree l y (head1 (Jvm.Cond.code y bytes maxL ret :: ws) rm) (fun a U => a = as ∧ Z.Warmed39 U.vm ∧ U.heap = h) (fun _ _ _ _ _ => True) (fun _ U o U' => ∃ v L, o = .returned v ∧ (Fr n0 L ∧ P v U'.heap) ∧ FrameEnd U o U' L rm.cells rm.slots)
theorem own_clamp (n : Int32) : n.toNatClampNeg = n.toInt.toNat := rfl
theorem own_newA (cA : ClassId) (ty : FieldType) (n : Int32) : (newA cA ty n).slots = Array.replicate n.toNatClampNeg (defaultValue ty) := rfl
theorem own_setSlot (c : Cell) (i : Nat) (v : Value) : (c.setSlot i v).slots = c.slots.setIfInBounds i v := rfl
theorem own_dnull (C : String) : defaultValue (.object C) = .null := rfl
section OwnLaws
variable {K : OwnK} {Z : State} {own name : String} {code : ByteArray} {maxL : Nat} {ret : Option FieldType} {R : Room} {n0 : Nat} {Post : Option Value → Heap → Prop} {h : Heap} {cells slots pc : Nat} {Ls Ls' : List Slot} {st rest : List Value} {a0 : Array Value}
theorem OwnDone.of {t t' : State} (k : ∀ target, Steps K.p.tables K.e K.below t' target → Steps K.p.tables K.e K.below t target) (d : OwnDone K t') : OwnDone K t := by
  obtain ⟨s₂, o, h1, r⟩ := d
  exact ⟨s₂, o, k _ h1, r⟩
theorem OwnMet.of {l : Launch} {desc : String} {bytes : ByteArray} {ws : List Jvm.Cond} {as : Array Value} (hp : plainFor (⟨own, name, desc⟩ : MethodName) = true) (ef : ∀ m, entryFrame m as maxL = mkF m 0 Ls.toArray [])
    (go : ∀ K : OwnK, K.l = l → Cx K Z own name bytes maxL ret R n0 Post → Go K h 0 0 0 Ls []) : OwnMet l ⟨own, name, desc⟩ bytes maxL ret ws R Z h n0 as Post := by
  refine MetFree.of_bodySF hp hisR ?_
  intro p e s m args below meth c s₁ Bd hml0 hP hK
  obtain ⟨rfl, hZ, hh⟩ := hP
  have g := go (p, l, e, R, s, m, args, below, meth, c, n0, Post) rfl ⟨Bd.exec, Bd.bytes, hml0, findClass_of_methodNamed Bd.named, (name_of_methodNamed Bd.named Bd.method).1, Bd.returns, Bd.notSynchronized, hZ, rfl, rfl, rfl⟩
  have d := g s₁ [] (Stand.of_body Bd) (by rw [← hh, Bd.state]; rfl) (Fr.nil n0)
  rw [ef m]
  exact d
theorem own_cut0 {A : Prop} (G : Prop) (h1 : G → A) (h2 : G) : A := h1 h2
theorem own_cut1 {α : Type} {A : Prop} (P G : α → Prop) (h1 : (∀ z, P z → G z) → A) (h2 : ∀ z, P z → G z) : A := h1 h2
theorem own_cut2 {α β : Type} {A : Prop} (P G : α → β → Prop) (h1 : (∀ z w, P z w → G z w) → A) (h2 : ∀ z w, P z w → G z w) : A := h1 h2
theorem own_cut3 {α β γ : Type} {A : Prop} (P G : α → β → γ → Prop) (h1 : (∀ z w u, P z w u → G z w u) → A) (h2 : ∀ z w u, P z w u → G z w u) : A := h1 h2
theorem Go.step {pc' : Nat} {st' : List Value} (g : Go K h cells slots pc' Ls' st') (f : ∀ T locs, OwnSt K T locs cells slots → ∀ target, Steps K.p.tables K.e K.below (T.setTop (mkF K.m pc' Ls'.toArray st')) target → Steps K.p.tables K.e K.below (T.setTop (mkF K.m pc Ls.toArray st)) target) : Go K h cells slots pc Ls st :=
  fun T locs X e N => OwnDone.of (f T locs X) (g T locs X e N)
/-! 1. loads, constants, stores -/
theorem w_iload (pc' : Nat) (C : Cx K Z own name code maxL ret R n0 Post) {k : Nat} {v : Int32} (hd : decode code pc = .ok (.iload k, 2)) (hp : pc + 2 = pc') (hl : Ls[k]? = some (.val (.int v))) (g : Go K h cells slots pc' Ls (.int v :: st)) : Go K h cells slots pc Ls st := by
  subst hp; exact g.step fun T locs X t q => XS.iload X.here C.1 rfl (hb C.2.1 hd) (by simpa using hl) q
theorem w_iloadN (pc' : Nat) (C : Cx K Z own name code maxL ret R n0 Post) {k : Fin 4} {v : Int32} (hd : decode code pc = .ok (.iload_n k, 1)) (hp : pc + 1 = pc') (hl : Ls[k.val]? = some (.val (.int v))) (g : Go K h cells slots pc' Ls (.int v :: st)) : Go K h cells slots pc Ls st := by
  subst hp; exact g.step fun T locs X t q => XS.iloadN X.here C.1 rfl (hb C.2.1 hd) (by simpa using hl) q
theorem w_lload (pc' : Nat) (C : Cx K Z own name code maxL ret R n0 Post) {k : Nat} {v : Int64} (hd : decode code pc = .ok (.lload k, 2)) (hp : pc + 2 = pc') (hl : Ls[k]? = some (.val (.long v))) (g : Go K h cells slots pc' Ls (.long v :: st)) : Go K h cells slots pc Ls st := by
  subst hp; exact g.step fun T locs X t q => XS.lload X.here C.1 rfl (hb C.2.1 hd) (by simpa using hl) q
theorem w_lloadN (pc' : Nat) (C : Cx K Z own name code maxL ret R n0 Post) {k : Fin 4} {v : Int64} (hd : decode code pc = .ok (.lload_n k, 1)) (hp : pc + 1 = pc') (hl : Ls[k.val]? = some (.val (.long v))) (g : Go K h cells slots pc' Ls (.long v :: st)) : Go K h cells slots pc Ls st := by
  subst hp; exact g.step fun T locs X t q => XS.lloadN X.here C.1 rfl (hb C.2.1 hd) (by simpa using hl) q
theorem w_aload (pc' : Nat) (C : Cx K Z own name code maxL ret R n0 Post) {k : Nat} {v : Value} (hd : decode code pc = .ok (.aload k, 2)) (hp : pc + 2 = pc') (hl : Ls[k]? = some (.val v)) (hv : v.isRef = true) (g : Go K h cells slots pc' Ls (v :: st)) : Go K h cells slots pc Ls st := by
  subst hp; exact g.step fun T locs X t q => XS.aload X.here C.1 rfl (hb C.2.1 hd) (by simpa using hl) hv q
theorem w_aloadN (pc' : Nat) (C : Cx K Z own name code maxL ret R n0 Post) {k : Fin 4} {v : Value} (hd : decode code pc = .ok (.aload_n k, 1)) (hp : pc + 1 = pc') (hl : Ls[k.val]? = some (.val v)) (hv : v.isRef = true) (g : Go K h cells slots pc' Ls (v :: st)) : Go K h cells slots pc Ls st := by
  subst hp; exact g.step fun T locs X t q => XS.aloadN X.here C.1 rfl (hb C.2.1 hd) (by simpa using hl) hv q
theorem w_iconst (pc' : Nat) (n : Int32) (C : Cx K Z own name code maxL ret R n0 Post) {i : Int} (hd : decode code pc = .ok (.iconst i, 1)) (hp : pc + 1 = pc') (hn : Int32.ofInt i = n) (g : Go K h cells slots pc' Ls (.int n :: st)) : Go K h cells slots pc Ls st := by
  subst hp hn; exact g.step fun T locs X t q => XS.iconst X.here C.1 rfl (hb C.2.1 hd) q
theorem w_bipush (pc' : Nat) (n : Int32) (C : Cx K Z own name code maxL ret R n0 Post) {i : Int} (hd : decode code pc = .ok (.bipush i, 2)) (hp : pc + 2 = pc') (hn : (Int8.ofInt i).toInt32 = n) (g : Go K h cells slots pc' Ls (.int n :: st)) : Go K h cells slots pc Ls st := by
  subst hp hn; exact g.step fun T locs X t q => XS.bipush X.here C.1 rfl (hb C.2.1 hd) q
theorem w_sipush (pc' : Nat) (n : Int32) (C : Cx K Z own name code maxL ret R n0 Post) {i : Int} (hd : decode code pc = .ok (.sipush i, 3)) (hp : pc + 3 = pc') (hn : (Int16.ofInt i).toInt32 = n) (g : Go K h cells slots pc' Ls (.int n :: st)) : Go K h cells slots pc Ls st := by
  subst hp hn; exact g.step fun T locs X t q => XS.sipush X.here C.1 rfl (hb C.2.1 hd) q
theorem w_lconst (pc' : Nat) (n : Int64) (C : Cx K Z own name code maxL ret R n0 Post) {k : Fin 2} (hd : decode code pc = .ok (.lconst k, 1)) (hp : pc + 1 = pc') (hn : Int64.ofNat k = n) (g : Go K h cells slots pc' Ls (.long n :: st)) : Go K h cells slots pc Ls st := by
  subst hp hn; exact g.step fun T locs X t q => XS.lconst X.here C.1 rfl (hb C.2.1 hd) q
theorem w_null (pc' : Nat) (C : Cx K Z own name code maxL ret R n0 Post) (hd : decode code pc = .ok (.aconst_null, 1)) (hp : pc + 1 = pc') (g : Go K h cells slots pc' Ls (.null :: st)) : Go K h cells slots pc Ls st := by
  subst hp; exact g.step fun T locs X t q => XS.aconstNull X.here C.1 rfl (hb C.2.1 hd) q
theorem w_ldc (pc' : Nat) (C : Cx K Z own name code maxL ret R n0 Post) {i : Nat} {v : Int32} (hd : decode code pc = .ok (.ldc i, 2)) (hp : pc + 2 = pc') (w : (Cond.constant own i v).before a0 Z = true) (g : Go K h cells slots pc' Ls (.int v :: st)) : Go K h cells slots pc Ls st := by
  subst hp; exact g.step fun T locs X t q => X.ldcInt C.1 C.2.2.2.1 (mvT C.2.2.2.2.2.2.2.1 w) (g := mkF K.m pc Ls.toArray st) rfl (hb C.2.1 hd) _ q
theorem w_ldcw (pc' : Nat) (C : Cx K Z own name code maxL ret R n0 Post) {i : Nat} {v : Int32} (hd : decode code pc = .ok (.ldc_w i, 3)) (hp : pc + 3 = pc') (w : (Cond.constant own i v).before a0 Z = true) (g : Go K h cells slots pc' Ls (.int v :: st)) : Go K h cells slots pc Ls st := by
  subst hp; exact g.step fun T locs X t q => X.ldcwInt C.1 C.2.2.2.1 (mvT C.2.2.2.2.2.2.2.1 w) (g := mkF K.m pc Ls.toArray st) rfl (hb C.2.1 hd) _ q
theorem w_ldc2 (pc' : Nat) (C : Cx K Z own name code maxL ret R n0 Post) {i : Nat} {v : Int64} (hd : decode code pc = .ok (.ldc2_w i, 3)) (hp : pc + 3 = pc') (w : (Cond.constantLong own i v).before a0 Z = true) (g : Go K h cells slots pc' Ls (.long v :: st)) : Go K h cells slots pc Ls st := by
  subst hp; exact g.step fun T locs X t q => X.ldc2Long C.1 C.2.2.2.1 (mvT C.2.2.2.2.2.2.2.1 w) (g := mkF K.m pc Ls.toArray st) rfl (hb C.2.1 hd) _ q
theorem w_istore (pc' : Nat) (Ls' : List Slot) (C : Cx K Z own name code maxL ret R n0 Post) {k : Nat} {x : Int32} (hd : decode code pc = .ok (.istore k, 2)) (hp : pc + 2 = pc') (hl : storeLocals Ls.toArray k (.int x) = some Ls'.toArray) (g : Go K h cells slots pc' Ls' st) : Go K h cells slots pc Ls (.int x :: st) := by
  subst hp; exact g.step fun T locs X t q => XS.istore X.here C.1 rfl (hb C.2.1 hd) rfl hl q
theorem w_istoreN (pc' : Nat) (Ls' : List Slot) (C : Cx K Z own name code maxL ret R n0 Post) {k : Fin 4} {x : Int32} (hd : decode code pc = .ok (.istore_n k, 1)) (hp : pc + 1 = pc') (hl : storeLocals Ls.toArray k.val (.int x) = some Ls'.toArray) (g : Go K h cells slots pc' Ls' st) : Go K h cells slots pc Ls (.int x :: st) := by
  subst hp; exact g.step fun T locs X t q => XS.istoreN X.here C.1 rfl (hb C.2.1 hd) rfl hl q
theorem w_lstore (pc' : Nat) (Ls' : List Slot) (C : Cx K Z own name code maxL ret R n0 Post) {k : Nat} {x : Int64} (hd : decode code pc = .ok (.lstore k, 2)) (hp : pc + 2 = pc') (hl : storeLocals Ls.toArray k (.long x) = some Ls'.toArray) (g : Go K h cells slots pc' Ls' st) : Go K h cells slots pc Ls (.long x :: st) := by
  subst hp; exact g.step fun T locs X t q => XS.lstore X.here C.1 rfl (hb C.2.1 hd) rfl hl q
theorem w_lstoreN (pc' : Nat) (Ls' : List Slot) (C : Cx K Z own name code maxL ret R n0 Post) {k : Fin 4} {x : Int64} (hd : decode code pc = .ok (.lstore_n k, 1)) (hp : pc + 1 = pc') (hl : storeLocals Ls.toArray k.val (.long x) = some Ls'.toArray) (g : Go K h cells slots pc' Ls' st) : Go K h cells slots pc Ls (.long x :: st) := by
  subst hp; exact g.step fun T locs X t q => XS.lstoreN X.here C.1 rfl (hb C.2.1 hd) rfl hl q
theorem w_astore (pc' : Nat) (Ls' : List Slot) (C : Cx K Z own name code maxL ret R n0 Post) {k : Nat} {x : Value} (hd : decode code pc = .ok (.astore k, 2)) (hp : pc + 2 = pc') (hv : x.isRef = true) (hl : storeLocals Ls.toArray k x = some Ls'.toArray) (g : Go K h cells slots pc' Ls' st) : Go K h cells slots pc Ls (x :: st) := by
  subst hp; exact g.step fun T locs X t q => XS.astore X.here C.1 rfl (hb C.2.1 hd) rfl hv hl q
theorem w_astoreN (pc' : Nat) (Ls' : List Slot) (C : Cx K Z own name code maxL ret R n0 Post) {k : Fin 4} {x : Value} (hd : decode code pc = .ok (.astore_n k, 1)) (hp : pc + 1 = pc') (hv : x.isRef = true) (hl : storeLocals Ls.toArray k.val x = some Ls'.toArray) (g : Go K h cells slots pc' Ls' st) : Go K h cells slots pc Ls (x :: st) := by
  subst hp; exact g.step fun T locs X t q => XS.astoreN X.here C.1 rfl (hb C.2.1 hd) rfl hv hl q
theorem w_iinc (pc' : Nat) (Ls' : List Slot) (C : Cx K Z own name code maxL ret R n0 Post) {k : Nat} {cst : Int} {x z : Int32} (hd : decode code pc = .ok (.iinc k cst, 3)) (hp : pc + 3 = pc') (hl : Ls[k]? = some (.val (.int x))) (hz : x + Int32.ofInt cst = z) (hs : storeLocals Ls.toArray k (.int z) = some Ls'.toArray) (g : Go K h cells slots pc' Ls' st) : Go K h cells slots pc Ls st := by
  subst hp hz; exact g.step fun T locs X t q => XS.iinc X.here C.1 rfl (hb C.2.1 hd) (by simpa using hl) hs q
/-! 2. arithmetic -/
theorem w_iadd (pc' : Nat) (C : Cx K Z own name code maxL ret R n0 Post) {x y : Int32} (hd : decode code pc = .ok (.iadd, 1)) (hp : pc + 1 = pc') (g : Go K h cells slots pc' Ls (.int (x + y) :: st)) : Go K h cells slots pc Ls (.int y :: .int x :: st) := by
  subst hp; exact g.step fun T locs X t q => XS.iadd X.here C.1 rfl (hb C.2.1 hd) rfl q
theorem w_isub (pc' : Nat) (C : Cx K Z own name code maxL ret R n0 Post) {x y : Int32} (hd : decode code pc = .ok (.isub, 1)) (hp : pc + 1 = pc') (g : Go K h cells slots pc' Ls (.int (x - y) :: st)) : Go K h cells slots pc Ls (.int y :: .int x :: st) := by
  subst hp; exact g.step fun T locs X t q => XS.isub X.here C.1 rfl (hb C.2.1 hd) rfl q
theorem w_imul (pc' : Nat) (C : Cx K Z own name code maxL ret R n0 Post) {x y : Int32} (hd : decode code pc = .ok (.imul, 1)) (hp : pc + 1 = pc') (g : Go K h cells slots pc' Ls (.int (x * y) :: st)) : Go K h cells slots pc Ls (.int y :: .int x :: st) := by
  subst hp; exact g.step fun T locs X t q => XS.imul X.here C.1 rfl (hb C.2.1 hd) rfl q
theorem w_iand (pc' : Nat) (C : Cx K Z own name code maxL ret R n0 Post) {x y : Int32} (hd : decode code pc = .ok (.iand, 1)) (hp : pc + 1 = pc') (g : Go K h cells slots pc' Ls (.int (x &&& y) :: st)) : Go K h cells slots pc Ls (.int y :: .int x :: st) := by
  subst hp; exact g.step fun T locs X t q => XS.iand X.here C.1 rfl (hb C.2.1 hd) rfl q
theorem w_ior (pc' : Nat) (C : Cx K Z own name code maxL ret R n0 Post) {x y : Int32} (hd : decode code pc = .ok (.ior, 1)) (hp : pc + 1 = pc') (g : Go K h cells slots pc' Ls (.int (x ||| y) :: st)) : Go K h cells slots pc Ls (.int y :: .int x :: st) := by
  subst hp; exact g.step fun T locs X t q => XS.ior X.here C.1 rfl (hb C.2.1 hd) rfl q
theorem w_ixor (pc' : Nat) (C : Cx K Z own name code maxL ret R n0 Post) {x y : Int32} (hd : decode code pc = .ok (.ixor, 1)) (hp : pc + 1 = pc') (g : Go K h cells slots pc' Ls (.int (x ^^^ y) :: st)) : Go K h cells slots pc Ls (.int y :: .int x :: st) := by
  subst hp; exact g.step fun T locs X t q => XS.ixor X.here C.1 rfl (hb C.2.1 hd) rfl q
theorem w_ishl (pc' : Nat) (C : Cx K Z own name code maxL ret R n0 Post) {x y : Int32} (hd : decode code pc = .ok (.ishl, 1)) (hp : pc + 1 = pc') (g : Go K h cells slots pc' Ls (.int (x <<< (y &&& 31)) :: st)) : Go K h cells slots pc Ls (.int y :: .int x :: st) := by
  subst hp; exact g.step fun T locs X t q => XS.ishl X.here C.1 rfl (hb C.2.1 hd) rfl q
theorem w_ishr (pc' : Nat) (C : Cx K Z own name code maxL ret R n0 Post) {x y : Int32} (hd : decode code pc = .ok (.ishr, 1)) (hp : pc + 1 = pc') (g : Go K h cells slots pc' Ls (.int (x >>> (y &&& 31)) :: st)) : Go K h cells slots pc Ls (.int y :: .int x :: st) := by
  subst hp; exact g.step fun T locs X t q => XS.ishr X.here C.1 rfl (hb C.2.1 hd) rfl q
theorem w_iushr (pc' : Nat) (C : Cx K Z own name code maxL ret R n0 Post) {x y : Int32} (hd : decode code pc = .ok (.iushr, 1)) (hp : pc + 1 = pc') (g : Go K h cells slots pc' Ls (.int ((x.toUInt32 >>> (y &&& 31).toUInt32).toInt32) :: st)) : Go K h cells slots pc Ls (.int y :: .int x :: st) := by
  subst hp; exact g.step fun T locs X t q => XS.iushr X.here C.1 rfl (hb C.2.1 hd) rfl q
theorem w_ladd (pc' : Nat) (C : Cx K Z own name code maxL ret R n0 Post) {x y : Int64} (hd : decode code pc = .ok (.ladd, 1)) (hp : pc + 1 = pc') (g : Go K h cells slots pc' Ls (.long (x + y) :: st)) : Go K h cells slots pc Ls (.long y :: .long x :: st) := by
  subst hp; exact g.step fun T locs X t q => XS.ladd X.here C.1 rfl (hb C.2.1 hd) rfl q
theorem w_lsub (pc' : Nat) (C : Cx K Z own name code maxL ret R n0 Post) {x y : Int64} (hd : decode code pc = .ok (.lsub, 1)) (hp : pc + 1 = pc') (g : Go K h cells slots pc' Ls (.long (x - y) :: st)) : Go K h cells slots pc Ls (.long y :: .long x :: st) := by
  subst hp; exact g.step fun T locs X t q => XS.lsub X.here C.1 rfl (hb C.2.1 hd) rfl q
theorem w_lmul (pc' : Nat) (C : Cx K Z own name code maxL ret R n0 Post) {x y : Int64} (hd : decode code pc = .ok (.lmul, 1)) (hp : pc + 1 = pc') (g : Go K h cells slots pc' Ls (.long (x * y) :: st)) : Go K h cells slots pc Ls (.long y :: .long x :: st) := by
  subst hp; exact g.step fun T locs X t q => XS.lmul X.here C.1 rfl (hb C.2.1 hd) rfl q
theorem w_land (pc' : Nat) (C : Cx K Z own name code maxL ret R n0 Post) {x y : Int64} (hd : decode code pc = .ok (.land, 1)) (hp : pc + 1 = pc') (g : Go K h cells slots pc' Ls (.long (x &&& y) :: st)) : Go K h cells slots pc Ls (.long y :: .long x :: st) := by
  subst hp; exact g.step fun T locs X t q => XS.land X.here C.1 rfl (hb C.2.1 hd) rfl q
theorem w_lor (pc' : Nat) (C : Cx K Z own name code maxL ret R n0 Post) {x y : Int64} (hd : decode code pc = .ok (.lor, 1)) (hp : pc + 1 = pc') (g : Go K h cells slots pc' Ls (.long (x ||| y) :: st)) : Go K h cells slots pc Ls (.long y :: .long x :: st) := by
  subst hp; exact g.step fun T locs X t q => XS.lor X.here C.1 rfl (hb C.2.1 hd) rfl q
theorem w_lxor (pc' : Nat) (C : Cx K Z own name code maxL ret R n0 Post) {x y : Int64} (hd : decode code pc = .ok (.lxor, 1)) (hp : pc + 1 = pc') (g : Go K h cells slots pc' Ls (.long (x ^^^ y) :: st)) : Go K h cells slots pc Ls (.long y :: .long x :: st) := by
  subst hp; exact g.step fun T locs X t q => XS.lxor X.here C.1 rfl (hb C.2.1 hd) rfl q
theorem w_lshl (pc' : Nat) (C : Cx K Z own name code maxL ret R n0 Post) {x : Int64} {y : Int32} (hd : decode code pc = .ok (.lshl, 1)) (hp : pc + 1 = pc') (g : Go K h cells slots pc' Ls (.long (x <<< (y &&& 0x3f).toInt64) :: st)) : Go K h cells slots pc Ls (.int y :: .long x :: st) := by
  subst hp; exact g.step fun T locs X t q => XS.lshl X.here C.1 rfl (hb C.2.1 hd) rfl q
theorem w_lshr (pc' : Nat) (C : Cx K Z own name code maxL ret R n0 Post) {x : Int64} {y : Int32} (hd : decode code pc = .ok (.lshr, 1)) (hp : pc + 1 = pc') (g : Go K h cells slots pc' Ls (.long (x >>> (y &&& 0x3f).toInt64) :: st)) : Go K h cells slots pc Ls (.int y :: .long x :: st) := by
  subst hp; exact g.step fun T locs X t q => XS.lshr X.here C.1 rfl (hb C.2.1 hd) rfl q
theorem w_lushr (pc' : Nat) (C : Cx K Z own name code maxL ret R n0 Post) {x : Int64} {y : Int32} (hd : decode code pc = .ok (.lushr, 1)) (hp : pc + 1 = pc') (g : Go K h cells slots pc' Ls (.long ((x.toUInt64 >>> (y &&& 0x3f).toInt64.toUInt64).toInt64) :: st)) : Go K h cells slots pc Ls (.int y :: .long x :: st) := by
  subst hp; exact g.step fun T locs X t q => XS.lushr X.here C.1 rfl (hb C.2.1 hd) rfl q
theorem w_ineg (pc' : Nat) (C : Cx K Z own name code maxL ret R n0 Post) {x : Int32} (hd : decode code pc = .ok (.ineg, 1)) (hp : pc + 1 = pc') (g : Go K h cells slots pc' Ls (.int (-x) :: st)) : Go K h cells slots pc Ls (.int x :: st) := by
  subst hp; exact g.step fun T locs X t q => XS.ineg X.here C.1 rfl (hb C.2.1 hd) rfl q
theorem w_lneg (pc' : Nat) (C : Cx K Z own name code maxL ret R n0 Post) {x : Int64} (hd : decode code pc = .ok (.lneg, 1)) (hp : pc + 1 = pc') (g : Go K h cells slots pc' Ls (.long (-x) :: st)) : Go K h cells slots pc Ls (.long x :: st) := by
  subst hp; exact g.step fun T locs X t q => XS.lneg X.here C.1 rfl (hb C.2.1 hd) rfl q
theorem w_i2l (pc' : Nat) (C : Cx K Z own name code maxL ret R n0 Post) {x : Int32} (hd : decode code pc = .ok (.i2l, 1)) (hp : pc + 1 = pc') (g : Go K h cells slots pc' Ls (.long (x.toInt64) :: st)) : Go K h cells slots pc Ls (.int x :: st) := by
  subst hp; exact g.step fun T locs X t q => XS.i2l X.here C.1 rfl (hb C.2.1 hd) rfl q
theorem w_l2i (pc' : Nat) (C : Cx K Z own name code maxL ret R n0 Post) {x : Int64} (hd : decode code pc = .ok (.l2i, 1)) (hp : pc + 1 = pc') (g : Go K h cells slots pc' Ls (.int (x.toInt32) :: st)) : Go K h cells slots pc Ls (.long x :: st) := by
  subst hp; exact g.step fun T locs X t q => XS.l2i X.here C.1 rfl (hb C.2.1 hd) rfl q
theorem w_i2b (pc' : Nat) (C : Cx K Z own name code maxL ret R n0 Post) {x : Int32} (hd : decode code pc = .ok (.i2b, 1)) (hp : pc + 1 = pc') (g : Go K h cells slots pc' Ls (.int (x.toInt8.toInt32) :: st)) : Go K h cells slots pc Ls (.int x :: st) := by
  subst hp; exact g.step fun T locs X t q => XS.i2b X.here C.1 rfl (hb C.2.1 hd) rfl q
theorem w_i2s (pc' : Nat) (C : Cx K Z own name code maxL ret R n0 Post) {x : Int32} (hd : decode code pc = .ok (.i2s, 1)) (hp : pc + 1 = pc') (g : Go K h cells slots pc' Ls (.int (x.toInt16.toInt32) :: st)) : Go K h cells slots pc Ls (.int x :: st) := by
  subst hp; exact g.step fun T locs X t q => XS.i2s X.here C.1 rfl (hb C.2.1 hd) rfl q
theorem w_i2c (pc' : Nat) (C : Cx K Z own name code maxL ret R n0 Post) {x : Int32} (hd : decode code pc = .ok (.i2c, 1)) (hp : pc + 1 = pc') (g : Go K h cells slots pc' Ls (.int (x.toUInt32.toUInt16.toUInt32.toInt32) :: st)) : Go K h cells slots pc Ls (.int x :: st) := by
  subst hp; exact g.step fun T locs X t q => XS.i2c X.here C.1 rfl (hb C.2.1 hd) rfl q
theorem w_idiv (pc' : Nat) (C : Cx K Z own name code maxL ret R n0 Post) {x y : Int32} (hd : decode code pc = .ok (.idiv, 1)) (hp : pc + 1 = pc') (hy : y ≠ 0) (g : Go K h cells slots pc' Ls (.int (x / y) :: st)) : Go K h cells slots pc Ls (.int y :: .int x :: st) := by
  subst hp; exact g.step fun T locs X t q => XS.idiv X.here C.1 rfl (hb C.2.1 hd) rfl hy q
theorem w_ldiv (pc' : Nat) (C : Cx K Z own name code maxL ret R n0 Post) {x y : Int64} (hd : decode code pc = .ok (.ldiv, 1)) (hp : pc + 1 = pc') (hy : y ≠ 0) (g : Go K h cells slots pc' Ls (.long (x / y) :: st)) : Go K h cells slots pc Ls (.long y :: .long x :: st) := by
  subst hp; exact g.step fun T locs X t q => XS.ldiv X.here C.1 rfl (hb C.2.1 hd) rfl hy q
theorem w_irem (pc' : Nat) (C : Cx K Z own name code maxL ret R n0 Post) {x y : Int32} (hd : decode code pc = .ok (.irem, 1)) (hp : pc + 1 = pc') (hy : y ≠ 0) (g : Go K h cells slots pc' Ls (.int (x % y) :: st)) : Go K h cells slots pc Ls (.int y :: .int x :: st) := by
  subst hp; exact g.step fun T locs X t q => iremM (g := mkF K.m pc Ls.toArray (.int y :: .int x :: st)) X C.1 rfl (hb C.2.1 hd) rfl hy q
theorem own_lrem (x y : Int64) : x - x / y * y = x % y := by
  apply Int64.toInt_inj.mp
  rw [Int64.toInt_sub, Int64.toInt_mul, Int64.toInt_div, Int64.toInt_mod, Int.tmod_def]
  have h1 := x.le_toInt; have h2 := x.toInt_lt
  have q : ((x.toInt.tdiv y.toInt).bmod (2 ^ 64) * y.toInt).bmod (2 ^ 64) = (x.toInt.tdiv y.toInt * y.toInt).bmod (2 ^ 64) := by rw [Int.bmod_mul_bmod]
  rw [q, Int.sub_bmod_bmod]
  rw [show x.toInt - x.toInt.tdiv y.toInt * y.toInt = x.toInt - y.toInt * x.toInt.tdiv y.toInt from by rw [Int.mul_comm], ← Int.tmod_def]
  have h3 : (x.toInt.tmod y.toInt).natAbs ≤ x.toInt.natAbs := by rw [Int.natAbs_tmod]; exact Nat.mod_le _ _
  have h4 := Int.tmod_nonneg (a := x.toInt) y.toInt
  have h5 := Int.tmod_nonneg (a := -x.toInt) y.toInt
  rw [Int.neg_tmod] at h5
  apply Int.bmod_eq_of_le <;> omega
theorem w_lrem (pc' : Nat) (C : Cx K Z own name code maxL ret R n0 Post) {x y : Int64} (hd : decode code pc = .ok (.lrem, 1)) (hp : pc + 1 = pc') (hy : y ≠ 0) (g : Go K h cells slots pc' Ls (.long (x % y) :: st)) : Go K h cells slots pc Ls (.long y :: .long x :: st) := by
  subst hp; exact g.step fun T locs X t q => XS.lrem X.here C.1 rfl (hb C.2.1 hd) rfl hy (by rw [own_lrem]; exact q)
theorem w_dup (pc' : Nat) (C : Cx K Z own name code maxL ret R n0 Post) {x : Value} (hd : decode code pc = .ok (.dup, 1)) (hp : pc + 1 = pc') (hc : x.category = 1) (g : Go K h cells slots pc' Ls (x :: x :: st)) : Go K h cells slots pc Ls (x :: st) := by
  subst hp; exact g.step fun T locs X t q => XS.dup X.here C.1 rfl (hb C.2.1 hd) rfl hc q
theorem w_pop (pc' : Nat) (C : Cx K Z own name code maxL ret R n0 Post) {x : Value} (hd : decode code pc = .ok (.pop, 1)) (hp : pc + 1 = pc') (hc : x.category = 1) (g : Go K h cells slots pc' Ls st) : Go K h cells slots pc Ls (x :: st) := by
  subst hp; exact g.step fun T locs X t q => XS.pop X.here C.1 rfl (hb C.2.1 hd) rfl hc q
theorem w_dupX1 (pc' : Nat) (C : Cx K Z own name code maxL ret R n0 Post) {x y : Value} (hd : decode code pc = .ok (.dup_x1, 1)) (hp : pc + 1 = pc') (hc : x.category = 1) (hc' : y.category = 1) (g : Go K h cells slots pc' Ls (x :: y :: x :: st)) : Go K h cells slots pc Ls (x :: y :: st) := by
  subst hp; exact g.step fun T locs X t q => XS.dupX1 X.here C.1 rfl (hb C.2.1 hd) rfl hc hc' q
/-! 3. jumps -/
theorem w_goto (pc' : Nat) (C : Cx K Z own name code maxL ret R n0 Post) {o : Int} (hd : decode code pc = .ok (.goto o, 3)) (hp : (pc : Int) + o = (pc' : Nat)) (g : Go K h cells slots pc' Ls st) : Go K h cells slots pc Ls st :=
  g.step fun T locs X t q => XS.goto X.here C.1 rfl (pc0 := pc) (pc' := pc') rfl (hb C.2.1 hd) (by omega) (by omega) q
/-- what a comparison asks, in plain words -/
def cP : ClassFile.Cond → Int32 → Int32 → Prop
  | .eq, x, y => x = y
  | .ne, x, y => ¬ (x = y)
  | .lt, x, y => x.toInt < y.toInt
  | .ge, x, y => y.toInt ≤ x.toInt
  | .gt, x, y => y.toInt < x.toInt
  | .le, x, y => x.toInt ≤ y.toInt
theorem own_icmpT {cd : ClassFile.Cond} {x y : Int32} (q : cP cd x y) : if_icmp.holds cd x y = true := by
  cases cd <;> simp only [cP] at q <;> simp [if_icmp.holds, Int32.lt_iff_toInt_lt, Int32.le_iff_toInt_le] <;> first | exact q | omega
theorem own_icmpF {cd : ClassFile.Cond} {x y : Int32} (q : ¬ cP cd x y) : if_icmp.holds cd x y = false := by
  cases cd <;> simp only [cP] at q <;> simp [if_icmp.holds, Int32.lt_iff_toInt_lt, Int32.le_iff_toInt_le] <;> first | exact q | omega | (simpa using q)
theorem w_icmpY (pc' : Nat) (C : Cx K Z own name code maxL ret R n0 Post) {cd : ClassFile.Cond} {x y : Int32} {o : Int} (hd : decode code pc = .ok (.if_icmp cd o, 3)) (hp : (pc : Int) + o = (pc' : Nat)) (q : cP cd x y) (g : Go K h cells slots pc' Ls st) : Go K h cells slots pc Ls (.int y :: .int x :: st) :=
  g.step fun T locs X t k => XS.icmpYes X.here C.1 rfl (pc0 := pc) (pc' := pc') rfl (hb C.2.1 hd) rfl (own_icmpT q) (by omega) (by omega) k
theorem w_icmpN (pc' : Nat) (C : Cx K Z own name code maxL ret R n0 Post) {cd : ClassFile.Cond} {x y : Int32} {o : Int} (hd : decode code pc = .ok (.if_icmp cd o, 3)) (hp : pc + 3 = pc') (q : ¬ cP cd x y) (g : Go K h cells slots pc' Ls st) : Go K h cells slots pc Ls (.int y :: .int x :: st) := by
  subst hp; exact g.step fun T locs X t k => XS.icmpNo X.here C.1 rfl (hb C.2.1 hd) rfl (own_icmpF q) k
theorem w_icmp (pcY pcN : Nat) (C : Cx K Z own name code maxL ret R n0 Post) {cd : ClassFile.Cond} {x y : Int32} {o : Int} (hd : decode code pc = .ok (.if_icmp cd o, 3)) (hp : (pc : Int) + o = (pcY : Nat)) (hn : pc + 3 = pcN) (gY : cP cd x y → Go K h cells slots pcY Ls st) (gN : ¬ cP cd x y → Go K h cells slots pcN Ls st) : Go K h cells slots pc Ls (.int y :: .int x :: st) := by
  by_cases q : cP cd x y
  · exact w_icmpY pcY C hd hp q (gY q)
  · exact w_icmpN pcN C hd hn q (gN q)
theorem w_ifY (pc' : Nat) (C : Cx K Z own name code maxL ret R n0 Post) {cd : ClassFile.Cond} {x : Int32} {o : Int} (hd : decode code pc = .ok (.ifCond cd o, 3)) (hp : (pc : Int) + o = (pc' : Nat)) (q : cP cd x 0) (g : Go K h cells slots pc' Ls st) : Go K h cells slots pc Ls (.int x :: st) :=
  g.step fun T locs X t k => XS.ifYes X.here C.1 rfl (pc0 := pc) (pc' := pc') rfl (hb C.2.1 hd) rfl ((if0 _ _).trans (own_icmpT q)) (by omega) (by omega) k
theorem w_ifN (pc' : Nat) (C : Cx K Z own name code maxL ret R n0 Post) {cd : ClassFile.Cond} {x : Int32} {o : Int} (hd : decode code pc = .ok (.ifCond cd o, 3)) (hp : pc + 3 = pc') (q : ¬ cP cd x 0) (g : Go K h cells slots pc' Ls st) : Go K h cells slots pc Ls (.int x :: st) := by
  subst hp; exact g.step fun T locs X t k => XS.ifNo X.here C.1 rfl (hb C.2.1 hd) rfl ((if0 _ _).trans (own_icmpF q)) k
theorem w_if (pcY pcN : Nat) (C : Cx K Z own name code maxL ret R n0 Post) {cd : ClassFile.Cond} {x : Int32} {o : Int} (hd : decode code pc = .ok (.ifCond cd o, 3)) (hp : (pc : Int) + o = (pcY : Nat)) (hn : pc + 3 = pcN) (gY : cP cd x 0 → Go K h cells slots pcY Ls st) (gN : ¬ cP cd x 0 → Go K h cells slots pcN Ls st) : Go K h cells slots pc Ls (.int x :: st) := by
  by_cases q : cP cd x 0
  · exact w_ifY pcY C hd hp q (gY q)
  · exact w_ifN pcN C hd hn q (gN q)
/-- lcmp and the branch behind it -/
def cL : ClassFile.Cond → Int64 → Int64 → Prop
  | .eq, x, y => x = y
  | .ne, x, y => ¬ (x = y)
  | .lt, x, y => x.toInt < y.toInt
  | .ge, x, y => y.toInt ≤ x.toInt
  | .gt, x, y => y.toInt < x.toInt
  | .le, x, y => x.toInt ≤ y.toInt
theorem own_lc (cd : ClassFile.Cond) (x y : Int64) : cP cd (lcmpW x y) 0 ↔ cL cd x y := by
  have h1 := lw_lt x y; have h2 := lw_gt x y; have h3 := lw_eq x y
  rw [Int32.lt_iff_toInt_lt, Int64.lt_iff_toInt_lt] at h1 h2
  cases cd <;> simp only [cP, cL]
  · exact h3
  · exact not_congr h3
  · exact h1
  · constructor <;> intro q <;> omega
  · exact h2
  · constructor <;> intro q <;> omega
theorem w_lcmp (pc' : Nat) (C : Cx K Z own name code maxL ret R n0 Post) {x y : Int64} (hd : decode code pc = .ok (.lcmp, 1)) (hp : pc + 1 = pc') (g : Go K h cells slots pc' Ls (.int (lcmpW x y) :: st)) : Go K h cells slots pc Ls (.long y :: .long x :: st) := by
  subst hp; exact g.step fun T locs X t q => XS.lcmp X.here C.1 rfl (hb C.2.1 hd) rfl q
theorem w_lifY (pc1 pc' : Nat) (C : Cx K Z own name code maxL ret R n0 Post) {cd : ClassFile.Cond} {x y : Int64} {o : Int} (hd0 : decode code pc = .ok (.lcmp, 1)) (hp0 : pc + 1 = pc1) (hd : decode code pc1 = .ok (.ifCond cd o, 3)) (hp : (pc1 : Int) + o = (pc' : Nat)) (q : cL cd x y) (g : Go K h cells slots pc' Ls st) : Go K h cells slots pc Ls (.long y :: .long x :: st) :=
  w_lcmp pc1 C hd0 hp0 (w_ifY pc' C hd hp ((own_lc cd x y).mpr q) g)
theorem w_lifN (pc1 pc' : Nat) (C : Cx K Z own name code maxL ret R n0 Post) {cd : ClassFile.Cond} {x y : Int64} {o : Int} (hd0 : decode code pc = .ok (.lcmp, 1)) (hp0 : pc + 1 = pc1) (hd : decode code pc1 = .ok (.ifCond cd o, 3)) (hp : pc1 + 3 = pc') (q : ¬ cL cd x y) (g : Go K h cells slots pc' Ls st) : Go K h cells slots pc Ls (.long y :: .long x :: st) :=
  w_lcmp pc1 C hd0 hp0 (w_ifN pc' C hd hp (fun z => q ((own_lc cd x y).mp z)) g)
theorem w_lif (pc1 pcY pcN : Nat) (C : Cx K Z own name code maxL ret R n0 Post) {cd : ClassFile.Cond} {x y : Int64} {o : Int} (hd0 : decode code pc = .ok (.lcmp, 1)) (hp0 : pc + 1 = pc1) (hd : decode code pc1 = .ok (.ifCond cd o, 3)) (hp : (pc1 : Int) + o = (pcY : Nat)) (hn : pc1 + 3 = pcN) (gY : cL cd x y → Go K h cells slots pcY Ls st) (gN : ¬ cL cd x y → Go K h cells slots pcN Ls st) : Go K h cells slots pc Ls (.long y :: .long x :: st) := by
  by_cases q : cL cd x y
  · exact w_lifY pc1 pcY C hd0 hp0 hd hp q (gY q)
  · exact w_lifN pc1 pcN C hd0 hp0 hd hn q (gN q)
theorem w_nullN (pc' : Nat) (C : Cx K Z own name code maxL ret R n0 Post) {b : Addr} {o : Int} (hd : decode code pc = .ok (.ifnull o, 3)) (hp : pc + 3 = pc') (g : Go K h cells slots pc' Ls st) : Go K h cells slots pc Ls (.ref b :: st) := by
  subst hp; exact g.step fun T locs X t k => XS.ifnullNo X.here C.1 rfl (hb C.2.1 hd) rfl k
theorem w_nonnullY (pc' : Nat) (C : Cx K Z own name code maxL ret R n0 Post) {b : Addr} {o : Int} (hd : decode code pc = .ok (.ifnonnull o, 3)) (hp : (pc : Int) + o = (pc' : Nat)) (g : Go K h cells slots pc' Ls st) : Go K h cells slots pc Ls (.ref b :: st) :=
  g.step fun T locs X t k => XS.ifnonnullYes X.here C.1 rfl (pc0 := pc) (pc' := pc') rfl (hb C.2.1 hd) rfl (by omega) (by omega) k
/-! 4. the end -/
theorem own_ret (C : Cx K Z own name code maxL ret R n0 Post) {v : Option Value} (hv : ret = none → v = none) (hc : cells ≤ R.cells) (hs : slots ≤ R.slots) (hq : Post v h)
    (hend : ∀ T locs, OwnSt K T locs cells slots → ∀ fs, (∀ (f : JFrame) (acts : List Action), f.method = K.m → f.locked = none → f.entered = [] → (doReturn K.e (T.setTop f) acts v).1 = T.setFrames fs) → Steps K.p.tables K.e K.below (T.setTop (mkF K.m pc Ls.toArray st)) (T.setFrames fs)) : Go K h cells slots pc Ls st := by
  obtain ⟨hx, hby, hml, hown, hnm, hret, hlk, hZ, hR, hn0, hPost⟩ := C
  intro T locs X eT N
  obtain ⟨fs, hr, hrun, hended, hW, hsame⟩ := X.leave (v := v) (fun q => hv (hret ▸ q)) hlk
  refine ⟨_, _, hend T locs X fs hr, hrun, hended, v, locs, rfl, ⟨N, ?_⟩, ⟨_, rfl⟩, hW, hsame.mono (by rw [hR]; exact hc) (by rw [hR]; exact hs)⟩
  rw [hPost]
  show Post v T.heap
  rw [eT]; exact hq
theorem w_retN {t : FieldType} (C : Cx K Z own name code maxL (some t) R n0 Post) (ht : t = .boolean ∨ t = .byte ∨ t = .char ∨ t = .short) {z z' : Int32} (hd : decode code pc = .ok (.ireturn, 1)) (hz : nar t z = z') (hc : cells ≤ R.cells) (hs : slots ≤ R.slots) (hq : Post (some (.int z')) h) : Go K h cells slots pc Ls (.int z :: st) := by
  subst hz
  exact own_ret C (fun q => by cases q) hc hs hq fun T locs X fs hr => retN X C.1 C.2.2.2.2.2.1 ht (hb C.2.1 hd) hr
theorem w_retI (C : Cx K Z own name code maxL (some .int) R n0 Post) {z : Int32} (hd : decode code pc = .ok (.ireturn, 1)) (hc : cells ≤ R.cells) (hs : slots ≤ R.slots) (hq : Post (some (.int z)) h) : Go K h cells slots pc Ls (.int z :: st) :=
  own_ret C (fun q => by cases q) hc hs hq fun T locs X fs hr => retOut X C.1 C.2.2.2.2.2.1 rfl (Or.inl ⟨rfl, Or.inl rfl, z, rfl⟩) (hb C.2.1 hd) hr
theorem w_retL (C : Cx K Z own name code maxL (some .long) R n0 Post) {z : Int64} (hd : decode code pc = .ok (.lreturn, 1)) (hc : cells ≤ R.cells) (hs : slots ≤ R.slots) (hq : Post (some (.long z)) h) : Go K h cells slots pc Ls (.long z :: st) :=
  own_ret C (fun q => by cases q) hc hs hq fun T locs X fs hr => retOut X C.1 C.2.2.2.2.2.1 rfl (Or.inr (Or.inl ⟨rfl, rfl, z, rfl⟩)) (hb C.2.1 hd) hr
theorem w_retA {t : FieldType} (C : Cx K Z own name code maxL (some t) R n0 Post) (ht : t.isReference = true) {z : Value} (hz : z.isRef = true) (hn : narrow t z = z) (hd : decode code pc = .ok (.areturn, 1)) (hc : cells ≤ R.cells) (hs : slots ≤ R.slots) (hq : Post (some z) h) : Go K h cells slots pc Ls (z :: st) :=
  own_ret C (fun q => by cases q) hc hs hq fun T locs X fs hr => retOut X C.1 C.2.2.2.2.2.1 hn (Or.inr (Or.inr (Or.inr (Or.inr ⟨rfl, ht, hz⟩)))) (hb C.2.1 hd) hr
theorem w_ret (C : Cx K Z own name code maxL none R n0 Post) (hd : decode code pc = .ok (.return_, 1)) (hc : cells ≤ R.cells) (hs : slots ≤ R.slots) (hq : Post none h) : Go K h cells slots pc Ls [] :=
  own_ret C (fun _ => rfl) hc hs hq fun T locs X fs hr => X.returnOut C.1 C.2.2.2.2.2.1 (hb C.2.1 hd) hr
/-! 5. arrays of ints, bytes .. -/
/-- the array at a holds these ints -/
def Ai (Z : State) (h : Heap) (a : Addr) (ty : FieldType) (vs : List Int32) : Prop := ∃ c : Cell, Arr Z h a c ty ∧ c.slots = (vs.map Value.int).toArray
theorem Ai.lt {a : Addr} {ty : FieldType} {vs : List Int32} (A : Ai Z h a ty vs) : a < h.size := by obtain ⟨c, A, -⟩ := A; exact A.lt
theorem Ai.keep {h' : Heap} {a : Addr} {ty : FieldType} {vs : List Int32} {ws : List Addr} (A : Ai Z h a ty vs) (K : Keep h h' ws) (q : a ∉ ws) : Ai Z h' a ty vs := by
  obtain ⟨c, A, r⟩ := A; exact ⟨c, ⟨K.2.1 a c A.1 q, A.2⟩, r⟩
theorem Ai.ext {h' : Heap} {a : Addr} {ty : FieldType} {vs : List Int32} (A : Ai Z h a ty vs) (E : Ext h h') : Ai Z h' a ty vs := by
  obtain ⟨c, A, r⟩ := A; exact ⟨c, A.ext E, r⟩
theorem own_idx {j : Int32} {i n : Nat} (hj : j.toInt = (i : Int)) (hi : i < n) : ¬ (j < 0 ∨ n ≤ j.toNatClampNeg) ∧ j.toNatClampNeg = i := by
  have q : j.toNatClampNeg = i := by rw [own_clamp, hj]; simp
  refine ⟨?_, q⟩
  rw [q, Int32.lt_iff_toInt_lt, hj]
  simp only [Int32.reduceToInt]
  omega
theorem w_newarr (pc' : Nat) (cap : Nat) (k : Nat) (C : Cx K Z own name code maxL ret R n0 Post) (hn0 : n0 ≤ h.size) {aty : ArrayType} {n : Int32} (hd : decode code pc = .ok (.newarray aty, 2)) (hp : pc + 2 = pc') (w : (Cond.arrayClass (newarray.typeOf aty)).before a0 Z = true) (hdef : defaultValue (newarray.typeOf aty) = .int 0) (hk : n.toInt = (k : Int)) (hcap : k ≤ cap) (hb0 : cap * 8 ≤ 536870912) (hc : cells + 1 ≤ R.cells) (hs : slots + cap ≤ R.slots)
    (g : ∀ h' a, Ext h h' → n0 ≤ a → h.size ≤ a → Ai Z h' a (newarray.typeOf aty) (List.replicate k 0) → n0 ≤ h'.size → Go K h' (cells + 1) (slots + cap) pc' Ls (.ref a :: st)) : Go K h cells slots pc Ls (.int n :: st) := by
  obtain ⟨hx, hby, hml, hown, hnm, hret, hlk, hZ, hR, hn, hPost⟩ := C
  subst hp
  intro T locs X eT N
  have hnn : ¬ n < 0 := by rw [Int32.lt_iff_toInt_lt, hk]; simp only [Int32.reduceToInt]; omega
  have hkn : n.toNatClampNeg = k := by rw [own_clamp, hk]; simp
  obtain ⟨T', h', cA, X', e', E, A, st'⟩ := newP X hx hZ w eT (g := mkF K.m pc Ls.toArray (.int n :: st)) rfl (hb hby hd) rfl hnn (cap := cap) (by omega) hb0 (by rw [hR]; exact hc) (by rw [hR]; exact hs)
  refine OwnDone.of (st' ·) (g h' h.size E hn0 (Nat.le_refl _) ⟨_, A, ?_⟩ (Nat.le_trans hn0 E.1) T' locs X' e' N)
  rw [own_newA, hkn, hdef]
  simp
theorem w_len (pc' : Nat) (z : Int32) (C : Cx K Z own name code maxL ret R n0 Post) {a : Addr} {ty : FieldType} {vs : List Int32} (A : Ai Z h a ty vs) (hd : decode code pc = .ok (.arraylength, 1)) (hp : pc + 1 = pc') (hz : vs.length.toInt32 = z) (g : Go K h cells slots pc' Ls (.int z :: st)) : Go K h cells slots pc Ls (.ref a :: st) := by
  obtain ⟨c, A, hc⟩ := A
  have hn : c.slots.size = vs.length := by rw [hc]; simp
  subst hp hz
  intro T locs X eT N
  refine OwnDone.of (fun t q => X.arraylength C.1 (by rw [eT]; exact A.1) (State.isArrayOf_alike C.2.2.2.2.2.2.2.1.alike A.2.1) (g := mkF K.m pc Ls.toArray (.ref a :: st)) rfl rfl (hb C.2.1 hd) t (by rw [hn]; exact q)) (g T locs X eT N)
theorem w_iaload (pc' : Nat) (i : Nat) (v : Int32) (C : Cx K Z own name code maxL ret R n0 Post) {a : Addr} {vs : List Int32} {j : Int32} (A : Ai Z h a .int vs) (hd : decode code pc = .ok (.iaload, 1)) (hp : pc + 1 = pc') (hj : j.toInt = (i : Int)) (hv : vs[i]? = some v) (g : Go K h cells slots pc' Ls (.int v :: st)) : Go K h cells slots pc Ls (.int j :: .ref a :: st) := by
  obtain ⟨c, A, hc⟩ := A
  have hi : i < vs.length := (List.getElem?_eq_some_iff.mp hv).1
  have hn : c.slots.size = vs.length := by rw [hc]; simp
  obtain ⟨q1, q2⟩ := own_idx (n := c.slots.size) hj (by rw [hn]; exact hi)
  have hat : c.slots[j.toNatClampNeg]? = some (.int v) := by rw [hc, q2]; simp [hv]
  subst hp
  intro T locs X eT N
  exact OwnDone.of (fun t q => X.iaload C.1 (by rw [eT]; exact A.1) (State.isArrayOf_alike C.2.2.2.2.2.2.2.1.alike A.2.1) A.2.2 q1 hat (g := mkF K.m pc Ls.toArray (.int j :: .ref a :: st)) rfl rfl (hb C.2.1 hd) t q) (g T locs X eT N)
theorem w_baload (pc' : Nat) (i : Nat) (v : Int32) (C : Cx K Z own name code maxL ret R n0 Post) {a : Addr} {vs : List Int32} {j : Int32} (A : Ai Z h a .byte vs) (hd : decode code pc = .ok (.baload, 1)) (hp : pc + 1 = pc') (hj : j.toInt = (i : Int)) (hv : vs[i]? = some v) (g : Go K h cells slots pc' Ls (.int v :: st)) : Go K h cells slots pc Ls (.int j :: .ref a :: st) := by
  obtain ⟨c, A, hc⟩ := A
  have hi : i < vs.length := (List.getElem?_eq_some_iff.mp hv).1
  have hn : c.slots.size = vs.length := by rw [hc]; simp
  obtain ⟨q1, q2⟩ := own_idx (n := c.slots.size) hj (by rw [hn]; exact hi)
  have hat : c.slots[j.toNatClampNeg]? = some (.int v) := by rw [hc, q2]; simp [hv]
  subst hp
  intro T locs X eT N
  exact OwnDone.of (fun t q => X.baloadBytes C.1 (by rw [eT]; exact A.1) (State.isArrayOf_alike C.2.2.2.2.2.2.2.1.alike A.2.1) A.2.2 q1 hat (g := mkF K.m pc Ls.toArray (.int j :: .ref a :: st)) rfl rfl (hb C.2.1 hd) t q) (g T locs X eT N)
theorem own_set {h' : Heap} {a : Addr} {ty : FieldType} {vs : List Int32} {c : Cell} {i : Nat} {x : Int32} (A : Arr Z h a c ty) (hc : c.slots = (vs.map Value.int).toArray) (W : Wr h h' a i (.int x)) : Ai Z h' a ty (vs.set i x) :=
  ⟨_, A.same W, by rw [own_setSlot, hc]; simp [List.map_set]⟩
theorem w_iastore (pc' : Nat) (i : Nat) (C : Cx K Z own name code maxL ret R n0 Post) {a : Addr} {vs : List Int32} {j x : Int32} (A : Ai Z h a .int vs) (ha : n0 ≤ a) (hd : decode code pc = .ok (.iastore, 1)) (hp : pc + 1 = pc') (hj : j.toInt = (i : Int)) (hi : i < vs.length)
    (g : ∀ h', Keep h h' [a] → Ai Z h' a .int (vs.set i x) → Go K h' cells slots pc' Ls st) : Go K h cells slots pc Ls (.int x :: .int j :: .ref a :: st) := by
  obtain ⟨c, A, hc⟩ := A
  have hn : c.slots.size = vs.length := by rw [hc]; simp
  obtain ⟨q1, q2⟩ := own_idx (n := c.slots.size) hj (by rw [hn]; exact hi)
  subst hp
  intro T locs X eT N
  obtain ⟨T', h', X', e', W, st'⟩ := stI X C.1 C.2.2.2.2.2.2.2.1 eT A (j := j) (x := x) q1 (g := mkF K.m pc Ls.toArray (.int x :: .int j :: .ref a :: st)) rfl rfl (hb C.2.1 hd)
  rw [q2] at X' W
  exact OwnDone.of (st' ·) (g h' (Keep.of_wr W) (own_set A hc W) T' _ X' e' (Fr.snoc X' N (by rw [C.2.2.2.2.2.2.2.2.2.1]; exact ha)))
theorem w_bastore (pc' : Nat) (i : Nat) (x' : Int32) (C : Cx K Z own name code maxL ret R n0 Post) {a : Addr} {vs : List Int32} {j x : Int32} (A : Ai Z h a .byte vs) (ha : n0 ≤ a) (hd : decode code pc = .ok (.bastore, 1)) (hp : pc + 1 = pc') (hj : j.toInt = (i : Int)) (hi : i < vs.length) (hx' : x.toInt8.toInt32 = x')
    (g : ∀ h', Keep h h' [a] → Ai Z h' a .byte (vs.set i x') → Go K h' cells slots pc' Ls st) : Go K h cells slots pc Ls (.int x :: .int j :: .ref a :: st) := by
  obtain ⟨c, A, hc⟩ := A
  have hn : c.slots.size = vs.length := by rw [hc]; simp
  obtain ⟨q1, q2⟩ := own_idx (n := c.slots.size) hj (by rw [hn]; exact hi)
  subst hp hx'
  intro T locs X eT N
  obtain ⟨T', h', X', e', W, st'⟩ := stB X C.1 C.2.2.2.2.2.2.2.1 eT A (j := j) (x := x) q1 (g := mkF K.m pc Ls.toArray (.int x :: .int j :: .ref a :: st)) rfl rfl (hb C.2.1 hd)
  rw [q2] at X' W
  exact OwnDone.of (st' ·) (g h' (Keep.of_wr W) (own_set A hc W) T' _ X' e' (Fr.snoc X' N (by rw [C.2.2.2.2.2.2.2.2.2.1]; exact ha)))
/-! 6. objects -/
theorem w_new (pc' : Nat) {Cn : String} {n i : Nat} (C : Cx K Z own name code maxL ret R n0 Post) (hn0 : n0 ≤ h.size) (hd : decode code pc = .ok (.new i, 3)) (hp : pc + 3 = pc') (w1 : (Cond.classLink own i Cn).before a0 Z = true) (w2 : (Cond.instantiable Cn n).before a0 Z = true) (w3 : (Cond.initialized Cn).before a0 Z = true) (hc : cells + 1 ≤ R.cells) (hs : slots + n ≤ R.slots)
    (g : ∀ h' a, Ext h h' → n0 ≤ a → h.size ≤ a → Exa Z h' a Cn → (∀ {O nm d : String} {ty : FieldType}, Laid Z a0 Cn O nm d → parseFieldDescriptor d = some ty → Fld Z h' a O nm d (defaultValue ty)) → n0 ≤ h'.size → Go K h' (cells + 1) (slots + n) pc' Ls (.ref a :: st)) : Go K h cells slots pc Ls st := by
  obtain ⟨hx, hby, hml, hown, hnm, hret, hlk, hZ, hR, hn, hPost⟩ := C
  subst hp
  intro T locs X eT N
  obtain ⟨T', h', X', e', E, A, D, -, st'⟩ := newO X hx hZ hown w1 w2 w3 eT (g := mkF K.m pc Ls.toArray st) rfl (hb hby hd) (by rw [hR]; exact hc) (by rw [hR]; exact hs)
  exact OwnDone.of (st' ·) (g h' h.size E hn0 (Nat.le_refl _) A D (Nat.le_trans hn0 E.1) T' locs X' e' N)
theorem w_getF (pc' : Nat) {R0 O n d host : String} {i : Nat} (C : Cx K Z own name code maxL ret R n0 Post) {a : Addr} {v : Value} (F : Fld Z h a O n d v) (hd : decode code pc = .ok (.getfield i, 3)) (hp : pc + 3 = pc') (w : (Cond.fieldLink own i R0 n d).before a0 Z = true ∨ (Cond.fieldLinkNest own i R0 n d host).before a0 Z = true) (via : Via Z R0 O n d) (g : Go K h cells slots pc' Ls (v :: st)) : Go K h cells slots pc Ls (.ref a :: st) := by
  subst hp
  intro T locs X eT N
  obtain ⟨T', X', e', st'⟩ := getF X C.1 C.2.2.2.2.2.2.2.1 C.2.2.2.1 w via eT F (g := mkF K.m pc Ls.toArray (.ref a :: st)) rfl rfl (hb C.2.1 hd)
  exact OwnDone.of (st' ·) (g T' locs X' e' N)
theorem w_putF (pc' : Nat) {R0 O n d host Cn : String} {i kk : Nat} {ty : FieldType} (C : Cx K Z own name code maxL ret R n0 Post) {a : Addr} {v old : Value} (F : Fld Z h a O n d old) (E : Exa Z h a Cn) (ha : n0 ≤ a) (hd : decode code pc = .ok (.putfield i, 3)) (hp : pc + 3 = pc') (w : (Cond.fieldLink own i R0 n d).before a0 Z = true ∨ (Cond.fieldLinkNest own i R0 n d host).before a0 Z = true) (via : Via Z R0 O n d)
    (L : (Cond.lays Cn O n d).before a0 Z = true ∨ ((Cond.laysFinal Cn O n d).before a0 Z = true ∧ own = O ∧ name = "<init>")) (wi : (Cond.instantiable Cn kk).before a0 Z = true) (hty : parseFieldDescriptor d = some ty) (hn : narrow ty v = v) (hf : fits ty v = true)
    (g : ∀ h', Keep h h' [a] → Wr h h' a (Jvm.RoadKit.slotOf Z O n d) v → Fld Z h' a O n d v → Exa Z h' a Cn → Go K h' cells slots pc' Ls st) : Go K h cells slots pc Ls (v :: .ref a :: st) := by
  subst hp
  intro T locs X eT N
  obtain ⟨T', h', X', e', W, st'⟩ := putF X C.1 C.2.2.2.2.2.2.2.1 C.2.2.2.1 w via eT F E (L.imp id fun q => ⟨q.1, q.2.1, C.2.2.2.2.1.trans q.2.2⟩) wi hty hn hf (g := mkF K.m pc Ls.toArray (v :: .ref a :: st)) rfl rfl (hb C.2.1 hd)
  exact OwnDone.of (st' ·) (g h' (Keep.of_wr W) W (F.same W) (E.wr W) T' _ X' e' (Fr.snoc X' N (by rw [C.2.2.2.2.2.2.2.2.2.1]; exact ha)))
theorem w_initO (pc' W : Nat) {i : Nat} (C : Cx K Z own name code maxL ret R n0 Post) {a : Addr} (hd : decode code pc = .ok (.invokespecial i, 3)) (hp : pc + 3 = pc') (w1 : (Cond.methodLink own i Lib.objectInit).before a0 Z = true) (w2 : (Cond.instanceMethod Lib.objectInit).before a0 Z = true) (w3 : (Cond.code Lib.objectInit ⟨#[0xb1]⟩ 1 none).before a0 Z = true)
    (hsz : Ls.length = maxL) (hf : 1 ≤ R.frames) (hW : (st.map fun v => v.category).sum ≤ W) (hl : W + 12 ≤ R.locals) (g : Go K h cells slots pc' Ls st) : Go K h cells slots pc Ls (.ref a :: st) := by
  obtain ⟨hx, hby, hml, hown, hnm, hret, hlk, hZ, hR, hn, hPost⟩ := C
  subst hp
  intro T locs X eT N
  obtain ⟨T', X', e', st'⟩ := initO X hx hZ hown w1 w2 w3 eT (g := mkF K.m pc Ls.toArray (.ref a :: st)) rfl (by rw [hml]; simpa using hsz) rfl (hb hby hd) (by rw [hR]; exact hf) (W := W) (by show 2 * 0 + _ ≤ _; simpa using hW) (by rw [hR]; exact hl)
  exact OwnDone.of (st' ·) (g T' locs X' e' N)
/-! 7. calls -/
theorem w_callS (pc' W : Nat) {y : MethodName} {bytes : ByteArray} {mL i : Nat} {rt : Option FieldType} {rm : Room} {P : Option Value → Heap → Prop} (argsL : List Value) (C : Cx K Z own name code maxL ret R n0 Post) (hd : decode code pc = .ok (.invokestatic i, 3)) (hp : pc + 3 = pc')
    (w1 : (Cond.methodLink own i y).before a0 Z = true) (w2 : (Cond.static y).before a0 Z = true) (w3 : (Cond.initialized y.cls).before a0 Z = true) (w4 : (Cond.code y bytes mL rt).before a0 Z = true) (hy : y.cls ≠ "java/lang/invoke/MethodHandle" ∧ y.cls ≠ "java/lang/invoke/VarHandle")
    (hM : OwnMet K.l y bytes mL rt [] rm Z h n0 argsL.toArray P) {ps : List FieldType} {r : Option FieldType} (hpd : parseMethodDescriptor y.desc = some ⟨ps, r⟩) (hlen : argsL.length = ps.length)
    (hst : st = argsL.reverse ++ rest) (hsz : Ls.length = maxL) (hW : (rest.map fun v => v.category).sum ≤ W) (hf : rm.frames + 1 ≤ R.frames) (hl : W + (mL + 11) + rm.locals ≤ R.locals) (hc : cells + rm.cells ≤ R.cells) (hs : slots + rm.slots ≤ R.slots)
    (g : ∀ v h', P v h' → Go K h' (cells + rm.cells) (slots + rm.slots) pc' Ls (v.toList ++ rest)) : Go K h cells slots pc Ls st := by
  obtain ⟨hx, hby, hml, hown, hnm, hret, hlk, hZ, hR, hn, hPost⟩ := C
  subst hp hst
  intro T locs X eT N
  obtain ⟨v, vm₁, ⟨T', L', k', n'⟩, -, X', ⟨Lc, hQ, l1, y1, z1⟩, st'⟩ := Jvm.LawKit.callS X hx (y := y) hown (mvT hZ w1) (mvT hZ w2) (mvT hZ w3) (mvT hZ w4) hy (backOf (W := W) (Q := fun v h L => Fr n0 L ∧ P v h) hM hZ w4 w3 (by rw [hR]; exact hf) (by rw [hR]; exact hl)) (g := mkF K.m pc Ls.toArray (argsL.reverse ++ rest)) rfl (by rw [hml]; simpa using hsz) (argsL := argsL) (rest := rest) (lenOf hpd hlen) rfl (by show 2 * 0 + _ ≤ _; simpa using hW) (hb hby hd) (fun _ _ => ⟨rfl, eT, by rw [hR]; exact hc, by rw [hR]; exact hs⟩)
  dsimp only [Pt.U, Pt.locs, Pt.cells, Pt.slots] at X' l1 y1 z1 st' hQ
  subst l1 y1 z1
  exact OwnDone.of (st' ·) (g v T'.heap hQ.2 T' _ X' rfl (Fr.app N (by rw [hn]; exact hQ.1)))
theorem w_callI (pc' W : Nat) {y : MethodName} {bytes : ByteArray} {mL i : Nat} {rm : Room} {P : Option Value → Heap → Prop} (argsL : List Value) (C : Cx K Z own name code maxL ret R n0 Post) {a : Addr} (hd : decode code pc = .ok (.invokespecial i, 3)) (hp : pc + 3 = pc') (hy1 : y.name = "<init>")
    (w1 : (Cond.methodLink own i y).before a0 Z = true) (w2 : (Cond.instanceMethod y).before a0 Z = true) (w3 : (Cond.initialized y.cls).before a0 Z = true) (w4 : (Cond.code y bytes mL none).before a0 Z = true) (hy : y.cls ≠ "java/lang/invoke/MethodHandle" ∧ y.cls ≠ "java/lang/invoke/VarHandle")
    (hM : OwnMet K.l y bytes mL none [] rm Z h n0 (.ref a :: argsL).toArray P) {ps : List FieldType} {r : Option FieldType} (hpd : parseMethodDescriptor y.desc = some ⟨ps, r⟩) (hlen : argsL.length = ps.length)
    (hst : st = argsL.reverse ++ .ref a :: rest) (hsz : Ls.length = maxL) (hW : (rest.map fun v => v.category).sum ≤ W) (hf : rm.frames + 1 ≤ R.frames) (hl : W + (mL + 11) + rm.locals ≤ R.locals) (hc : cells + rm.cells ≤ R.cells) (hs : slots + rm.slots ≤ R.slots)
    (g : ∀ v h', P v h' → Go K h' (cells + rm.cells) (slots + rm.slots) pc' Ls (v.toList ++ rest)) : Go K h cells slots pc Ls st := by
  obtain ⟨hx, hby, hml, hown, hnm, hret, hlk, hZ, hR, hn, hPost⟩ := C
  subst hp hst
  intro T locs X eT N
  obtain ⟨v, vm₁, ⟨T', L', k', n'⟩, -, X', ⟨Lc, hQ, l1, y1, z1⟩, st'⟩ := X.specialBack hx (y := y) hy1 hown (mvT hZ w1) (mvT hZ w2) (mvT hZ w4) hy (backOf (W := W) (Q := fun v h L => Fr n0 L ∧ P v h) hM hZ w4 w3 (by rw [hR]; exact hf) (by rw [hR]; exact hl)) (g := mkF K.m pc Ls.toArray (argsL.reverse ++ .ref a :: rest)) rfl (by rw [hml]; simpa using hsz) (Steps.refl _) (a := a) (argsL := argsL) (rest := rest) (lenOf hpd hlen) rfl (by show 2 * 0 + _ ≤ _; simpa using hW) (hb hby hd) (fun _ _ => ⟨rfl, eT, by rw [hR]; exact hc, by rw [hR]; exact hs⟩)
  dsimp only [Pt.U, Pt.locs, Pt.cells, Pt.slots] at X' l1 y1 z1 st' hQ
  subst l1 y1 z1
  exact OwnDone.of (fun t q => st'.trans q) (g v T'.heap hQ.2 T' _ X' rfl (Fr.app N (by rw [hn]; exact hQ.1)))
theorem w_callIN (pc' W : Nat) {host : String} {y : MethodName} {bytes : ByteArray} {mL i : Nat} {rm : Room} {P : Option Value → Heap → Prop} (argsL : List Value) (C : Cx K Z own name code maxL ret R n0 Post) {a : Addr} (hd : decode code pc = .ok (.invokespecial i, 3)) (hp : pc + 3 = pc') (hy1 : y.name = "<init>")
    (w1 : (Cond.methodLinkNest own i y host).before a0 Z = true) (w2 : (Cond.instanceMethod y).before a0 Z = true) (w3 : (Cond.initialized y.cls).before a0 Z = true) (w4 : (Cond.code y bytes mL none).before a0 Z = true) (hy : y.cls ≠ "java/lang/invoke/MethodHandle" ∧ y.cls ≠ "java/lang/invoke/VarHandle")
    (hM : OwnMet K.l y bytes mL none [] rm Z h n0 (.ref a :: argsL).toArray P) {ps : List FieldType} {r : Option FieldType} (hpd : parseMethodDescriptor y.desc = some ⟨ps, r⟩) (hlen : argsL.length = ps.length)
    (hst : st = argsL.reverse ++ .ref a :: rest) (hsz : Ls.length = maxL) (hW : (rest.map fun v => v.category).sum ≤ W) (hf : rm.frames + 1 ≤ R.frames) (hl : W + (mL + 11) + rm.locals ≤ R.locals) (hc : cells + rm.cells ≤ R.cells) (hs : slots + rm.slots ≤ R.slots)
    (g : ∀ v h', P v h' → Go K h' (cells + rm.cells) (slots + rm.slots) pc' Ls (v.toList ++ rest)) : Go K h cells slots pc Ls st := by
  obtain ⟨hx, hby, hml, hown, hnm, hret, hlk, hZ, hR, hn, hPost⟩ := C
  subst hp hst
  intro T locs X eT N
  obtain ⟨v, vm₁, ⟨T', L', k', n'⟩, -, X', ⟨Lc, hQ, l1, y1, z1⟩, st'⟩ := X.specialBackNest hx (y := y) hy1 hown (Cond.methodLinkNest_wide hZ w1 :) (mvT hZ w2) (mvT hZ w4) hy (backOf (W := W) (Q := fun v h L => Fr n0 L ∧ P v h) hM hZ w4 w3 (by rw [hR]; exact hf) (by rw [hR]; exact hl)) (g := mkF K.m pc Ls.toArray (argsL.reverse ++ .ref a :: rest)) rfl (by rw [hml]; simpa using hsz) (Steps.refl _) (a := a) (argsL := argsL) (rest := rest) (lenOf hpd hlen) rfl (by show 2 * 0 + _ ≤ _; simpa using hW) (hb hby hd) (fun _ _ => ⟨rfl, eT, by rw [hR]; exact hc, by rw [hR]; exact hs⟩)
  dsimp only [Pt.U, Pt.locs, Pt.cells, Pt.slots] at X' l1 y1 z1 st' hQ
  subst l1 y1 z1
  exact OwnDone.of (fun t q => st'.trans q) (g v T'.heap hQ.2 T' _ X' rfl (Fr.app N (by rw [hn]; exact hQ.1)))
theorem w_callV (pc' W : Nat) {Cn : String} {y : MethodName} {bytes : ByteArray} {mL i : Nat} {rt : Option FieldType} {rm : Room} {P : Option Value → Heap → Prop} (argsL : List Value) (C : Cx K Z own name code maxL ret R n0 Post) {a : Addr} (E : Exa Z h a Cn) (hd : decode code pc = .ok (.invokevirtual i, 3)) (hp : pc + 3 = pc')
    (w1 : (Cond.methodLink own i y).before a0 Z = true) (w2 : (Cond.declares y).before a0 Z = true) (w5 : (Cond.selects Cn y y).before a0 Z = true) (w6 : (Cond.instanceMethod y).before a0 Z = true) (w3 : (Cond.initialized y.cls).before a0 Z = true) (w4 : (Cond.code y bytes mL rt).before a0 Z = true) (hy : y.cls ≠ "java/lang/invoke/MethodHandle" ∧ y.cls ≠ "java/lang/invoke/VarHandle")
    (hM : OwnMet K.l y bytes mL rt [] rm Z h n0 (.ref a :: argsL).toArray P) {ps : List FieldType} {r : Option FieldType} (hpd : parseMethodDescriptor y.desc = some ⟨ps, r⟩) (hlen : argsL.length = ps.length)
    (hst : st = argsL.reverse ++ .ref a :: rest) (hsz : Ls.length = maxL) (hW : (rest.map fun v => v.category).sum ≤ W) (hf : rm.frames + 1 ≤ R.frames) (hl : W + (mL + 11) + rm.locals ≤ R.locals) (hc : cells + rm.cells ≤ R.cells) (hs : slots + rm.slots ≤ R.slots)
    (g : ∀ v h', P v h' → Go K h' (cells + rm.cells) (slots + rm.slots) pc' Ls (v.toList ++ rest)) : Go K h cells slots pc Ls st := by
  obtain ⟨hx, hby, hml, hown, hnm, hret, hlk, hZ, hR, hn, hPost⟩ := C
  subst hp hst
  intro T locs X eT N
  obtain ⟨cq, kq, qa, qb, qc⟩ := isOf hZ eT E
  obtain ⟨v, vm₁, ⟨T', L', k', n'⟩, -, X', ⟨Lc, hQ, l1, y1, z1⟩, st'⟩ := X.virtualBack hx (y := y) (z := y) hown (mvT hZ w1) (mvT hZ w2) (notFace_of_selects (args := #[]) (mvT hZ w5)) (mvT hZ w5) (mvT hZ w6) hy (backOf (W := W) (Q := fun v h L => Fr n0 L ∧ P v h) hM hZ w4 w3 (by rw [hR]; exact hf) (by rw [hR]; exact hl)) qa qc (g := mkF K.m pc Ls.toArray (argsL.reverse ++ .ref a :: rest)) rfl (by rw [hml]; simpa using hsz) (Steps.refl _) (argsL := argsL) (rest := rest) (lenOf hpd hlen) rfl (by show 2 * 0 + _ ≤ _; simpa using hW) (hb hby hd) (fun _ _ => ⟨rfl, eT, by rw [hR]; exact hc, by rw [hR]; exact hs⟩)
  dsimp only [Pt.U, Pt.locs, Pt.cells, Pt.slots] at X' l1 y1 z1 st' hQ
  subst l1 y1 z1
  exact OwnDone.of (fun t q => st'.trans q) (g v T'.heap hQ.2 T' _ X' rfl (Fr.app N (by rw [hn]; exact hQ.1)))
theorem w_callP (pc' W : Nat) {Cn : String} {y z : MethodName} {bytes : ByteArray} {mL i : Nat} {rt : Option FieldType} {rm : Room} {P : Option Value → Heap → Prop} (argsL : List Value) (C : Cx K Z own name code maxL ret R n0 Post) {a : Addr} (E : Exa Z h a Cn) (hd : decode code pc = .ok (.invokevirtual i, 3)) (hp : pc + 3 = pc')
    (w1 : (Cond.methodLink own i y).before a0 Z = true) (w7 : (Cond.privateMethod y).before a0 Z = true) (w5 : (Cond.selects z.cls z z).before a0 Z = true) (hzy : z.cls = y.cls) (w6 : (Cond.instanceMethod y).before a0 Z = true) (w3 : (Cond.initialized y.cls).before a0 Z = true) (w4 : (Cond.code y bytes mL rt).before a0 Z = true) (hy : y.cls ≠ "java/lang/invoke/MethodHandle" ∧ y.cls ≠ "java/lang/invoke/VarHandle")
    (hM : OwnMet K.l y bytes mL rt [] rm Z h n0 (.ref a :: argsL).toArray P) {ps : List FieldType} {r : Option FieldType} (hpd : parseMethodDescriptor y.desc = some ⟨ps, r⟩) (hlen : argsL.length = ps.length)
    (hst : st = argsL.reverse ++ .ref a :: rest) (hsz : Ls.length = maxL) (hW : (rest.map fun v => v.category).sum ≤ W) (hf : rm.frames + 1 ≤ R.frames) (hl : W + (mL + 11) + rm.locals ≤ R.locals) (hc : cells + rm.cells ≤ R.cells) (hs : slots + rm.slots ≤ R.slots)
    (g : ∀ v h', P v h' → Go K h' (cells + rm.cells) (slots + rm.slots) pc' Ls (v.toList ++ rest)) : Go K h cells slots pc Ls st := by
  obtain ⟨hx, hby, hml, hown, hnm, hret, hlk, hZ, hR, hn, hPost⟩ := C
  subst hp hst
  intro T locs X eT N
  have hpriv : K.s.PrivateAt y := Cond.privateMethod_at (mvP hZ w7 (args := #[]))
  have hsel : (Cond.selects y.cls y y).before K.args K.s = true := by
    obtain ⟨c2, r2, m2, q1, q2, q3, q4, kP, hkP, hkPi⟩ := Cond.selects_spec (mvT hZ w5 (args := #[]))
    exact selects_self_of_private (by rw [← hzy]; exact findClass_of_methodNamed q3) hkP hkPi hpriv (mvT hZ w6) hy
  obtain ⟨cq, q1, q2⟩ := E.cell
  obtain ⟨v, vm₁, ⟨T', L', k', n'⟩, -, X', ⟨Lc, hQ, l1, y1, z1⟩, st'⟩ := X.privateBack hx (y := y) hown (mvT hZ w1) (mvT hZ w6) hsel hpriv (mvT hZ w4) hy (backOf (W := W) (Q := fun v h L => Fr n0 L ∧ P v h) hM hZ w4 w3 (by rw [hR]; exact hf) (by rw [hR]; exact hl)) (g := mkF K.m pc Ls.toArray (argsL.reverse ++ .ref a :: rest)) rfl (by rw [hml]; simpa using hsz) (Steps.refl _) (a := a) (by rw [eT]; exact q1) q2 (argsL := argsL) (rest := rest) (lenOf hpd hlen) rfl (by show 2 * 0 + _ ≤ _; simpa using hW) (hb hby hd) (fun _ _ => ⟨rfl, eT, by rw [hR]; exact hc, by rw [hR]; exact hs⟩)
  dsimp only [Pt.U, Pt.locs, Pt.cells, Pt.slots] at X' l1 y1 z1 st' hQ
  subst l1 y1 z1
  exact OwnDone.of (fun t q => st'.trans q) (g v T'.heap hQ.2 T' _ X' rfl (Fr.app N (by rw [hn]; exact hQ.1)))
theorem Go.more {c' s' : Nat} (g : Go K h c' s' pc Ls st) (h1 : cells ≤ c') (h2 : slots ≤ s') : Go K h cells slots pc Ls st := fun T locs X e N => g T locs (X.more h1 h2) e N
end OwnLaws
/-! 8. numbers -/
theorem own_un (x : Int32) : (x.toUInt32.toNat : Int) = x.toInt % 4294967296 := by
  have h1 : x.toInt = x.toBitVec.toInt := rfl
  have h2 : x.toUInt32.toNat = x.toBitVec.toNat := rfl
  rw [h1, h2, BitVec.toInt_eq_toNat_cond]
  have := x.toBitVec.isLt
  split <;> omega
theorem own_ul (x : Int64) : (x.toUInt64.toNat : Int) = x.toInt % 18446744073709551616 := by
  have h1 : x.toInt = x.toBitVec.toInt := rfl
  have h2 : x.toUInt64.toNat = x.toBitVec.toNat := rfl
  rw [h1, h2, BitVec.toInt_eq_toNat_cond]
  have := x.toBitVec.isLt
  split <;> omega
theorem own_in (u : UInt32) : (u.toInt32).toInt = ((u.toNat : Int) + 2147483648) % 4294967296 - 2147483648 := by
  have h1 : (u.toInt32).toInt = u.toBitVec.toInt := rfl
  have h2 : u.toNat = u.toBitVec.toNat := rfl
  rw [h1, h2, BitVec.toInt_eq_toNat_cond]
  have := u.toBitVec.isLt
  split <;> omega
theorem own_il (u : UInt64) : (u.toInt64).toInt = ((u.toNat : Int) + 9223372036854775808) % 18446744073709551616 - 9223372036854775808 := by
  have h1 : (u.toInt64).toInt = u.toBitVec.toInt := rfl
  have h2 : u.toNat = u.toBitVec.toNat := rfl
  rw [h1, h2, BitVec.toInt_eq_toNat_cond]
  have := u.toBitVec.isLt
  split <;> omega
theorem own_i2b (x : Int32) : (x.toInt8.toInt32).toInt = (x.toInt + 128) % 256 - 128 := by
  rw [Int8.toInt_toInt32, Int32.toInt_toInt8, Int.bmod_def]
  split <;> omega
theorem own_u16 (u : UInt16) : (u.toUInt32.toInt32).toInt = u.toNat := by
  have hu := u.toNat_lt
  rw [own_in, UInt16.toNat_toUInt32]
  omega
theorem own_i2c (x : Int32) : (x.toUInt32.toUInt16.toUInt32.toInt32).toInt = x.toInt % 65536 := by
  rw [own_u16, UInt32.toNat_toUInt16]
  have := own_un x
  omega
theorem own_l2i (x : Int64) : (x.toInt32).toInt = (x.toInt + 2147483648) % 4294967296 - 2147483648 := by
  rw [Int64.toInt_toInt32, Int.bmod_def]
  split <;> omega
theorem own_i2l (x : Int32) : (x.toInt64).toInt = x.toInt := Int32.toInt_toInt64 x
theorem own_iadd (x y : Int32) : (x + y).toInt = (x.toInt + y.toInt + 2147483648) % 4294967296 - 2147483648 := by
  rw [Int32.toInt_add, Int.bmod_def]; split <;> omega
theorem own_isub (x y : Int32) : (x - y).toInt = (x.toInt - y.toInt + 2147483648) % 4294967296 - 2147483648 := by
  rw [Int32.toInt_sub, Int.bmod_def]; split <;> omega
theorem own_imul (x y : Int32) : (x * y).toInt = (x.toInt * y.toInt + 2147483648) % 4294967296 - 2147483648 := by
  rw [Int32.toInt_mul, Int.bmod_def]; split <;> omega
theorem own_ladd (x y : Int64) : (x + y).toInt = (x.toInt + y.toInt + 9223372036854775808) % 18446744073709551616 - 9223372036854775808 := by
  rw [Int64.toInt_add, Int.bmod_def]; split <;> omega
theorem own_lsub (x y : Int64) : (x - y).toInt = (x.toInt - y.toInt + 9223372036854775808) % 18446744073709551616 - 9223372036854775808 := by
  rw [Int64.toInt_sub, Int.bmod_def]; split <;> omega
theorem own_iushr (x : Int32) {n : UInt32} (k : Nat) (hn : n.toNat = k) (h0 : 0 < k) (hk : k < 32) : ((x.toUInt32 >>> n).toInt32).toInt = x.toInt % 4294967296 / 2 ^ k := by
  have h1 : (x.toUInt32 >>> n).toNat = x.toUInt32.toNat / 2 ^ k := by rw [UInt32.toNat_shiftRight, hn, Nat.mod_eq_of_lt hk, Nat.shiftRight_eq_div_pow]
  have h2 := own_un x
  have h3 : x.toUInt32.toNat / 2 ^ k < 2147483648 := by
    have q : x.toUInt32.toNat < 4294967296 := x.toUInt32.toNat_lt
    have r : 2 ^ 1 ≤ 2 ^ k := Nat.pow_le_pow_right (by omega) h0
    exact Nat.div_lt_of_lt_mul (by omega)
  rw [own_in, h1, ← h2]
  have h4 : ((x.toUInt32.toNat : Int)) / 2 ^ k = ((x.toUInt32.toNat / 2 ^ k : Nat) : Int) := by simp
  rw [h4]
  omega
theorem own_lushr (x : Int64) {n : UInt64} (k : Nat) (hn : n.toNat = k) (h0 : 0 < k) (hk : k < 64) : ((x.toUInt64 >>> n).toInt64).toInt = x.toInt % 18446744073709551616 / 2 ^ k := by
  have h1 : (x.toUInt64 >>> n).toNat = x.toUInt64.toNat / 2 ^ k := by rw [UInt64.toNat_shiftRight, hn, Nat.mod_eq_of_lt hk, Nat.shiftRight_eq_div_pow]
  have h2 := own_ul x
  have h3 : x.toUInt64.toNat / 2 ^ k < 9223372036854775808 := by
    have q : x.toUInt64.toNat < 18446744073709551616 := x.toUInt64.toNat_lt
    have r : 2 ^ 1 ≤ 2 ^ k := Nat.pow_le_pow_right (by omega) h0
    exact Nat.div_lt_of_lt_mul (by omega)
  rw [own_il, h1, ← h2]
  have h4 : ((x.toUInt64.toNat : Int)) / 2 ^ k = ((x.toUInt64.toNat / 2 ^ k : Nat) : Int) := by simp
  rw [h4]
  omega
theorem own_mask (x m : Int32) (k : Nat) (hk : k < 32) (hm : m.toBitVec.toNat = 2 ^ k - 1) : (x &&& m).toInt = x.toInt % 2 ^ k := Jvm.Kit.i32_mask x m hk hm
theorem own_maskL (x m : Int64) (k : Nat) (hk : k < 64) (hm : m.toBitVec.toNat = 2 ^ k - 1) : (x &&& m).toInt = x.toInt % 2 ^ k := Jvm.Kit.i64_mask x m hk hm
theorem own_orN (a b q k : Nat) (ha : a < 2 ^ k) (hb : b = 2 ^ k * q) : a ||| b = a + b := by
  rw [Nat.or_comm, hb, ← Nat.two_pow_add_eq_or_of_lt ha, Nat.add_comm]
theorem own_or (x y : Int32) (k : Nat) (q : Nat) (h0 : 0 ≤ x.toInt) (h1 : x.toInt < 2 ^ k) (h2 : y.toInt = 2 ^ k * (q : Int)) (h3 : x.toInt + y.toInt < 2147483648) : (x ||| y).toInt = x.toInt + y.toInt := by
  have e1 := own_un x; have e2 := own_un y
  have n2 : (0 : Int) ≤ y.toInt := by rw [h2]; exact Int.mul_nonneg (Int.le_of_lt (Int.pow_pos (by decide))) (by omega)
  have a1 : x.toUInt32.toNat < 2 ^ k := by
    have : (x.toUInt32.toNat : Int) < ((2 ^ k : Nat) : Int) := by rw [e1, Int.natCast_pow]; have := x.toInt_lt; have := Int.emod_eq_of_lt h0 (by omega : x.toInt < 4294967296); rw [this]; exact h1
    omega
  have a2 : y.toUInt32.toNat = 2 ^ k * q := by
    have : (y.toUInt32.toNat : Int) = ((2 ^ k * q : Nat) : Int) := by rw [e2, Int.natCast_mul, Int.natCast_pow]; have := y.toInt_lt; rw [Int.emod_eq_of_lt n2 (by omega)]; exact h2
    omega
  have e3 : (x ||| y).toUInt32.toNat = x.toUInt32.toNat ||| y.toUInt32.toNat := rfl
  have e4 := own_un (x ||| y)
  rw [e3, own_orN _ _ q k a1 a2] at e4
  have r1 := (x ||| y).toInt_lt; have r2 := (x ||| y).le_toInt
  have s1 := x.toInt_lt; have s2 := y.toInt_lt
  omega
theorem own_xor1 (x : Int32) : (x ^^^ 1).toInt = x.toInt + 1 - 2 * (x.toInt % 2) := by
  have e1 := own_un x
  have e3 : (x ^^^ 1).toUInt32.toNat = x.toUInt32.toNat ^^^ 1 := rfl
  have e4 := own_un (x ^^^ 1)
  rw [e3] at e4
  have d1 : (x.toUInt32.toNat ^^^ 1) / 2 = x.toUInt32.toNat / 2 := by rw [Nat.xor_div_two]; simp
  have d2 : (x.toUInt32.toNat ^^^ 1) % 2 = (x.toUInt32.toNat + 1) % 2 := by
    have t0 : (x.toUInt32.toNat ^^^ 1).testBit 0 = (x.toUInt32.toNat.testBit 0 ^^ (1 : Nat).testBit 0) := Nat.testBit_xor _ _ _
    rw [Nat.testBit_zero, Nat.testBit_zero, Nat.testBit_zero] at t0
    rcases Nat.mod_two_eq_zero_or_one x.toUInt32.toNat with q | q <;> rcases Nat.mod_two_eq_zero_or_one (x.toUInt32.toNat ^^^ 1) with r | r <;> rw [q, r] at t0 <;> first | (exfalso; revert t0; decide) | omega
  have r1 := (x ^^^ 1).toInt_lt; have r2 := (x ^^^ 1).le_toInt
  have s1 := x.toInt_lt; have s2 := x.le_toInt
  omega
theorem own_eqi {x y : Int32} : x = y ↔ x.toInt = y.toInt := Int32.toInt_inj.symm
theorem own_eqli {x y : Int64} : x = y ↔ x.toInt = y.toInt := Int64.toInt_inj.symm
theorem own_eq {x y : Int32} (h : x.toInt = y.toInt) : x = y := Int32.toInt_inj.mp h
theorem own_eqL {x y : Int64} (h : x.toInt = y.toInt) : x = y := Int64.toInt_inj.mp h
theorem own_ne {x y : Int32} (h : ¬ x = y) : x.toInt ≠ y.toInt := fun q => h (Int32.toInt_inj.mp q)
theorem own_neL {x y : Int64} (h : ¬ x = y) : x.toInt ≠ y.toInt := fun q => h (Int64.toInt_inj.mp q)
theorem own_or32N (n : Nat) : n ||| 32 = n + 32 - 32 * (n / 32 % 2) := by
  have hs : ∀ s, s < 64 → s ||| 32 = s + 32 - 32 * (s / 32 % 2) ∧ s ||| 32 < 64 := by decide
  have h1 := hs (n % 64) (Nat.mod_lt _ (by decide))
  have h2 : n = 2 ^ 6 * (n / 64) ||| (n % 64) := by rw [← Nat.two_pow_add_eq_or_of_lt (i := 6) (Nat.mod_lt _ (by decide))]; omega
  have h3 : n ||| 32 = 2 ^ 6 * (n / 64) + (n % 64 ||| 32) := by
    rw [Nat.two_pow_add_eq_or_of_lt (i := 6) h1.2, ← Nat.or_assoc, ← h2]
  rw [h3, h1.1]
  omega
theorem own_or32 (x : Int32) (h0 : 0 ≤ x.toInt) (h1 : x.toInt < 65536) : (x ||| 32).toInt = x.toInt + 32 - 32 * (x.toInt / 32 % 2) := by
  have e1 := own_un x; have e4 := own_un (x ||| 32)
  have e3 : (x ||| 32).toUInt32.toNat = x.toUInt32.toNat ||| 32 := rfl
  rw [e3, own_or32N] at e4
  have r1 := (x ||| 32).toInt_lt; have r2 := (x ||| 32).le_toInt
  omega
theorem d1_0 : decode prog_17_method_15_code 0 = .ok (.lload_n 2, 1) := by decide +kernel
theorem d1_1 : decode prog_17_method_15_code 1 = .ok (.lstore 4, 2) := by decide +kernel
theorem d1_3 : decode prog_17_method_15_code 3 = .ok (.iload_n 1, 1) := by decide +kernel
theorem d1_4 : decode prog_17_method_15_code 4 = .ok (.istore 6, 2) := by decide +kernel
theorem d1_6 : decode prog_17_method_15_code 6 = .ok (.lload 4, 2) := by decide +kernel
theorem d1_8 : decode prog_17_method_15_code 8 = .ok (.ldc2_w 122, 3) := by decide +kernel
theorem d1_11 : decode prog_17_method_15_code 11 = .ok (.land, 1) := by decide +kernel
theorem d1_12 : decode prog_17_method_15_code 12 = .ok (.lconst 0, 1) := by decide +kernel
theorem d1_13 : decode prog_17_method_15_code 13 = .ok (.lcmp, 1) := by decide +kernel
theorem d1_14 : decode prog_17_method_15_code 14 = .ok (.ifCond .eq 28, 3) := by decide +kernel
theorem d1_17 : decode prog_17_method_15_code 17 = .ok (.aload_n 0, 1) := by decide +kernel
theorem d1_18 : decode prog_17_method_15_code 18 = .ok (.iload 6, 2) := by decide +kernel
theorem d1_20 : decode prog_17_method_15_code 20 = .ok (.iinc 6 1, 3) := by decide +kernel
theorem d1_23 : decode prog_17_method_15_code 23 = .ok (.lload 4, 2) := by decide +kernel
theorem d1_25 : decode prog_17_method_15_code 25 = .ok (.ldc2_w 124, 3) := by decide +kernel
theorem d1_28 : decode prog_17_method_15_code 28 = .ok (.lor, 1) := by decide +kernel
theorem d1_29 : decode prog_17_method_15_code 29 = .ok (.l2i, 1) := by decide +kernel
theorem d1_30 : decode prog_17_method_15_code 30 = .ok (.i2b, 1) := by decide +kernel
theorem d1_31 : decode prog_17_method_15_code 31 = .ok (.bastore, 1) := by decide +kernel
theorem d1_32 : decode prog_17_method_15_code 32 = .ok (.lload 4, 2) := by decide +kernel
theorem d1_34 : decode prog_17_method_15_code 34 = .ok (.bipush 7, 2) := by decide +kernel
theorem d1_36 : decode prog_17_method_15_code 36 = .ok (.lushr, 1) := by decide +kernel
theorem d1_37 : decode prog_17_method_15_code 37 = .ok (.lstore 4, 2) := by decide +kernel
theorem d1_39 : decode prog_17_method_15_code 39 = .ok (.goto (-33), 3) := by decide +kernel
theorem d1_42 : decode prog_17_method_15_code 42 = .ok (.aload_n 0, 1) := by decide +kernel
theorem d1_43 : decode prog_17_method_15_code 43 = .ok (.iload 6, 2) := by decide +kernel
theorem d1_45 : decode prog_17_method_15_code 45 = .ok (.lload 4, 2) := by decide +kernel
theorem d1_47 : decode prog_17_method_15_code 47 = .ok (.l2i, 1) := by decide +kernel
theorem d1_48 : decode prog_17_method_15_code 48 = .ok (.i2b, 1) := by decide +kernel
theorem d1_49 : decode prog_17_method_15_code 49 = .ok (.bastore, 1) := by decide +kernel
theorem d1_50 : decode prog_17_method_15_code 50 = .ok (.return_, 1) := by decide +kernel
theorem pn_com_example_wiretagg_wiretagg_Varint : plainName "com/example/wiretagg/wiretagg/Varint" = true := by first | (simp [plainName, overriddenIn]; done) | decide +kernel
theorem pd_aBIJ_to_V : parseMethodDescriptor "([BIJ)V" = some ⟨[(.array .byte), .int, .long], none⟩ := by decide +kernel
theorem d2_0 : decode method_3_code 0 = .ok (.iload_n 1, 1) := by decide +kernel
theorem d2_1 : decode method_3_code 1 = .ok (.iload_n 2, 1) := by decide +kernel
theorem d2_2 : decode method_3_code 2 = .ok (.if_icmp .lt 11, 3) := by decide +kernel
theorem d2_5 : decode method_3_code 5 = .ok (.iload_n 1, 1) := by decide +kernel
theorem d2_6 : decode method_3_code 6 = .ok (.iload_n 2, 1) := by decide +kernel
theorem d2_7 : decode method_3_code 7 = .ok (.iload 5, 2) := by decide +kernel
theorem d2_9 : decode method_3_code 9 = .ok (.iadd, 1) := by decide +kernel
theorem d2_10 : decode method_3_code 10 = .ok (.if_icmp .lt 10, 3) := by decide +kernel
theorem d2_13 : decode method_3_code 13 = .ok (.iload 6, 2) := by decide +kernel
theorem d2_15 : decode method_3_code 15 = .ok (.istore 7, 2) := by decide +kernel
theorem d2_17 : decode method_3_code 17 = .ok (.goto 48, 3) := by decide +kernel
theorem d2_20 : decode method_3_code 20 = .ok (.iload_n 1, 1) := by decide +kernel
theorem d2_21 : decode method_3_code 21 = .ok (.iload_n 2, 1) := by decide +kernel
theorem d2_22 : decode method_3_code 22 = .ok (.isub, 1) := by decide +kernel
theorem d2_23 : decode method_3_code 23 = .ok (.istore 8, 2) := by decide +kernel
theorem d2_25 : decode method_3_code 25 = .ok (.lload_n 3, 1) := by decide +kernel
theorem d2_26 : decode method_3_code 26 = .ok (.bipush 7, 2) := by decide +kernel
theorem d2_28 : decode method_3_code 28 = .ok (.iload 8, 2) := by decide +kernel
theorem d2_30 : decode method_3_code 30 = .ok (.imul, 1) := by decide +kernel
theorem d2_31 : decode method_3_code 31 = .ok (.lushr, 1) := by decide +kernel
theorem d2_32 : decode method_3_code 32 = .ok (.ldc2_w 19, 3) := by decide +kernel
theorem d2_35 : decode method_3_code 35 = .ok (.land, 1) := by decide +kernel
theorem d2_36 : decode method_3_code 36 = .ok (.l2i, 1) := by decide +kernel
theorem d2_37 : decode method_3_code 37 = .ok (.istore 9, 2) := by decide +kernel
theorem d2_39 : decode method_3_code 39 = .ok (.iload 8, 2) := by decide +kernel
theorem d2_41 : decode method_3_code 41 = .ok (.iload 5, 2) := by decide +kernel
theorem d2_43 : decode method_3_code 43 = .ok (.iconst 1, 1) := by decide +kernel
theorem d2_44 : decode method_3_code 44 = .ok (.isub, 1) := by decide +kernel
theorem d2_45 : decode method_3_code 45 = .ok (.if_icmp .ge 15, 3) := by decide +kernel
theorem d2_48 : decode method_3_code 48 = .ok (.iload 9, 2) := by decide +kernel
theorem d2_50 : decode method_3_code 50 = .ok (.sipush 128, 3) := by decide +kernel
theorem d2_53 : decode method_3_code 53 = .ok (.ior, 1) := by decide +kernel
theorem d2_54 : decode method_3_code 54 = .ok (.i2b, 1) := by decide +kernel
theorem d2_55 : decode method_3_code 55 = .ok (.istore 7, 2) := by decide +kernel
theorem d2_57 : decode method_3_code 57 = .ok (.goto 8, 3) := by decide +kernel
theorem d2_60 : decode method_3_code 60 = .ok (.iload 9, 2) := by decide +kernel
theorem d2_62 : decode method_3_code 62 = .ok (.i2b, 1) := by decide +kernel
theorem d2_63 : decode method_3_code 63 = .ok (.istore 7, 2) := by decide +kernel
theorem d2_65 : decode method_3_code 65 = .ok (.aload_n 0, 1) := by decide +kernel
theorem d2_66 : decode method_3_code 66 = .ok (.iload_n 1, 1) := by decide +kernel
theorem d2_67 : decode method_3_code 67 = .ok (.baload, 1) := by decide +kernel
theorem d2_68 : decode method_3_code 68 = .ok (.iload 7, 2) := by decide +kernel
theorem d2_70 : decode method_3_code 70 = .ok (.if_icmp .ne 7, 3) := by decide +kernel
theorem d2_73 : decode method_3_code 73 = .ok (.iconst 1, 1) := by decide +kernel
theorem d2_74 : decode method_3_code 74 = .ok (.goto 4, 3) := by decide +kernel
theorem d2_77 : decode method_3_code 77 = .ok (.iconst 0, 1) := by decide +kernel
theorem d2_78 : decode method_3_code 78 = .ok (.ireturn, 1) := by decide +kernel
theorem pn_com_example_wiretagg_wiretagg_VarintWritePinLaw : plainName "com/example/wiretagg/wiretagg/VarintWritePinLaw" = true := by first | (simp [plainName, overriddenIn]; done) | decide +kernel
theorem pd_aBIIJIB_to_Z : parseMethodDescriptor "([BIIJIB)Z" = some ⟨[(.array .byte), .int, .int, .long, .int, .byte], some .boolean⟩ := by decide +kernel
theorem pd_JII_to_Z : parseMethodDescriptor "(JII)Z" = some ⟨[.long, .int, .int], some .boolean⟩ := by decide +kernel
def own_put : List Int32 → Nat → List Int32 → List Int32
  | vs, _, [] => vs
  | vs, p, b :: bs => own_put (vs.set p b) (p + 1) bs
theorem own_put_len (vs : List Int32) (p : Nat) (bs : List Int32) : (own_put vs p bs).length = vs.length := by
  induction bs generalizing vs p with
  | nil => rfl
  | cons b bs ih => rw [own_put, ih]; simp
theorem own_put_get (vs : List Int32) (p : Nat) (bs : List Int32) (j : Nat) (h : p + bs.length ≤ vs.length) : (own_put vs p bs)[j]? = if p ≤ j ∧ j < p + bs.length then bs[j - p]? else vs[j]? := by
  induction bs generalizing vs p with
  | nil => rw [own_put, if_neg (by simp only [List.length_nil]; omega)]
  | cons b bs ih =>
    simp only [List.length_cons] at h ⊢
    rw [own_put, ih _ _ (by simp; omega)]
    by_cases h1 : j = p
    · subst h1
      rw [if_neg (by omega), if_pos (by omega), Nat.sub_self, List.getElem?_set_self (by omega)]
      rfl
    · by_cases h2 : p + 1 ≤ j ∧ j < p + 1 + bs.length
      · rw [if_pos h2, if_pos (by omega), show j - p = (j - (p + 1)) + 1 from by omega]
        rfl
      · rw [if_neg h2, if_neg (by omega), List.getElem?_set_ne (by omega)]
/-- the bytes of a varint, as signed numbers -/
def own_bytes : Nat → Nat → List Int
  | 0, u => [(u : Int)]
  | n + 1, u => if u < 128 then [(u : Int)] else ((u : Int) % 128 - 128) :: own_bytes n (u / 128)
theorem own_bytes_pos (n u : Nat) : 1 ≤ (own_bytes n u).length ∧ (own_bytes n u).length ≤ n + 1 := by
  induction n generalizing u with
  | zero => simp [own_bytes]
  | succ n ih =>
    rw [own_bytes]
    split
    · simp
    · have := ih (u / 128); simp; omega
theorem own_bytes_get (n u k : Nat) (hk : k < (own_bytes n u).length) : (own_bytes n u)[k]? = some (if k + 1 < (own_bytes n u).length then ((u / 128 ^ k : Nat) : Int) % 128 - 128 else ((u / 128 ^ k : Nat) : Int)) := by
  induction n generalizing u k with
  | zero =>
    simp only [own_bytes, List.length_singleton] at hk ⊢
    obtain rfl : k = 0 := by omega
    simp
  | succ n ih =>
    rw [own_bytes] at hk ⊢
    by_cases h : u < 128
    · rw [if_pos h] at hk ⊢
      simp only [List.length_singleton] at hk ⊢
      obtain rfl : k = 0 := by omega
      simp
    · rw [if_neg h] at hk ⊢
      simp only [List.length_cons] at hk ⊢
      have hp := own_bytes_pos n (u / 128)
      match k with
      | 0 =>
        rw [if_pos (by omega)]
        simp
      | k + 1 =>
        have := ih (u / 128) k (by omega)
        rw [List.getElem?_cons_succ, this, Nat.div_div_eq_div_mul, ← Nat.pow_succ']
        by_cases q : k + 1 < (own_bytes n (u / 128)).length
        · rw [if_pos q, if_pos (by omega)]
        · rw [if_neg q, if_neg (by omega)]
theorem own_bytes_last (n u : Nat) (h : u < 128 ^ (n + 1)) : u / 128 ^ ((own_bytes n u).length - 1) < 128 := by
  induction n generalizing u with
  | zero => simp [own_bytes]; simpa using h
  | succ n ih =>
    rw [own_bytes]
    by_cases q : u < 128
    · rw [if_pos q]; simpa using q
    · rw [if_neg q]
      have hp := own_bytes_pos n (u / 128)
      have := ih (u / 128) (by rw [Nat.div_lt_iff_lt_mul (by decide), ← Nat.pow_succ]; exact h)
      rw [Nat.div_div_eq_div_mul, ← Nat.pow_succ'] at this
      rw [List.length_cons, show (own_bytes n (u / 128)).length + 1 - 1 = (own_bytes n (u / 128)).length - 1 + 1 from by omega]
      exact this
theorem own_idem (x : Int32) : x.toInt8.toInt32.toInt8.toInt32 = x.toInt8.toInt32 := by
  apply own_eq; rw [own_i2b, own_i2b]; omega
theorem own_andNL (n : Nat) (hn : n < 18446744073709551616) : n &&& 18446744073709551488 = n / 128 * 128 := by
  apply Nat.eq_of_testBit_eq
  intro i
  rw [Nat.testBit_and, show (18446744073709551488 : Nat) = (2 ^ 57 - 1) * 2 ^ 7 from by decide, show (128 : Nat) = 2 ^ 7 from by decide, Nat.testBit_mul_two_pow, Nat.testBit_mul_two_pow, Nat.testBit_two_pow_sub_one, Nat.testBit_div_two_pow]
  by_cases h : 7 ≤ i
  · rw [show i - 7 + 7 = i from by omega] <;> simp only [h, decide_true, Bool.true_and]
    by_cases h2 : i < 64
    · simp [show i - 7 < 57 from by omega]
    · have : n.testBit i = false := Nat.testBit_lt_two_pow (Nat.lt_of_lt_of_le hn (by rw [show (18446744073709551616 : Nat) = 2 ^ 64 from by decide]; exact Nat.pow_le_pow_right (by decide) (by omega)))
      simp [this]
  · simp [h]
theorem own_and128L (x : Int64) : x &&& (-128 : Int64) = 0 ↔ x.toInt % 18446744073709551616 < 128 := by
  have e1 := own_ul x
  have e2 : (x &&& (-128 : Int64)).toUInt64.toNat = x.toUInt64.toNat &&& 18446744073709551488 := rfl
  rw [own_andNL _ x.toUInt64.toNat_lt] at e2
  have e3 := own_ul (x &&& (-128 : Int64))
  rw [e2] at e3
  rw [own_eqli, show (0 : Int64).toInt = 0 from by decide]
  have r1 := (x &&& (-128 : Int64)).toInt_lt; have r2 := (x &&& (-128 : Int64)).le_toInt
  constructor <;> intro q <;> omega
theorem own_or128N (n : Nat) : (n ||| 128) % 256 = n % 128 + 128 := by
  have hs : ∀ s, s < 256 → s ||| 128 = s % 128 + 128 := by decide +kernel
  have h1 := hs (n % 256) (Nat.mod_lt _ (by decide))
  have h2 : n = 2 ^ 8 * (n / 256) ||| (n % 256) := by rw [← Nat.two_pow_add_eq_or_of_lt (i := 8) (Nat.mod_lt _ (by decide))]; omega
  have h3 : n ||| 128 = 2 ^ 8 * (n / 256) + (n % 256 ||| 128) := by
    rw [Nat.two_pow_add_eq_or_of_lt (i := 8) (by rw [h1]; omega), ← Nat.or_assoc, ← h2]
  rw [h3, h1]
  omega
theorem own_or128L (x : Int64) : ((x ||| (128 : Int64)).toInt32.toInt8.toInt32).toInt = x.toInt % 128 - 128 := by
  have e1 := own_ul x; have e4 := own_ul (x ||| (128 : Int64))
  have e3 : (x ||| (128 : Int64)).toUInt64.toNat = x.toUInt64.toNat ||| 128 := rfl
  have e5 := own_or128N x.toUInt64.toNat
  rw [e3] at e4
  rw [own_i2b, own_l2i]
  omega
def own_enc : Nat → Int64 → List Int32
  | 0, x => [x.toInt32.toInt8.toInt32.toInt8.toInt32]
  | n + 1, x => if x &&& (-128 : Int64) = (0 : Int64) then [x.toInt32.toInt8.toInt32.toInt8.toInt32] else (x ||| (128 : Int64)).toInt32.toInt8.toInt32.toInt8.toInt32 :: own_enc n ((x.toUInt64 >>> ((7 : Int32) &&& 0x3f).toInt64.toUInt64).toInt64)
theorem own_shr7 (x : Int64) : ((x.toUInt64 >>> ((7 : Int32) &&& 0x3f).toInt64.toUInt64).toInt64).toInt = x.toInt % 18446744073709551616 / 128 := by
  rw [own_lushr x 7 (by decide) (by decide) (by decide)]; omega
theorem own_enc_map (n : Nat) (x : Int64) (h : (x.toInt % 18446744073709551616).toNat < 128 ^ (n + 1)) : (own_enc n x).map Int32.toInt = own_bytes n (x.toInt % 18446744073709551616).toNat := by
  induction n generalizing x with
  | zero =>
    simp only [own_enc, own_bytes, List.map_cons, List.map_nil, own_idem, own_i2b, own_l2i]
    simp only [Nat.zero_add, Nat.pow_one] at h
    congr 1; omega
  | succ n ih =>
    rw [own_enc, own_bytes]
    have q := own_and128L x
    have s := own_shr7 x
    by_cases g : x &&& (-128 : Int64) = (0 : Int64)
    · have g2 := q.mp g
      rw [if_pos g, if_pos (by omega)]
      simp only [List.map_cons, List.map_nil, own_idem, own_i2b, own_l2i]
      congr 1; omega
    · have g2 : ¬ (x.toInt % 18446744073709551616 < 128) := fun t => g (q.mpr t)
      have hd : (((x.toUInt64 >>> ((7 : Int32) &&& 0x3f).toInt64.toUInt64).toInt64).toInt % 18446744073709551616).toNat = (x.toInt % 18446744073709551616).toNat / 128 := by rw [s]; omega
      rw [if_neg g, if_neg (by omega), List.map_cons, ih _ (by rw [hd, Nat.div_lt_iff_lt_mul (by decide), ← Nat.pow_succ]; exact h), hd]
      congr 1
      rw [own_idem, own_or128L]
      omega
theorem own_shz (x : Int64) {n : UInt64} (m : Nat) (hn : n.toNat = m) (h0 : 0 < m) (hm : m < 64) : (x.toUInt64 >>> n).toInt64 = 0 ↔ (x.toInt % 18446744073709551616).toNat < 2 ^ m := by
  rw [own_eqli, own_lushr x m hn h0 hm, show (0 : Int64).toInt = 0 from by decide]
  have hp : (0 : Int) < 2 ^ m := Int.pow_pos (by decide)
  have hc : ((2 ^ m : Nat) : Int) = 2 ^ m := by simp
  have h1 : 0 ≤ x.toInt % 18446744073709551616 := by omega
  constructor
  · intro q
    have h2 : x.toInt % 18446744073709551616 < 2 ^ m := by
      rcases Int.lt_or_le (x.toInt % 18446744073709551616) (2 ^ m) with g | g
      · exact g
      · have := Int.ediv_le_ediv hp g
        rw [Int.ediv_self (by omega), q] at this
        omega
    omega
  · intro q
    exact Int.ediv_eq_zero_of_lt h1 (by omega)
theorem own_cnt (u : Nat) (h : u < 18446744073709551616) : (own_bytes 9 u).length = 1 + (if 128 ≤ u then 1 else 0) + (if 16384 ≤ u then 1 else 0) + (if 2097152 ≤ u then 1 else 0) + (if 268435456 ≤ u then 1 else 0) + (if 34359738368 ≤ u then 1 else 0) + (if 4398046511104 ≤ u then 1 else 0) + (if 562949953421312 ≤ u then 1 else 0) + (if 72057594037927936 ≤ u then 1 else 0) + (if 9223372036854775808 ≤ u then 1 else 0) := by
  have st : ∀ n v, (own_bytes (n + 1) v).length = if v < 128 then 1 else (own_bytes n (v / 128)).length + 1 := fun n v => by rw [own_bytes]; split <;> simp
  have s0 : ∀ v, (own_bytes 0 v).length = 1 := fun v => rfl
  rw [st, st, st, st, st, st, st, st, st, s0]
  simp only [Nat.div_div_eq_div_mul, Nat.reduceMul]
  have hc : u < 128 ∨ (128 ≤ u ∧ u < 16384) ∨ (16384 ≤ u ∧ u < 2097152) ∨ (2097152 ≤ u ∧ u < 268435456) ∨ (268435456 ≤ u ∧ u < 34359738368) ∨ (34359738368 ≤ u ∧ u < 4398046511104) ∨ (4398046511104 ≤ u ∧ u < 562949953421312) ∨ (562949953421312 ≤ u ∧ u < 72057594037927936) ∨ (72057594037927936 ≤ u ∧ u < 9223372036854775808) ∨ (9223372036854775808 ≤ u ∧ u < 18446744073709551616) := by omega
  rcases hc with g | g | g | g | g | g | g | g | g | g
  · rw [if_pos (show u < 128 from by omega), if_neg (show ¬ (128 ≤ u) from by omega), if_neg (show ¬ (16384 ≤ u) from by omega), if_neg (show ¬ (2097152 ≤ u) from by omega), if_neg (show ¬ (268435456 ≤ u) from by omega), if_neg (show ¬ (34359738368 ≤ u) from by omega), if_neg (show ¬ (4398046511104 ≤ u) from by omega), if_neg (show ¬ (562949953421312 ≤ u) from by omega), if_neg (show ¬ (72057594037927936 ≤ u) from by omega), if_neg (show ¬ (9223372036854775808 ≤ u) from by omega)]
  · rw [if_neg (show ¬ (u < 128) from by omega), if_pos (show u / 128 < 128 from by omega), if_pos (show 128 ≤ u from by omega), if_neg (show ¬ (16384 ≤ u) from by omega), if_neg (show ¬ (2097152 ≤ u) from by omega), if_neg (show ¬ (268435456 ≤ u) from by omega), if_neg (show ¬ (34359738368 ≤ u) from by omega), if_neg (show ¬ (4398046511104 ≤ u) from by omega), if_neg (show ¬ (562949953421312 ≤ u) from by omega), if_neg (show ¬ (72057594037927936 ≤ u) from by omega), if_neg (show ¬ (9223372036854775808 ≤ u) from by omega)]
  · rw [if_neg (show ¬ (u < 128) from by omega), if_neg (show ¬ (u / 128 < 128) from by omega), if_pos (show u / 16384 < 128 from by omega), if_pos (show 128 ≤ u from by omega), if_pos (show 16384 ≤ u from by omega), if_neg (show ¬ (2097152 ≤ u) from by omega), if_neg (show ¬ (268435456 ≤ u) from by omega), if_neg (show ¬ (34359738368 ≤ u) from by omega), if_neg (show ¬ (4398046511104 ≤ u) from by omega), if_neg (show ¬ (562949953421312 ≤ u) from by omega), if_neg (show ¬ (72057594037927936 ≤ u) from by omega), if_neg (show ¬ (9223372036854775808 ≤ u) from by omega)]
  · rw [if_neg (show ¬ (u < 128) from by omega), if_neg (show ¬ (u / 128 < 128) from by omega), if_neg (show ¬ (u / 16384 < 128) from by omega), if_pos (show u / 2097152 < 128 from by omega), if_pos (show 128 ≤ u from by omega), if_pos (show 16384 ≤ u from by omega), if_pos (show 2097152 ≤ u from by omega), if_neg (show ¬ (268435456 ≤ u) from by omega), if_neg (show ¬ (34359738368 ≤ u) from by omega), if_neg (show ¬ (4398046511104 ≤ u) from by omega), if_neg (show ¬ (562949953421312 ≤ u) from by omega), if_neg (show ¬ (72057594037927936 ≤ u) from by omega), if_neg (show ¬ (9223372036854775808 ≤ u) from by omega)]
  · rw [if_neg (show ¬ (u < 128) from by omega), if_neg (show ¬ (u / 128 < 128) from by omega), if_neg (show ¬ (u / 16384 < 128) from by omega), if_neg (show ¬ (u / 2097152 < 128) from by omega), if_pos (show u / 268435456 < 128 from by omega), if_pos (show 128 ≤ u from by omega), if_pos (show 16384 ≤ u from by omega), if_pos (show 2097152 ≤ u from by omega), if_pos (show 268435456 ≤ u from by omega), if_neg (show ¬ (34359738368 ≤ u) from by omega), if_neg (show ¬ (4398046511104 ≤ u) from by omega), if_neg (show ¬ (562949953421312 ≤ u) from by omega), if_neg (show ¬ (72057594037927936 ≤ u) from by omega), if_neg (show ¬ (9223372036854775808 ≤ u) from by omega)]
  · rw [if_neg (show ¬ (u < 128) from by omega), if_neg (show ¬ (u / 128 < 128) from by omega), if_neg (show ¬ (u / 16384 < 128) from by omega), if_neg (show ¬ (u / 2097152 < 128) from by omega), if_neg (show ¬ (u / 268435456 < 128) from by omega), if_pos (show u / 34359738368 < 128 from by omega), if_pos (show 128 ≤ u from by omega), if_pos (show 16384 ≤ u from by omega), if_pos (show 2097152 ≤ u from by omega), if_pos (show 268435456 ≤ u from by omega), if_pos (show 34359738368 ≤ u from by omega), if_neg (show ¬ (4398046511104 ≤ u) from by omega), if_neg (show ¬ (562949953421312 ≤ u) from by omega), if_neg (show ¬ (72057594037927936 ≤ u) from by omega), if_neg (show ¬ (9223372036854775808 ≤ u) from by omega)]
  · rw [if_neg (show ¬ (u < 128) from by omega), if_neg (show ¬ (u / 128 < 128) from by omega), if_neg (show ¬ (u / 16384 < 128) from by omega), if_neg (show ¬ (u / 2097152 < 128) from by omega), if_neg (show ¬ (u / 268435456 < 128) from by omega), if_neg (show ¬ (u / 34359738368 < 128) from by omega), if_pos (show u / 4398046511104 < 128 from by omega), if_pos (show 128 ≤ u from by omega), if_pos (show 16384 ≤ u from by omega), if_pos (show 2097152 ≤ u from by omega), if_pos (show 268435456 ≤ u from by omega), if_pos (show 34359738368 ≤ u from by omega), if_pos (show 4398046511104 ≤ u from by omega), if_neg (show ¬ (562949953421312 ≤ u) from by omega), if_neg (show ¬ (72057594037927936 ≤ u) from by omega), if_neg (show ¬ (9223372036854775808 ≤ u) from by omega)]
  · rw [if_neg (show ¬ (u < 128) from by omega), if_neg (show ¬ (u / 128 < 128) from by omega), if_neg (show ¬ (u / 16384 < 128) from by omega), if_neg (show ¬ (u / 2097152 < 128) from by omega), if_neg (show ¬ (u / 268435456 < 128) from by omega), if_neg (show ¬ (u / 34359738368 < 128) from by omega), if_neg (show ¬ (u / 4398046511104 < 128) from by omega), if_pos (show u / 562949953421312 < 128 from by omega), if_pos (show 128 ≤ u from by omega), if_pos (show 16384 ≤ u from by omega), if_pos (show 2097152 ≤ u from by omega), if_pos (show 268435456 ≤ u from by omega), if_pos (show 34359738368 ≤ u from by omega), if_pos (show 4398046511104 ≤ u from by omega), if_pos (show 562949953421312 ≤ u from by omega), if_neg (show ¬ (72057594037927936 ≤ u) from by omega), if_neg (show ¬ (9223372036854775808 ≤ u) from by omega)]
  · rw [if_neg (show ¬ (u < 128) from by omega), if_neg (show ¬ (u / 128 < 128) from by omega), if_neg (show ¬ (u / 16384 < 128) from by omega), if_neg (show ¬ (u / 2097152 < 128) from by omega), if_neg (show ¬ (u / 268435456 < 128) from by omega), if_neg (show ¬ (u / 34359738368 < 128) from by omega), if_neg (show ¬ (u / 4398046511104 < 128) from by omega), if_neg (show ¬ (u / 562949953421312 < 128) from by omega), if_pos (show u / 72057594037927936 < 128 from by omega), if_pos (show 128 ≤ u from by omega), if_pos (show 16384 ≤ u from by omega), if_pos (show 2097152 ≤ u from by omega), if_pos (show 268435456 ≤ u from by omega), if_pos (show 34359738368 ≤ u from by omega), if_pos (show 4398046511104 ≤ u from by omega), if_pos (show 562949953421312 ≤ u from by omega), if_pos (show 72057594037927936 ≤ u from by omega), if_neg (show ¬ (9223372036854775808 ≤ u) from by omega)]
  · rw [if_neg (show ¬ (u < 128) from by omega), if_neg (show ¬ (u / 128 < 128) from by omega), if_neg (show ¬ (u / 16384 < 128) from by omega), if_neg (show ¬ (u / 2097152 < 128) from by omega), if_neg (show ¬ (u / 268435456 < 128) from by omega), if_neg (show ¬ (u / 34359738368 < 128) from by omega), if_neg (show ¬ (u / 4398046511104 < 128) from by omega), if_neg (show ¬ (u / 562949953421312 < 128) from by omega), if_neg (show ¬ (u / 72057594037927936 < 128) from by omega), if_pos (show 128 ≤ u from by omega), if_pos (show 16384 ≤ u from by omega), if_pos (show 2097152 ≤ u from by omega), if_pos (show 268435456 ≤ u from by omega), if_pos (show 34359738368 ≤ u from by omega), if_pos (show 4398046511104 ≤ u from by omega), if_pos (show 562949953421312 ≤ u from by omega), if_pos (show 72057594037927936 ≤ u from by omega), if_pos (show 9223372036854775808 ≤ u from by omega)]
theorem own_grp (u : Int64) (j : Int32) (nj : Nat) (hj : j.toInt = (nj : Int)) (h9 : nj ≤ 9) : (((u.toUInt64 >>> (((7 : Int32) * j) &&& 0x3f).toInt64.toUInt64).toInt64 &&& (127 : Int64)).toInt32).toInt = ((((u.toInt % 18446744073709551616).toNat / 128 ^ nj : Nat) : Int)) % 128 := by
  have hc : nj = 0 ∨ nj = 1 ∨ nj = 2 ∨ nj = 3 ∨ nj = 4 ∨ nj = 5 ∨ nj = 6 ∨ nj = 7 ∨ nj = 8 ∨ nj = 9 := by omega
  rw [own_l2i, own_maskL _ 127 7 (by decide) (by decide)]
  rcases hc with rfl | rfl | rfl | rfl | rfl | rfl | rfl | rfl | rfl | rfl
  · obtain rfl : j = 0 := own_eq (by rw [hj]; decide)
    rw [show (((7 : Int32) * 0) &&& 0x3f).toInt64.toUInt64 = 0 from by decide, show (u.toUInt64 >>> 0).toInt64 = u from by simp]
    simp; omega
  all_goals
    first
    | (obtain rfl : j = 1 := own_eq (by rw [hj]; decide)); rw [own_lushr u 7 (by decide) (by decide) (by decide)]; simp; omega
    | (obtain rfl : j = 2 := own_eq (by rw [hj]; decide)); rw [own_lushr u 14 (by decide) (by decide) (by decide)]; simp; omega
    | (obtain rfl : j = 3 := own_eq (by rw [hj]; decide)); rw [own_lushr u 21 (by decide) (by decide) (by decide)]; simp; omega
    | (obtain rfl : j = 4 := own_eq (by rw [hj]; decide)); rw [own_lushr u 28 (by decide) (by decide) (by decide)]; simp; omega
    | (obtain rfl : j = 5 := own_eq (by rw [hj]; decide)); rw [own_lushr u 35 (by decide) (by decide) (by decide)]; simp; omega
    | (obtain rfl : j = 6 := own_eq (by rw [hj]; decide)); rw [own_lushr u 42 (by decide) (by decide) (by decide)]; simp; omega
    | (obtain rfl : j = 7 := own_eq (by rw [hj]; decide)); rw [own_lushr u 49 (by decide) (by decide) (by decide)]; simp; omega
    | (obtain rfl : j = 8 := own_eq (by rw [hj]; decide)); rw [own_lushr u 56 (by decide) (by decide) (by decide)]; simp; omega
    | (obtain rfl : j = 9 := own_eq (by rw [hj]; decide)); rw [own_lushr u 63 (by decide) (by decide) (by decide)]; simp; omega
theorem own_step (m : Nat) (hm : m ≤ 100) {a b : Int32} {x y : Nat} (ha : a.toInt = (x : Int) ∧ x ≤ m) (hb : b.toInt = (y : Int) ∧ y ≤ 1) : (a + b).toInt = ((x + y : Nat) : Int) ∧ x + y ≤ m + 1 := by
  rw [own_iadd, ha.1, hb.1]; omega
theorem own_bit {U k : Nat} {b : Int32} (h : (U < k ∧ b = 0) ∨ (k ≤ U ∧ b = 1)) : b.toInt = ((if k ≤ U then 1 else 0 : Nat) : Int) ∧ (if k ≤ U then 1 else 0 : Nat) ≤ 1 := by
  rcases h with ⟨g, rfl⟩ | ⟨g, rfl⟩
  · rw [if_neg (by omega)]; decide
  · rw [if_pos g]; decide
set_option maxRecDepth 65536 in
set_option maxHeartbeats 40000000 in
theorem lp {K : OwnK} {Z : State} {a0 : Array Value} (hw : ∀ d ∈ tables_1, d.before a0 Z = true) {n0 : Nat} {Post : Option Value → Heap → Prop} (C : Cx K Z "com/example/wiretagg/wiretagg/Varint" "write" prog_17_method_15_code 7 none ({ frames := 0, cells := 0, slots := 0, locals := 0 } : Room) n0 Post) {h0 : Heap} {a : Addr} (g_a : n0 ≤ a) (q1 : Int32) (q2 : Int64) :
    ∀ (n : Nat) (x : Int64) (pos : Int32) (np : Nat) (vs : List Int32) (h : Heap), (x.toInt % 18446744073709551616).toNat < 128 ^ (n + 1) → pos.toInt = (np : Int) → np + n + 1 ≤ vs.length → vs.length ≤ 100 → n0 ≤ h.size → Keep h0 h [a] → Ai Z h a .byte vs →
      (∀ (h' : Heap), Keep h0 h' [a] → Ai Z h' a .byte (own_put vs np (own_enc n x)) → Post none h') →
      Go K h 0 0 6 [.val (.ref a), .val (.int q1), .val (.long q2), .second, .val (.long x), .second, .val (.int pos)] [] := by
  intro n
  induction n with
  | zero =>
    intro x pos np vs h hx hp hb h100 hz KK A_a hq
    have e1 : (1 : Int32).toInt = 1 := by decide
    have h128 : x &&& (-128 : Int64) = (0 : Int64) := (own_and128L x).mpr (by simp only [Nat.zero_add, Nat.pow_one] at hx; omega)
    refine w_lload 8 C d1_6 rfl rfl ?_
    refine w_ldc2 (v := (-128 : Int64)) 11 C d1_8 rfl (hw _ (List.mem_of_getElem? (i := 5) rfl)) ?_
    refine w_land 12 C d1_11 rfl ?_
    refine w_lconst 13 (0 : Int64) C d1_12 rfl rfl ?_
    refine w_lifY 14 42 C d1_13 rfl d1_14 rfl (show (x &&& (-128 : Int64)) = (0 : Int64) from h128) ?_
    refine w_aloadN 43 C d1_42 rfl rfl rfl ?_
    refine w_iload 45 C d1_43 rfl rfl ?_
    refine w_lload 47 C d1_45 rfl rfl ?_
    refine w_l2i 48 C d1_47 rfl ?_
    refine w_i2b 49 C d1_48 rfl ?_
    refine w_bastore 50 (np) (x.toInt32.toInt8.toInt32.toInt8.toInt32) C A_a g_a d1_49 rfl hp (by omega) rfl ?_
    intro h1 K_h1 A_a'
    replace A_a : Ai Z h1 a .byte (vs.set np (x.toInt32.toInt8.toInt32.toInt8.toInt32)) := A_a'
    replace hz := Nat.le_trans hz K_h1.1
    replace KK := KK.trans K_h1 (allS (Or.inl (by simp)) all0)
    refine w_ret C d1_50 (by decide) (by decide) ?_
    exact (hq _ KK (by rw [own_enc]; exact A_a))
  | succ n ih =>
    intro x pos np vs h hx hp hb h100 hz KK A_a hq
    have e1 : (1 : Int32).toInt = 1 := by decide
    refine w_lload 8 C d1_6 rfl rfl ?_
    refine w_ldc2 (v := (-128 : Int64)) 11 C d1_8 rfl (hw _ (List.mem_of_getElem? (i := 5) rfl)) ?_
    refine w_land 12 C d1_11 rfl ?_
    refine w_lconst 13 (0 : Int64) C d1_12 rfl rfl ?_
    refine w_lif 14 42 17 C d1_13 rfl d1_14 rfl rfl (fun (hc13 : (x &&& (-128 : Int64)) = (0 : Int64)) => ?_) (fun (hc13 : ¬ ((x &&& (-128 : Int64)) = (0 : Int64))) => ?_)
    · refine w_aloadN 43 C d1_42 rfl rfl rfl ?_
      refine w_iload 45 C d1_43 rfl rfl ?_
      refine w_lload 47 C d1_45 rfl rfl ?_
      refine w_l2i 48 C d1_47 rfl ?_
      refine w_i2b 49 C d1_48 rfl ?_
      refine w_bastore 50 (np) (x.toInt32.toInt8.toInt32.toInt8.toInt32) C A_a g_a d1_49 rfl hp (by omega) rfl ?_
      intro h1 K_h1 A_a'
      replace A_a : Ai Z h1 a .byte (vs.set np (x.toInt32.toInt8.toInt32.toInt8.toInt32)) := A_a'
      replace hz := Nat.le_trans hz K_h1.1
      replace KK := KK.trans K_h1 (allS (Or.inl (by simp)) all0)
      refine w_ret C d1_50 (by decide) (by decide) ?_
      exact (hq _ KK (by rw [own_enc, if_pos hc13]; exact A_a))
    · refine w_aloadN 18 C d1_17 rfl rfl rfl ?_
      refine w_iload 20 C d1_18 rfl rfl ?_
      refine w_iinc (z := (pos + (1 : Int32))) 23 [.val (.ref a), .val (.int q1), .val (.long q2), .second, .val (.long x), .second, .val (.int (pos + (1 : Int32)))] C d1_20 rfl rfl rfl rfl ?_
      refine w_lload 25 C d1_23 rfl rfl ?_
      refine w_ldc2 (v := (128 : Int64)) 28 C d1_25 rfl (hw _ (List.mem_of_getElem? (i := 11) rfl)) ?_
      refine w_lor 29 C d1_28 rfl ?_
      refine w_l2i 30 C d1_29 rfl ?_
      refine w_i2b 31 C d1_30 rfl ?_
      refine w_bastore 32 (np) ((x ||| (128 : Int64)).toInt32.toInt8.toInt32.toInt8.toInt32) C A_a g_a d1_31 rfl hp (by omega) rfl ?_
      intro h2 K_h2 A_a'
      replace A_a : Ai Z h2 a .byte (vs.set np ((x ||| (128 : Int64)).toInt32.toInt8.toInt32.toInt8.toInt32)) := A_a'
      replace hz := Nat.le_trans hz K_h2.1
      replace KK := KK.trans K_h2 (allS (Or.inl (by simp)) all0)
      refine w_lload 34 C d1_32 rfl rfl ?_
      refine w_bipush 36 (7 : Int32) C d1_34 rfl rfl ?_
      refine w_lushr 37 C d1_36 rfl ?_
      refine w_lstore 39 [.val (.ref a), .val (.int q1), .val (.long q2), .second, .val (.long ((x.toUInt64 >>> ((7 : Int32) &&& 0x3f).toInt64.toUInt64).toInt64)), .second, .val (.int (pos + (1 : Int32)))] C d1_37 rfl rfl ?_
      refine w_goto 6 C d1_39 rfl ?_
      have hs := own_shr7 x
      refine ih _ _ (np + 1) _ _ ?_ ?_ ?_ ?_ hz KK A_a ?_
      · rw [hs, show (x.toInt % 18446744073709551616 / 128 % 18446744073709551616).toNat = (x.toInt % 18446744073709551616).toNat / 128 from by omega, Nat.div_lt_iff_lt_mul (by decide), ← Nat.pow_succ]; exact hx
      · rw [own_iadd, hp, e1]; omega
      · simp; omega
      · simpa using h100
      · intro h' k1 k2
        refine hq h' k1 ?_
        rw [own_enc, if_neg hc13]; exact k2
set_option maxRecDepth 65536 in
set_option maxHeartbeats 40000000 in
theorem rm_wr (l : Launch) (Z : State) (a0 : Array Value) (hw : ∀ d ∈ tables_1, d.before a0 Z = true) (ws : List Jvm.Cond) (a : Addr) (p : Int32) (x : Int64) (np : Nat) (vs : List Int32) (h0 : Heap) (n0 : Nat) (hz : n0 ≤ h0.size) (A_a : Ai Z h0 a .byte vs) (g_a : n0 ≤ a) (hp : p.toInt = (np : Int)) (hb : np + 10 ≤ vs.length) (h100 : vs.length ≤ 100) :
    OwnMet l (⟨"com/example/wiretagg/wiretagg/Varint", "write", "([BIJ)V"⟩ : MethodName) prog_17_method_15_code 7 none ws ({ frames := 0, cells := 0, slots := 0, locals := 0 } : Room) Z h0 n0 #[.ref a, .int p, .long x] (fun v h => v = none ∧ Keep h0 h [a] ∧ Ai Z h a .byte (own_put vs np (own_enc 9 x))) := by
  refine OwnMet.of (own := "com/example/wiretagg/wiretagg/Varint") (name := "write") (desc := "([BIJ)V") (Ls := [.val (.ref a), .val (.int p), .val (.long x), .second, .unset, .unset, .unset]) (plainFor_of_name pn_com_example_wiretagg_wiretagg_Varint) (fun m => by first | (simp [entryFrame, mkF, argsToLocals, Value.category]; done) | rfl) ?_
  intro K hK C
  refine w_lloadN 1 C d1_0 rfl rfl ?_
  refine w_lstore 3 [.val (.ref a), .val (.int p), .val (.long x), .second, .val (.long x), .second, .unset] C d1_1 rfl rfl ?_
  refine w_iloadN 4 C d1_3 rfl rfl ?_
  refine w_istore 6 [.val (.ref a), .val (.int p), .val (.long x), .second, .val (.long x), .second, .val (.int p)] C d1_4 rfl rfl ?_
  refine lp hw C g_a p x 9 x p np vs h0 (by omega) hp (by omega) h100 hz (Keep.refl _ _) A_a ?_
  intro h' k1 k2
  exact ⟨rfl, k1, k2⟩
set_option maxRecDepth 65536 in
set_option maxHeartbeats 40000000 in
theorem rm_ok (l : Launch) (Z : State) (a0 : Array Value) (hw : ∀ d ∈ tables_1, d.before a0 Z = true) (ws : List Jvm.Cond) (a : Addr) (i p : Int32) (u : Int64) (n f : Int32) (np ni nn : Nat) (vs : List Int32) (y : Int32) (h0 : Heap) (n0 : Nat) (hz : n0 ≤ h0.size) (A_a : Ai Z h0 a .byte vs) (hp : p.toInt = (np : Int)) (hi : i.toInt = (ni : Int)) (hn : n.toInt = (nn : Int)) (h3 : np ≤ 3) (h14 : ni ≤ 13) (h1 : 1 ≤ nn) (h2 : nn ≤ 10) (hy : vs[ni]? = some y) (hye : y.toInt = (if ni < np ∨ np + nn ≤ ni then f.toInt else if (ni - np) + 1 < nn then ((((u.toInt % 18446744073709551616).toNat / 128 ^ (ni - np) : Nat) : Int)) % 128 - 128 else ((((u.toInt % 18446744073709551616).toNat / 128 ^ (ni - np) : Nat) : Int)) % 128)) :
    OwnMet l (⟨"com/example/wiretagg/wiretagg/VarintWritePinLaw", "ok", "([BIIJIB)Z"⟩ : MethodName) method_3_code 10 (some .boolean) ws ({ frames := 0, cells := 0, slots := 0, locals := 0 } : Room) Z h0 n0 #[.ref a, .int i, .int p, .long u, .int n, .int f] (fun v h => v = some (.int 1) ∧ h0 = h) := by
  refine OwnMet.of (own := "com/example/wiretagg/wiretagg/VarintWritePinLaw") (name := "ok") (desc := "([BIIJIB)Z") (Ls := [.val (.ref a), .val (.int i), .val (.int p), .val (.long u), .second, .val (.int n), .val (.int f), .unset, .unset, .unset]) (plainFor_of_name pn_com_example_wiretagg_wiretagg_VarintWritePinLaw) (fun m => by first | (simp [entryFrame, mkF, argsToLocals, Value.category]; done) | rfl) ?_
  intro K hK C
  have e1 : (1 : Int32).toInt = 1 := by decide
  have hpn : (p + n).toInt = ((np + nn : Nat) : Int) := by rw [own_iadd, hp, hn]; omega
  refine w_iloadN 1 C d2_0 rfl rfl ?_
  refine w_iloadN 2 C d2_1 rfl rfl ?_
  suffices J_65 : ∀ (ex : Int32) (s8 s9 : Slot), (ex = y) → Go K h0 0 0 65 [.val (.ref a), .val (.int i), .val (.int p), .val (.long u), .second, .val (.int n), .val (.int f), .val (.int ex), s8, s9] [] by
    refine w_icmp 13 5 C d2_2 rfl rfl (fun (hc2 : i.toInt < p.toInt) => ?_) (fun (hc2 : ¬ (i.toInt < p.toInt)) => ?_)
    · refine w_iload 15 C d2_13 rfl rfl ?_
      refine w_istore 17 [.val (.ref a), .val (.int i), .val (.int p), .val (.long u), .second, .val (.int n), .val (.int f), .val (.int f), .unset, .unset] C d2_15 rfl rfl ?_
      refine w_goto 65 C d2_17 rfl ?_
      exact J_65 f _ _ (own_eq (by rw [hye, if_pos (by omega)]))
    · refine w_iloadN 6 C d2_5 rfl rfl ?_
      refine w_iloadN 7 C d2_6 rfl rfl ?_
      refine w_iload 9 C d2_7 rfl rfl ?_
      refine w_iadd 10 C d2_9 rfl ?_
      refine w_icmp 20 13 C d2_10 rfl rfl (fun (hc10 : i.toInt < (p + n).toInt) => ?_) (fun (hc10 : ¬ (i.toInt < (p + n).toInt)) => ?_)
      · refine w_iloadN 21 C d2_20 rfl rfl ?_
        refine w_iloadN 22 C d2_21 rfl rfl ?_
        refine w_isub 23 C d2_22 rfl ?_
        refine w_istore 25 [.val (.ref a), .val (.int i), .val (.int p), .val (.long u), .second, .val (.int n), .val (.int f), .unset, .val (.int (i - p)), .unset] C d2_23 rfl rfl ?_
        generalize hv_x1 : (i - p) = x1
        refine w_lloadN 26 C d2_25 rfl rfl ?_
        refine w_bipush 28 (7 : Int32) C d2_26 rfl rfl ?_
        refine w_iload 30 C d2_28 rfl rfl ?_
        refine w_imul 31 C d2_30 rfl ?_
        refine w_lushr 32 C d2_31 rfl ?_
        refine w_ldc2 (v := (127 : Int64)) 35 C d2_32 rfl (hw _ (List.mem_of_getElem? (i := 10) rfl)) ?_
        refine w_land 36 C d2_35 rfl ?_
        refine w_l2i 37 C d2_36 rfl ?_
        refine w_istore 39 [.val (.ref a), .val (.int i), .val (.int p), .val (.long u), .second, .val (.int n), .val (.int f), .unset, .val (.int x1), .val (.int ((((u.toUInt64 >>> (((7 : Int32) * x1) &&& 0x3f).toInt64.toUInt64).toInt64) &&& (127 : Int64)).toInt32))] C d2_37 rfl rfl ?_
        generalize hv_x2 : ((((u.toUInt64 >>> (((7 : Int32) * x1) &&& 0x3f).toInt64.toUInt64).toInt64) &&& (127 : Int64)).toInt32) = x2
        refine w_iload 41 C d2_39 rfl rfl ?_
        refine w_iload 43 C d2_41 rfl rfl ?_
        refine w_iconst 44 (1 : Int32) C d2_43 rfl rfl ?_
        refine w_isub 45 C d2_44 rfl ?_
        have hk : x1.toInt = ((ni - np : Nat) : Int) := by rw [← hv_x1, own_isub, hi, hp]; omega
        have hg := own_grp u x1 (ni - np) hk (by omega)
        rw [hv_x2] at hg
        have hn1 : (n - (1 : Int32)).toInt = (nn : Int) - 1 := by rw [own_isub, hn, e1]; omega
        refine w_icmp 60 48 C d2_45 rfl rfl (fun (hc45 : (n - (1 : Int32)).toInt ≤ x1.toInt) => ?_) (fun (hc45 : ¬ ((n - (1 : Int32)).toInt ≤ x1.toInt)) => ?_)
        · refine w_iload 62 C d2_60 rfl rfl ?_
          refine w_i2b 63 C d2_62 rfl ?_
          refine w_istore 65 [.val (.ref a), .val (.int i), .val (.int p), .val (.long u), .second, .val (.int n), .val (.int f), .val (.int (x2.toInt8.toInt32)), .val (.int x1), .val (.int x2)] C d2_63 rfl rfl ?_
          exact J_65 (x2.toInt8.toInt32) _ _ (own_eq (by rw [hye, if_neg (by omega), if_neg (by omega), own_i2b, hg]; omega))
        · refine w_iload 50 C d2_48 rfl rfl ?_
          refine w_sipush 53 (128 : Int32) C d2_50 rfl rfl ?_
          refine w_ior 54 C d2_53 rfl ?_
          refine w_i2b 55 C d2_54 rfl ?_
          refine w_istore 57 [.val (.ref a), .val (.int i), .val (.int p), .val (.long u), .second, .val (.int n), .val (.int f), .val (.int ((x2 ||| (128 : Int32)).toInt8.toInt32)), .val (.int x1), .val (.int x2)] C d2_55 rfl rfl ?_
          refine w_goto 65 C d2_57 rfl ?_
          exact J_65 ((x2 ||| (128 : Int32)).toInt8.toInt32) _ _ (own_eq (by rw [hye, if_neg (by omega), if_pos (by omega), own_i2b, own_or x2 128 7 1 (by omega) (by omega) (by decide) (by rw [show (128 : Int32).toInt = 128 from by decide]; omega), hg, show (128 : Int32).toInt = 128 from by decide]; omega))
      · refine w_iload 15 C d2_13 rfl rfl ?_
        refine w_istore 17 [.val (.ref a), .val (.int i), .val (.int p), .val (.long u), .second, .val (.int n), .val (.int f), .val (.int f), .unset, .unset] C d2_15 rfl rfl ?_
        refine w_goto 65 C d2_17 rfl ?_
        exact J_65 f _ _ (own_eq (by rw [hye, if_pos (by omega)]))
  intro ex s8 s9 hex
  refine w_aloadN 66 C d2_65 rfl rfl rfl ?_
  refine w_iloadN 67 C d2_66 rfl rfl ?_
  refine w_baload 68 (ni) y C A_a d2_67 rfl hi hy ?_
  refine w_iload 70 C d2_68 rfl rfl ?_
  refine w_icmpN 73 C d2_70 rfl (show ¬ (¬ (y = ex)) from (fun q => q hex.symm)) ?_
  refine w_iconst 74 (1 : Int32) C d2_73 rfl rfl ?_
  refine w_goto 78 C d2_74 rfl ?_
  refine w_retN C (by simp) d2_78 rfl (by decide) (by decide) ?_
  exact ⟨rfl, rfl⟩
set_option maxRecDepth 65536 in
set_option maxHeartbeats 40000000 in
theorem rm0 (l : Launch) (Z : State) (a0 : Array Value) (hw : ∀ d ∈ tables_1, d.before a0 Z = true) (ws : List Jvm.Cond) (p0 : Int64) (p1 p2 : Int32) (h0 : Heap) (n0 : Nat) (hz : n0 ≤ h0.size) :
    OwnMet l x code maxLocals ret ws room_1 Z h0 n0 #[.long p0, .int p1, .int p2] (fun v h => v = some (.int 1)) := by
  refine OwnMet.of (own := "com/example/wiretagg/wiretagg/VarintWritePinLaw") (name := "law") (desc := "(JII)Z") (Ls := [.val (.long p0), .second, .val (.int p1), .val (.int p2), .unset, .unset, .unset, .unset]) (plainFor_of_name pn_com_example_wiretagg_wiretagg_VarintWritePinLaw) (fun m => by first | (simp [entryFrame, mkF, argsToLocals, Value.category, maxLocals]; done) | rfl) ?_
  intro K hK C
  refine w_iloadN 1 C at_0 rfl rfl ?_
  refine w_iconst 2 (3 : Int32) C at_1 rfl rfl ?_
  refine w_iand 3 C at_2 rfl ?_
  refine w_istore 5 [.val (.long p0), .second, .val (.int p1), .val (.int p2), .val (.int (p1 &&& (3 : Int32))), .unset, .unset, .unset] C at_3 rfl rfl ?_
  generalize hv_x1 : (p1 &&& (3 : Int32)) = x1
  refine w_iloadN 6 C at_5 rfl rfl ?_
  refine w_i2b 7 C at_6 rfl ?_
  refine w_istore 9 [.val (.long p0), .second, .val (.int p1), .val (.int p2), .val (.int x1), .val (.int (p2.toInt8.toInt32)), .unset, .unset] C at_7 rfl rfl ?_
  generalize hv_x2 : (p2.toInt8.toInt32) = x2
  refine w_bipush 11 (14 : Int32) C at_9 rfl rfl ?_
  refine w_newarr 13 14 14 C hz at_11 rfl (hw _ (List.mem_of_getElem? (i := 0) rfl)) rfl (by decide) (by decide) (by decide) (by decide) (by decide) ?_
  intro h3 b4 X_b4 g_b4 sz0_b4 A_b4 hz_
  replace hz := hz_
  replace A_b4 : Ai Z h3 b4 .byte [(0 : Int32), (0 : Int32), (0 : Int32), (0 : Int32), (0 : Int32), (0 : Int32), (0 : Int32), (0 : Int32), (0 : Int32), (0 : Int32), (0 : Int32), (0 : Int32), (0 : Int32), (0 : Int32)] := A_b4
  show Go K h3 1 14 13 [.val (.long p0), .second, .val (.int p1), .val (.int p2), .val (.int x1), .val (.int x2), .unset, .unset] [.ref b4]
  refine w_dup 14 C at_13 rfl rfl ?_
  refine w_iconst 15 (0 : Int32) C at_14 rfl rfl ?_
  refine w_iload 17 C at_15 rfl rfl ?_
  obtain ⟨y6, hv_y6⟩ : ∃ z : Int32, x2.toInt8.toInt32 = z := ⟨_, rfl⟩
  refine w_bastore 18 0 y6 C A_b4 g_b4 at_17 rfl (by decide) (Nat.le_of_ble_eq_true rfl) hv_y6 ?_
  intro h5 K_h5 A_b4'
  replace A_b4 : Ai Z h5 b4 .byte [y6, (0 : Int32), (0 : Int32), (0 : Int32), (0 : Int32), (0 : Int32), (0 : Int32), (0 : Int32), (0 : Int32), (0 : Int32), (0 : Int32), (0 : Int32), (0 : Int32), (0 : Int32)] := A_b4'
  replace hz := Nat.le_trans hz K_h5.1
  refine w_dup 19 C at_18 rfl rfl ?_
  refine w_iconst 20 (1 : Int32) C at_19 rfl rfl ?_
  refine w_iload 22 C at_20 rfl rfl ?_
  obtain ⟨y8, hv_y8⟩ : ∃ z : Int32, x2.toInt8.toInt32 = z := ⟨_, rfl⟩
  refine w_bastore 23 1 y8 C A_b4 g_b4 at_22 rfl (by decide) (Nat.le_of_ble_eq_true rfl) hv_y8 ?_
  intro h7 K_h7 A_b4'
  replace A_b4 : Ai Z h7 b4 .byte [y6, y8, (0 : Int32), (0 : Int32), (0 : Int32), (0 : Int32), (0 : Int32), (0 : Int32), (0 : Int32), (0 : Int32), (0 : Int32), (0 : Int32), (0 : Int32), (0 : Int32)] := A_b4'
  replace hz := Nat.le_trans hz K_h7.1
  refine w_dup 24 C at_23 rfl rfl ?_
  refine w_iconst 25 (2 : Int32) C at_24 rfl rfl ?_
  refine w_iload 27 C at_25 rfl rfl ?_
  obtain ⟨y10, hv_y10⟩ : ∃ z : Int32, x2.toInt8.toInt32 = z := ⟨_, rfl⟩
  refine w_bastore 28 2 y10 C A_b4 g_b4 at_27 rfl (by decide) (Nat.le_of_ble_eq_true rfl) hv_y10 ?_
  intro h9 K_h9 A_b4'
  replace A_b4 : Ai Z h9 b4 .byte [y6, y8, y10, (0 : Int32), (0 : Int32), (0 : Int32), (0 : Int32), (0 : Int32), (0 : Int32), (0 : Int32), (0 : Int32), (0 : Int32), (0 : Int32), (0 : Int32)] := A_b4'
  replace hz := Nat.le_trans hz K_h9.1
  refine w_dup 29 C at_28 rfl rfl ?_
  refine w_iconst 30 (3 : Int32) C at_29 rfl rfl ?_
  refine w_iload 32 C at_30 rfl rfl ?_
  obtain ⟨y12, hv_y12⟩ : ∃ z : Int32, x2.toInt8.toInt32 = z := ⟨_, rfl⟩
  refine w_bastore 33 3 y12 C A_b4 g_b4 at_32 rfl (by decide) (Nat.le_of_ble_eq_true rfl) hv_y12 ?_
  intro h11 K_h11 A_b4'
  replace A_b4 : Ai Z h11 b4 .byte [y6, y8, y10, y12, (0 : Int32), (0 : Int32), (0 : Int32), (0 : Int32), (0 : Int32), (0 : Int32), (0 : Int32), (0 : Int32), (0 : Int32), (0 : Int32)] := A_b4'
  replace hz := Nat.le_trans hz K_h11.1
  refine w_dup 34 C at_33 rfl rfl ?_
  refine w_iconst 35 (4 : Int32) C at_34 rfl rfl ?_
  refine w_iload 37 C at_35 rfl rfl ?_
  obtain ⟨y14, hv_y14⟩ : ∃ z : Int32, x2.toInt8.toInt32 = z := ⟨_, rfl⟩
  refine w_bastore 38 4 y14 C A_b4 g_b4 at_37 rfl (by decide) (Nat.le_of_ble_eq_true rfl) hv_y14 ?_
  intro h13 K_h13 A_b4'
  replace A_b4 : Ai Z h13 b4 .byte [y6, y8, y10, y12, y14, (0 : Int32), (0 : Int32), (0 : Int32), (0 : Int32), (0 : Int32), (0 : Int32), (0 : Int32), (0 : Int32), (0 : Int32)] := A_b4'
  replace hz := Nat.le_trans hz K_h13.1
  refine w_dup 39 C at_38 rfl rfl ?_
  refine w_iconst 40 (5 : Int32) C at_39 rfl rfl ?_
  refine w_iload 42 C at_40 rfl rfl ?_
  obtain ⟨y16, hv_y16⟩ : ∃ z : Int32, x2.toInt8.toInt32 = z := ⟨_, rfl⟩
  refine w_bastore 43 5 y16 C A_b4 g_b4 at_42 rfl (by decide) (Nat.le_of_ble_eq_true rfl) hv_y16 ?_
  intro h15 K_h15 A_b4'
  replace A_b4 : Ai Z h15 b4 .byte [y6, y8, y10, y12, y14, y16, (0 : Int32), (0 : Int32), (0 : Int32), (0 : Int32), (0 : Int32), (0 : Int32), (0 : Int32), (0 : Int32)] := A_b4'
  replace hz := Nat.le_trans hz K_h15.1
  refine w_dup 44 C at_43 rfl rfl ?_
  refine w_bipush 46 (6 : Int32) C at_44 rfl rfl ?_
  refine w_iload 48 C at_46 rfl rfl ?_
  obtain ⟨y18, hv_y18⟩ : ∃ z : Int32, x2.toInt8.toInt32 = z := ⟨_, rfl⟩
  refine w_bastore 49 6 y18 C A_b4 g_b4 at_48 rfl (by decide) (Nat.le_of_ble_eq_true rfl) hv_y18 ?_
  intro h17 K_h17 A_b4'
  replace A_b4 : Ai Z h17 b4 .byte [y6, y8, y10, y12, y14, y16, y18, (0 : Int32), (0 : Int32), (0 : Int32), (0 : Int32), (0 : Int32), (0 : Int32), (0 : Int32)] := A_b4'
  replace hz := Nat.le_trans hz K_h17.1
  refine w_dup 50 C at_49 rfl rfl ?_
  refine w_bipush 52 (7 : Int32) C at_50 rfl rfl ?_
  refine w_iload 54 C at_52 rfl rfl ?_
  obtain ⟨y20, hv_y20⟩ : ∃ z : Int32, x2.toInt8.toInt32 = z := ⟨_, rfl⟩
  refine w_bastore 55 7 y20 C A_b4 g_b4 at_54 rfl (by decide) (Nat.le_of_ble_eq_true rfl) hv_y20 ?_
  intro h19 K_h19 A_b4'
  replace A_b4 : Ai Z h19 b4 .byte [y6, y8, y10, y12, y14, y16, y18, y20, (0 : Int32), (0 : Int32), (0 : Int32), (0 : Int32), (0 : Int32), (0 : Int32)] := A_b4'
  replace hz := Nat.le_trans hz K_h19.1
  refine w_dup 56 C at_55 rfl rfl ?_
  refine w_bipush 58 (8 : Int32) C at_56 rfl rfl ?_
  refine w_iload 60 C at_58 rfl rfl ?_
  obtain ⟨y22, hv_y22⟩ : ∃ z : Int32, x2.toInt8.toInt32 = z := ⟨_, rfl⟩
  refine w_bastore 61 8 y22 C A_b4 g_b4 at_60 rfl (by decide) (Nat.le_of_ble_eq_true rfl) hv_y22 ?_
  intro h21 K_h21 A_b4'
  replace A_b4 : Ai Z h21 b4 .byte [y6, y8, y10, y12, y14, y16, y18, y20, y22, (0 : Int32), (0 : Int32), (0 : Int32), (0 : Int32), (0 : Int32)] := A_b4'
  replace hz := Nat.le_trans hz K_h21.1
  refine w_dup 62 C at_61 rfl rfl ?_
  refine w_bipush 64 (9 : Int32) C at_62 rfl rfl ?_
  refine w_iload 66 C at_64 rfl rfl ?_
  obtain ⟨y24, hv_y24⟩ : ∃ z : Int32, x2.toInt8.toInt32 = z := ⟨_, rfl⟩
  refine w_bastore 67 9 y24 C A_b4 g_b4 at_66 rfl (by decide) (Nat.le_of_ble_eq_true rfl) hv_y24 ?_
  intro h23 K_h23 A_b4'
  replace A_b4 : Ai Z h23 b4 .byte [y6, y8, y10, y12, y14, y16, y18, y20, y22, y24, (0 : Int32), (0 : Int32), (0 : Int32), (0 : Int32)] := A_b4'
  replace hz := Nat.le_trans hz K_h23.1
  refine w_dup 68 C at_67 rfl rfl ?_
  refine w_bipush 70 (10 : Int32) C at_68 rfl rfl ?_
  refine w_iload 72 C at_70 rfl rfl ?_
  obtain ⟨y26, hv_y26⟩ : ∃ z : Int32, x2.toInt8.toInt32 = z := ⟨_, rfl⟩
  refine w_bastore 73 10 y26 C A_b4 g_b4 at_72 rfl (by decide) (Nat.le_of_ble_eq_true rfl) hv_y26 ?_
  intro h25 K_h25 A_b4'
  replace A_b4 : Ai Z h25 b4 .byte [y6, y8, y10, y12, y14, y16, y18, y20, y22, y24, y26, (0 : Int32), (0 : Int32), (0 : Int32)] := A_b4'
  replace hz := Nat.le_trans hz K_h25.1
  refine w_dup 74 C at_73 rfl rfl ?_
  refine w_bipush 76 (11 : Int32) C at_74 rfl rfl ?_
  refine w_iload 78 C at_76 rfl rfl ?_
  obtain ⟨y28, hv_y28⟩ : ∃ z : Int32, x2.toInt8.toInt32 = z := ⟨_, rfl⟩
  refine w_bastore 79 11 y28 C A_b4 g_b4 at_78 rfl (by decide) (Nat.le_of_ble_eq_true rfl) hv_y28 ?_
  intro h27 K_h27 A_b4'
  replace A_b4 : Ai Z h27 b4 .byte [y6, y8, y10, y12, y14, y16, y18, y20, y22, y24, y26, y28, (0 : Int32), (0 : Int32)] := A_b4'
  replace hz := Nat.le_trans hz K_h27.1
  refine w_dup 80 C at_79 rfl rfl ?_
  refine w_bipush 82 (12 : Int32) C at_80 rfl rfl ?_
  refine w_iload 84 C at_82 rfl rfl ?_
  obtain ⟨y30, hv_y30⟩ : ∃ z : Int32, x2.toInt8.toInt32 = z := ⟨_, rfl⟩
  refine w_bastore 85 12 y30 C A_b4 g_b4 at_84 rfl (by decide) (Nat.le_of_ble_eq_true rfl) hv_y30 ?_
  intro h29 K_h29 A_b4'
  replace A_b4 : Ai Z h29 b4 .byte [y6, y8, y10, y12, y14, y16, y18, y20, y22, y24, y26, y28, y30, (0 : Int32)] := A_b4'
  replace hz := Nat.le_trans hz K_h29.1
  refine w_dup 86 C at_85 rfl rfl ?_
  refine w_bipush 88 (13 : Int32) C at_86 rfl rfl ?_
  refine w_iload 90 C at_88 rfl rfl ?_
  obtain ⟨y32, hv_y32⟩ : ∃ z : Int32, x2.toInt8.toInt32 = z := ⟨_, rfl⟩
  refine w_bastore 91 13 y32 C A_b4 g_b4 at_90 rfl (by decide) (Nat.le_of_ble_eq_true rfl) hv_y32 ?_
  intro h31 K_h31 A_b4'
  replace A_b4 : Ai Z h31 b4 .byte [y6, y8, y10, y12, y14, y16, y18, y20, y22, y24, y26, y28, y30, y32] := A_b4'
  replace hz := Nat.le_trans hz K_h31.1
  refine w_astore 93 [.val (.long p0), .second, .val (.int p1), .val (.int p2), .val (.int x1), .val (.int x2), .val (.ref b4), .unset] C at_91 rfl rfl rfl ?_
  refine w_iconst 94 (1 : Int32) C at_93 rfl rfl ?_
  refine w_lloadN 95 C at_94 rfl rfl ?_
  refine w_bipush 97 (7 : Int32) C at_95 rfl rfl ?_
  refine w_lushr 98 C at_97 rfl ?_
  refine w_lconst 99 (0 : Int64) C at_98 rfl rfl ?_
  have hm := own_mask p1 3 2 (by decide) (by decide)
  rw [hv_x1] at hm
  obtain ⟨np, hp⟩ : ∃ np : Nat, x1.toInt = (np : Int) := ⟨x1.toInt.toNat, by omega⟩
  have hp3 : np ≤ 3 := by omega
  obtain ⟨U, hU⟩ : ∃ U : Nat, U = (p0.toInt % 18446744073709551616).toNat := ⟨_, rfl⟩
  have hU64 : U < 18446744073709551616 := by omega
  obtain rfl : x2 = y6 := by rw [← hv_y6, ← hv_x2, own_idem]
  obtain rfl : x2 = y8 := by rw [← hv_y8, ← hv_x2, own_idem]
  obtain rfl : x2 = y10 := by rw [← hv_y10, ← hv_x2, own_idem]
  obtain rfl : x2 = y12 := by rw [← hv_y12, ← hv_x2, own_idem]
  obtain rfl : x2 = y14 := by rw [← hv_y14, ← hv_x2, own_idem]
  obtain rfl : x2 = y16 := by rw [← hv_y16, ← hv_x2, own_idem]
  obtain rfl : x2 = y18 := by rw [← hv_y18, ← hv_x2, own_idem]
  obtain rfl : x2 = y20 := by rw [← hv_y20, ← hv_x2, own_idem]
  obtain rfl : x2 = y22 := by rw [← hv_y22, ← hv_x2, own_idem]
  obtain rfl : x2 = y24 := by rw [← hv_y24, ← hv_x2, own_idem]
  obtain rfl : x2 = y26 := by rw [← hv_y26, ← hv_x2, own_idem]
  obtain rfl : x2 = y28 := by rw [← hv_y28, ← hv_x2, own_idem]
  obtain rfl : x2 = y30 := by rw [← hv_y30, ← hv_x2, own_idem]
  obtain rfl : x2 = y32 := by rw [← hv_y32, ← hv_x2, own_idem]
  replace A_b4 : Ai Z h31 b4 .byte (List.replicate 14 x2) := A_b4
  refine own_cut1 (fun (bt1 : Int32) => (U < 128 ∧ bt1 = 0) ∨ (128 ≤ U ∧ bt1 = 1)) (fun (bt1 : Int32) => Go K h31 1 14 108 [.val (.long p0), .second, .val (.int p1), .val (.int p2), .val (.int x1), .val (.int x2), .val (.ref b4), .unset] [.int bt1, .int (1 : Int32)]) ?_ ?_
  · intro J_
    refine w_lif 100 107 103 C at_99 rfl at_100 rfl rfl (fun (hc99 : ((p0.toUInt64 >>> ((7 : Int32) &&& 0x3f).toInt64.toUInt64).toInt64) = (0 : Int64)) => ?_) (fun (hc99 : ¬ (((p0.toUInt64 >>> ((7 : Int32) &&& 0x3f).toInt64.toUInt64).toInt64) = (0 : Int64))) => ?_)
    · refine w_iconst 108 (0 : Int32) C at_107 rfl rfl ?_
      exact J_ ((0 : Int32)) (Or.inl ⟨by rw [hU]; exact (own_shz p0 7 (by decide) (by decide) (by decide)).mp hc99, rfl⟩)
    · refine w_iconst 104 (1 : Int32) C at_103 rfl rfl ?_
      refine w_goto 108 C at_104 rfl ?_
      exact J_ ((1 : Int32)) (Or.inr ⟨by rw [hU]; exact Nat.le_of_not_lt fun g => hc99 ((own_shz p0 7 (by decide) (by decide) (by decide)).mpr g), rfl⟩)
  intro bt1 hj108
  show Go K h31 1 14 108 [.val (.long p0), .second, .val (.int p1), .val (.int p2), .val (.int x1), .val (.int x2), .val (.ref b4), .unset] [.int bt1, .int (1 : Int32)]
  have hjb1 := hj108
  refine w_iadd 109 C at_108 rfl ?_
  refine w_lloadN 110 C at_109 rfl rfl ?_
  refine w_bipush 112 (14 : Int32) C at_110 rfl rfl ?_
  refine w_lushr 113 C at_112 rfl ?_
  refine w_lconst 114 (0 : Int64) C at_113 rfl rfl ?_
  refine own_cut1 (fun (bt2 : Int32) => (U < 16384 ∧ bt2 = 0) ∨ (16384 ≤ U ∧ bt2 = 1)) (fun (bt2 : Int32) => Go K h31 1 14 123 [.val (.long p0), .second, .val (.int p1), .val (.int p2), .val (.int x1), .val (.int x2), .val (.ref b4), .unset] [.int bt2, .int ((1 : Int32) + bt1)]) ?_ ?_
  · intro J_
    refine w_lif 115 122 118 C at_114 rfl at_115 rfl rfl (fun (hc114 : ((p0.toUInt64 >>> ((14 : Int32) &&& 0x3f).toInt64.toUInt64).toInt64) = (0 : Int64)) => ?_) (fun (hc114 : ¬ (((p0.toUInt64 >>> ((14 : Int32) &&& 0x3f).toInt64.toUInt64).toInt64) = (0 : Int64))) => ?_)
    · refine w_iconst 123 (0 : Int32) C at_122 rfl rfl ?_
      exact J_ ((0 : Int32)) (Or.inl ⟨by rw [hU]; exact (own_shz p0 14 (by decide) (by decide) (by decide)).mp hc114, rfl⟩)
    · refine w_iconst 119 (1 : Int32) C at_118 rfl rfl ?_
      refine w_goto 123 C at_119 rfl ?_
      exact J_ ((1 : Int32)) (Or.inr ⟨by rw [hU]; exact Nat.le_of_not_lt fun g => hc114 ((own_shz p0 14 (by decide) (by decide) (by decide)).mpr g), rfl⟩)
  intro bt2 hj123
  show Go K h31 1 14 123 [.val (.long p0), .second, .val (.int p1), .val (.int p2), .val (.int x1), .val (.int x2), .val (.ref b4), .unset] [.int bt2, .int ((1 : Int32) + bt1)]
  have hjb2 := hj123
  refine w_iadd 124 C at_123 rfl ?_
  refine w_lloadN 125 C at_124 rfl rfl ?_
  refine w_bipush 127 (21 : Int32) C at_125 rfl rfl ?_
  refine w_lushr 128 C at_127 rfl ?_
  refine w_lconst 129 (0 : Int64) C at_128 rfl rfl ?_
  refine own_cut1 (fun (bt3 : Int32) => (U < 2097152 ∧ bt3 = 0) ∨ (2097152 ≤ U ∧ bt3 = 1)) (fun (bt3 : Int32) => Go K h31 1 14 138 [.val (.long p0), .second, .val (.int p1), .val (.int p2), .val (.int x1), .val (.int x2), .val (.ref b4), .unset] [.int bt3, .int (((1 : Int32) + bt1) + bt2)]) ?_ ?_
  · intro J_
    refine w_lif 130 137 133 C at_129 rfl at_130 rfl rfl (fun (hc129 : ((p0.toUInt64 >>> ((21 : Int32) &&& 0x3f).toInt64.toUInt64).toInt64) = (0 : Int64)) => ?_) (fun (hc129 : ¬ (((p0.toUInt64 >>> ((21 : Int32) &&& 0x3f).toInt64.toUInt64).toInt64) = (0 : Int64))) => ?_)
    · refine w_iconst 138 (0 : Int32) C at_137 rfl rfl ?_
      exact J_ ((0 : Int32)) (Or.inl ⟨by rw [hU]; exact (own_shz p0 21 (by decide) (by decide) (by decide)).mp hc129, rfl⟩)
    · refine w_iconst 134 (1 : Int32) C at_133 rfl rfl ?_
      refine w_goto 138 C at_134 rfl ?_
      exact J_ ((1 : Int32)) (Or.inr ⟨by rw [hU]; exact Nat.le_of_not_lt fun g => hc129 ((own_shz p0 21 (by decide) (by decide) (by decide)).mpr g), rfl⟩)
  intro bt3 hj138
  show Go K h31 1 14 138 [.val (.long p0), .second, .val (.int p1), .val (.int p2), .val (.int x1), .val (.int x2), .val (.ref b4), .unset] [.int bt3, .int (((1 : Int32) + bt1) + bt2)]
  have hjb3 := hj138
  refine w_iadd 139 C at_138 rfl ?_
  refine w_lloadN 140 C at_139 rfl rfl ?_
  refine w_bipush 142 (28 : Int32) C at_140 rfl rfl ?_
  refine w_lushr 143 C at_142 rfl ?_
  refine w_lconst 144 (0 : Int64) C at_143 rfl rfl ?_
  refine own_cut1 (fun (bt4 : Int32) => (U < 268435456 ∧ bt4 = 0) ∨ (268435456 ≤ U ∧ bt4 = 1)) (fun (bt4 : Int32) => Go K h31 1 14 153 [.val (.long p0), .second, .val (.int p1), .val (.int p2), .val (.int x1), .val (.int x2), .val (.ref b4), .unset] [.int bt4, .int ((((1 : Int32) + bt1) + bt2) + bt3)]) ?_ ?_
  · intro J_
    refine w_lif 145 152 148 C at_144 rfl at_145 rfl rfl (fun (hc144 : ((p0.toUInt64 >>> ((28 : Int32) &&& 0x3f).toInt64.toUInt64).toInt64) = (0 : Int64)) => ?_) (fun (hc144 : ¬ (((p0.toUInt64 >>> ((28 : Int32) &&& 0x3f).toInt64.toUInt64).toInt64) = (0 : Int64))) => ?_)
    · refine w_iconst 153 (0 : Int32) C at_152 rfl rfl ?_
      exact J_ ((0 : Int32)) (Or.inl ⟨by rw [hU]; exact (own_shz p0 28 (by decide) (by decide) (by decide)).mp hc144, rfl⟩)
    · refine w_iconst 149 (1 : Int32) C at_148 rfl rfl ?_
      refine w_goto 153 C at_149 rfl ?_
      exact J_ ((1 : Int32)) (Or.inr ⟨by rw [hU]; exact Nat.le_of_not_lt fun g => hc144 ((own_shz p0 28 (by decide) (by decide) (by decide)).mpr g), rfl⟩)
  intro bt4 hj153
  show Go K h31 1 14 153 [.val (.long p0), .second, .val (.int p1), .val (.int p2), .val (.int x1), .val (.int x2), .val (.ref b4), .unset] [.int bt4, .int ((((1 : Int32) + bt1) + bt2) + bt3)]
  have hjb4 := hj153
  refine w_iadd 154 C at_153 rfl ?_
  refine w_lloadN 155 C at_154 rfl rfl ?_
  refine w_bipush 157 (35 : Int32) C at_155 rfl rfl ?_
  refine w_lushr 158 C at_157 rfl ?_
  refine w_lconst 159 (0 : Int64) C at_158 rfl rfl ?_
  refine own_cut1 (fun (bt5 : Int32) => (U < 34359738368 ∧ bt5 = 0) ∨ (34359738368 ≤ U ∧ bt5 = 1)) (fun (bt5 : Int32) => Go K h31 1 14 168 [.val (.long p0), .second, .val (.int p1), .val (.int p2), .val (.int x1), .val (.int x2), .val (.ref b4), .unset] [.int bt5, .int (((((1 : Int32) + bt1) + bt2) + bt3) + bt4)]) ?_ ?_
  · intro J_
    refine w_lif 160 167 163 C at_159 rfl at_160 rfl rfl (fun (hc159 : ((p0.toUInt64 >>> ((35 : Int32) &&& 0x3f).toInt64.toUInt64).toInt64) = (0 : Int64)) => ?_) (fun (hc159 : ¬ (((p0.toUInt64 >>> ((35 : Int32) &&& 0x3f).toInt64.toUInt64).toInt64) = (0 : Int64))) => ?_)
    · refine w_iconst 168 (0 : Int32) C at_167 rfl rfl ?_
      exact J_ ((0 : Int32)) (Or.inl ⟨by rw [hU]; exact (own_shz p0 35 (by decide) (by decide) (by decide)).mp hc159, rfl⟩)
    · refine w_iconst 164 (1 : Int32) C at_163 rfl rfl ?_
      refine w_goto 168 C at_164 rfl ?_
      exact J_ ((1 : Int32)) (Or.inr ⟨by rw [hU]; exact Nat.le_of_not_lt fun g => hc159 ((own_shz p0 35 (by decide) (by decide) (by decide)).mpr g), rfl⟩)
  intro bt5 hj168
  show Go K h31 1 14 168 [.val (.long p0), .second, .val (.int p1), .val (.int p2), .val (.int x1), .val (.int x2), .val (.ref b4), .unset] [.int bt5, .int (((((1 : Int32) + bt1) + bt2) + bt3) + bt4)]
  have hjb5 := hj168
  refine w_iadd 169 C at_168 rfl ?_
  refine w_lloadN 170 C at_169 rfl rfl ?_
  refine w_bipush 172 (42 : Int32) C at_170 rfl rfl ?_
  refine w_lushr 173 C at_172 rfl ?_
  refine w_lconst 174 (0 : Int64) C at_173 rfl rfl ?_
  refine own_cut1 (fun (bt6 : Int32) => (U < 4398046511104 ∧ bt6 = 0) ∨ (4398046511104 ≤ U ∧ bt6 = 1)) (fun (bt6 : Int32) => Go K h31 1 14 183 [.val (.long p0), .second, .val (.int p1), .val (.int p2), .val (.int x1), .val (.int x2), .val (.ref b4), .unset] [.int bt6, .int ((((((1 : Int32) + bt1) + bt2) + bt3) + bt4) + bt5)]) ?_ ?_
  · intro J_
    refine w_lif 175 182 178 C at_174 rfl at_175 rfl rfl (fun (hc174 : ((p0.toUInt64 >>> ((42 : Int32) &&& 0x3f).toInt64.toUInt64).toInt64) = (0 : Int64)) => ?_) (fun (hc174 : ¬ (((p0.toUInt64 >>> ((42 : Int32) &&& 0x3f).toInt64.toUInt64).toInt64) = (0 : Int64))) => ?_)
    · refine w_iconst 183 (0 : Int32) C at_182 rfl rfl ?_
      exact J_ ((0 : Int32)) (Or.inl ⟨by rw [hU]; exact (own_shz p0 42 (by decide) (by decide) (by decide)).mp hc174, rfl⟩)
    · refine w_iconst 179 (1 : Int32) C at_178 rfl rfl ?_
      refine w_goto 183 C at_179 rfl ?_
      exact J_ ((1 : Int32)) (Or.inr ⟨by rw [hU]; exact Nat.le_of_not_lt fun g => hc174 ((own_shz p0 42 (by decide) (by decide) (by decide)).mpr g), rfl⟩)
  intro bt6 hj183
  show Go K h31 1 14 183 [.val (.long p0), .second, .val (.int p1), .val (.int p2), .val (.int x1), .val (.int x2), .val (.ref b4), .unset] [.int bt6, .int ((((((1 : Int32) + bt1) + bt2) + bt3) + bt4) + bt5)]
  have hjb6 := hj183
  refine w_iadd 184 C at_183 rfl ?_
  refine w_lloadN 185 C at_184 rfl rfl ?_
  refine w_bipush 187 (49 : Int32) C at_185 rfl rfl ?_
  refine w_lushr 188 C at_187 rfl ?_
  refine w_lconst 189 (0 : Int64) C at_188 rfl rfl ?_
  refine own_cut1 (fun (bt7 : Int32) => (U < 562949953421312 ∧ bt7 = 0) ∨ (562949953421312 ≤ U ∧ bt7 = 1)) (fun (bt7 : Int32) => Go K h31 1 14 198 [.val (.long p0), .second, .val (.int p1), .val (.int p2), .val (.int x1), .val (.int x2), .val (.ref b4), .unset] [.int bt7, .int (((((((1 : Int32) + bt1) + bt2) + bt3) + bt4) + bt5) + bt6)]) ?_ ?_
  · intro J_
    refine w_lif 190 197 193 C at_189 rfl at_190 rfl rfl (fun (hc189 : ((p0.toUInt64 >>> ((49 : Int32) &&& 0x3f).toInt64.toUInt64).toInt64) = (0 : Int64)) => ?_) (fun (hc189 : ¬ (((p0.toUInt64 >>> ((49 : Int32) &&& 0x3f).toInt64.toUInt64).toInt64) = (0 : Int64))) => ?_)
    · refine w_iconst 198 (0 : Int32) C at_197 rfl rfl ?_
      exact J_ ((0 : Int32)) (Or.inl ⟨by rw [hU]; exact (own_shz p0 49 (by decide) (by decide) (by decide)).mp hc189, rfl⟩)
    · refine w_iconst 194 (1 : Int32) C at_193 rfl rfl ?_
      refine w_goto 198 C at_194 rfl ?_
      exact J_ ((1 : Int32)) (Or.inr ⟨by rw [hU]; exact Nat.le_of_not_lt fun g => hc189 ((own_shz p0 49 (by decide) (by decide) (by decide)).mpr g), rfl⟩)
  intro bt7 hj198
  show Go K h31 1 14 198 [.val (.long p0), .second, .val (.int p1), .val (.int p2), .val (.int x1), .val (.int x2), .val (.ref b4), .unset] [.int bt7, .int (((((((1 : Int32) + bt1) + bt2) + bt3) + bt4) + bt5) + bt6)]
  have hjb7 := hj198
  refine w_iadd 199 C at_198 rfl ?_
  refine w_lloadN 200 C at_199 rfl rfl ?_
  refine w_bipush 202 (56 : Int32) C at_200 rfl rfl ?_
  refine w_lushr 203 C at_202 rfl ?_
  refine w_lconst 204 (0 : Int64) C at_203 rfl rfl ?_
  refine own_cut1 (fun (bt8 : Int32) => (U < 72057594037927936 ∧ bt8 = 0) ∨ (72057594037927936 ≤ U ∧ bt8 = 1)) (fun (bt8 : Int32) => Go K h31 1 14 213 [.val (.long p0), .second, .val (.int p1), .val (.int p2), .val (.int x1), .val (.int x2), .val (.ref b4), .unset] [.int bt8, .int ((((((((1 : Int32) + bt1) + bt2) + bt3) + bt4) + bt5) + bt6) + bt7)]) ?_ ?_
  · intro J_
    refine w_lif 205 212 208 C at_204 rfl at_205 rfl rfl (fun (hc204 : ((p0.toUInt64 >>> ((56 : Int32) &&& 0x3f).toInt64.toUInt64).toInt64) = (0 : Int64)) => ?_) (fun (hc204 : ¬ (((p0.toUInt64 >>> ((56 : Int32) &&& 0x3f).toInt64.toUInt64).toInt64) = (0 : Int64))) => ?_)
    · refine w_iconst 213 (0 : Int32) C at_212 rfl rfl ?_
      exact J_ ((0 : Int32)) (Or.inl ⟨by rw [hU]; exact (own_shz p0 56 (by decide) (by decide) (by decide)).mp hc204, rfl⟩)
    · refine w_iconst 209 (1 : Int32) C at_208 rfl rfl ?_
      refine w_goto 213 C at_209 rfl ?_
      exact J_ ((1 : Int32)) (Or.inr ⟨by rw [hU]; exact Nat.le_of_not_lt fun g => hc204 ((own_shz p0 56 (by decide) (by decide) (by decide)).mpr g), rfl⟩)
  intro bt8 hj213
  show Go K h31 1 14 213 [.val (.long p0), .second, .val (.int p1), .val (.int p2), .val (.int x1), .val (.int x2), .val (.ref b4), .unset] [.int bt8, .int ((((((((1 : Int32) + bt1) + bt2) + bt3) + bt4) + bt5) + bt6) + bt7)]
  have hjb8 := hj213
  refine w_iadd 214 C at_213 rfl ?_
  refine w_lloadN 215 C at_214 rfl rfl ?_
  refine w_bipush 217 (63 : Int32) C at_215 rfl rfl ?_
  refine w_lushr 218 C at_217 rfl ?_
  refine w_lconst 219 (0 : Int64) C at_218 rfl rfl ?_
  refine own_cut1 (fun (bt9 : Int32) => (U < 9223372036854775808 ∧ bt9 = 0) ∨ (9223372036854775808 ≤ U ∧ bt9 = 1)) (fun (bt9 : Int32) => Go K h31 1 14 228 [.val (.long p0), .second, .val (.int p1), .val (.int p2), .val (.int x1), .val (.int x2), .val (.ref b4), .unset] [.int bt9, .int (((((((((1 : Int32) + bt1) + bt2) + bt3) + bt4) + bt5) + bt6) + bt7) + bt8)]) ?_ ?_
  · intro J_
    refine w_lif 220 227 223 C at_219 rfl at_220 rfl rfl (fun (hc219 : ((p0.toUInt64 >>> ((63 : Int32) &&& 0x3f).toInt64.toUInt64).toInt64) = (0 : Int64)) => ?_) (fun (hc219 : ¬ (((p0.toUInt64 >>> ((63 : Int32) &&& 0x3f).toInt64.toUInt64).toInt64) = (0 : Int64))) => ?_)
    · refine w_iconst 228 (0 : Int32) C at_227 rfl rfl ?_
      exact J_ ((0 : Int32)) (Or.inl ⟨by rw [hU]; exact (own_shz p0 63 (by decide) (by decide) (by decide)).mp hc219, rfl⟩)
    · refine w_iconst 224 (1 : Int32) C at_223 rfl rfl ?_
      refine w_goto 228 C at_224 rfl ?_
      exact J_ ((1 : Int32)) (Or.inr ⟨by rw [hU]; exact Nat.le_of_not_lt fun g => hc219 ((own_shz p0 63 (by decide) (by decide) (by decide)).mpr g), rfl⟩)
  intro bt9 hj228
  show Go K h31 1 14 228 [.val (.long p0), .second, .val (.int p1), .val (.int p2), .val (.int x1), .val (.int x2), .val (.ref b4), .unset] [.int bt9, .int (((((((((1 : Int32) + bt1) + bt2) + bt3) + bt4) + bt5) + bt6) + bt7) + bt8)]
  have hjb9 := hj228
  refine w_iadd 229 C at_228 rfl ?_
  refine w_istore 231 [.val (.long p0), .second, .val (.int p1), .val (.int p2), .val (.int x1), .val (.int x2), .val (.ref b4), .val (.int ((((((((((1 : Int32) + bt1) + bt2) + bt3) + bt4) + bt5) + bt6) + bt7) + bt8) + bt9))] C at_229 rfl rfl ?_
  generalize hv_x33 : ((((((((((1 : Int32) + bt1) + bt2) + bt3) + bt4) + bt5) + bt6) + bt7) + bt8) + bt9) = x33
  refine w_aload 233 C at_231 rfl rfl rfl ?_
  refine w_iload 235 C at_233 rfl rfl ?_
  refine w_lloadN 236 C at_235 rfl rfl ?_
  have t1 : bt1.toInt = ((if 128 ≤ U then 1 else 0 : Nat) : Int) ∧ (if 128 ≤ U then 1 else 0 : Nat) ≤ 1 := own_bit hjb1
  have t2 : bt2.toInt = ((if 16384 ≤ U then 1 else 0 : Nat) : Int) ∧ (if 16384 ≤ U then 1 else 0 : Nat) ≤ 1 := own_bit hjb2
  have t3 : bt3.toInt = ((if 2097152 ≤ U then 1 else 0 : Nat) : Int) ∧ (if 2097152 ≤ U then 1 else 0 : Nat) ≤ 1 := own_bit hjb3
  have t4 : bt4.toInt = ((if 268435456 ≤ U then 1 else 0 : Nat) : Int) ∧ (if 268435456 ≤ U then 1 else 0 : Nat) ≤ 1 := own_bit hjb4
  have t5 : bt5.toInt = ((if 34359738368 ≤ U then 1 else 0 : Nat) : Int) ∧ (if 34359738368 ≤ U then 1 else 0 : Nat) ≤ 1 := own_bit hjb5
  have t6 : bt6.toInt = ((if 4398046511104 ≤ U then 1 else 0 : Nat) : Int) ∧ (if 4398046511104 ≤ U then 1 else 0 : Nat) ≤ 1 := own_bit hjb6
  have t7 : bt7.toInt = ((if 562949953421312 ≤ U then 1 else 0 : Nat) : Int) ∧ (if 562949953421312 ≤ U then 1 else 0 : Nat) ≤ 1 := own_bit hjb7
  have t8 : bt8.toInt = ((if 72057594037927936 ≤ U then 1 else 0 : Nat) : Int) ∧ (if 72057594037927936 ≤ U then 1 else 0 : Nat) ≤ 1 := own_bit hjb8
  have t9 : bt9.toInt = ((if 9223372036854775808 ≤ U then 1 else 0 : Nat) : Int) ∧ (if 9223372036854775808 ≤ U then 1 else 0 : Nat) ≤ 1 := own_bit hjb9
  have hn : x33.toInt = (((own_bytes 9 U).length : Nat) : Int) := by
    rw [own_cnt U hU64, ← hv_x33]
    exact (own_step 9 (by decide) (own_step 8 (by decide) (own_step 7 (by decide) (own_step 6 (by decide) (own_step 5 (by decide) (own_step 4 (by decide) (own_step 3 (by decide) (own_step 2 (by decide) (own_step 1 (by decide) ⟨by decide, Nat.le_refl 1⟩ t1) t2) t3) t4) t5) t6) t7) t8) t9).1
  refine w_callS (y := (⟨"com/example/wiretagg/wiretagg/Varint", "write", "([BIJ)V"⟩ : MethodName)) 239 0 [.ref b4, .int x1, .long p0] C at_236 rfl (hw _ (List.mem_of_getElem? (i := 1) rfl)) (hw _ (List.mem_of_getElem? (i := 2) rfl)) (hw _ (List.mem_of_getElem? (i := 3) rfl)) (hw _ (List.mem_of_getElem? (i := 4) rfl)) (by decide) (rm_wr K.l Z a0 hw [] b4 x1 p0 np (List.replicate 14 x2) h31 n0 hz A_b4 g_b4 hp (by simp; omega) (by simp)) pd_aBIJ_to_V rfl (rest := []) rfl rfl (Nat.le_of_eq rfl) (by decide) (by decide) (by decide) (by decide) ?_
  rintro v34 hE ⟨rfl, K1, A_b4⟩
  show Go K hE 1 14 239 [.val (.long p0), .second, .val (.int p1), .val (.int p2), .val (.int x1), .val (.int x2), .val (.ref b4), .val (.int x33)] []
  replace hz := Nat.le_trans hz K1.1
  have hmap := own_enc_map 9 p0 (by omega)
  rw [← hU] at hmap
  have hlen : (own_enc 9 p0).length = (own_bytes 9 U).length := by rw [← hmap]; simp
  have hpos := own_bytes_pos 9 U
  have hlast := own_bytes_last 9 U (by omega)
  have hget : ∀ j, (own_put (List.replicate 14 x2) np (own_enc 9 p0))[j]? = if np ≤ j ∧ j < np + (own_enc 9 p0).length then (own_enc 9 p0)[j - np]? else (List.replicate 14 x2)[j]? := fun j => own_put_get _ _ _ j (by simp; omega)
  have hin : ∀ i, i < 14 → ∃ y : Int32, (own_put (List.replicate 14 x2) np (own_enc 9 p0))[i]? = some y ∧ y.toInt = if i < np ∨ np + (own_bytes 9 U).length ≤ i then x2.toInt else if (i - np) + 1 < (own_bytes 9 U).length then ((((p0.toInt % 18446744073709551616).toNat / 128 ^ (i - np) : Nat) : Int)) % 128 - 128 else ((((p0.toInt % 18446744073709551616).toNat / 128 ^ (i - np) : Nat) : Int)) % 128 := by
    intro i hi
    rw [hget, ← hU]
    by_cases hc : i < np ∨ np + (own_bytes 9 U).length ≤ i
    · rw [if_neg (by omega), if_pos hc, List.getElem?_replicate, if_pos hi]; exact ⟨_, rfl, rfl⟩
    · rw [if_pos (by omega), if_neg hc]
      have hg := own_bytes_get 9 U (i - np) (by omega)
      rw [← hmap, List.getElem?_map] at hg
      cases hy : (own_enc 9 p0)[i - np]? with
      | none => rw [hy] at hg; simp at hg
      | some y =>
        rw [hy] at hg
        refine ⟨y, rfl, ?_⟩
        simp only [Option.map_some, Option.some.injEq] at hg
        have hlen2 : ((own_enc 9 p0).map Int32.toInt).length = (own_bytes 9 U).length := by rw [hmap]
        rw [hlen2] at hg
        by_cases q : (i - np) + 1 < (own_bytes 9 U).length
        · rw [if_pos q] at hg ⊢; exact hg
        · rw [if_neg q] at hg ⊢
          have hj_ : i - np = (own_bytes 9 U).length - 1 := by omega
          rw [← hj_] at hlast
          obtain ⟨W, hW⟩ : ∃ W, W = U / 128 ^ (i - np) := ⟨_, rfl⟩
          rw [← hW] at hg hlast ⊢; omega
  refine w_aload 241 C at_239 rfl rfl rfl ?_
  refine w_iconst 242 (0 : Int32) C at_241 rfl rfl ?_
  refine w_iload 244 C at_242 rfl rfl ?_
  refine w_lloadN 245 C at_244 rfl rfl ?_
  refine w_iload 247 C at_245 rfl rfl ?_
  refine w_iload 249 C at_247 rfl rfl ?_
  obtain ⟨y_0, hy_0, he_0⟩ := hin 0 (by decide)
  refine w_callS (y := (⟨"com/example/wiretagg/wiretagg/VarintWritePinLaw", "ok", "([BIIJIB)Z"⟩ : MethodName)) 252 0 [.ref b4, .int (0 : Int32), .int x1, .long p0, .int x33, .int x2] C at_249 rfl (hw _ (List.mem_of_getElem? (i := 6) rfl)) (hw _ (List.mem_of_getElem? (i := 7) rfl)) (hw _ (List.mem_of_getElem? (i := 8) rfl)) (hw _ (List.mem_of_getElem? (i := 9) rfl)) (by decide) (rm_ok K.l Z a0 hw [] b4 (0 : Int32) x1 p0 x33 x2 np 0 (own_bytes 9 U).length (own_put (List.replicate 14 x2) np (own_enc 9 p0)) y_0 hE n0 hz A_b4 hp (by decide) hn hp3 (by decide) hpos.1 hpos.2 hy_0 he_0) pd_aBIIJIB_to_Z rfl (rest := []) rfl rfl (Nat.le_of_eq rfl) (by decide) (by decide) (by decide) (by decide) ?_
  rintro v36 h35 ⟨rfl, rfl⟩
  show Go K hE 1 14 252 [.val (.long p0), .second, .val (.int p1), .val (.int p2), .val (.int x1), .val (.int x2), .val (.ref b4), .val (.int x33)] [.int (1 : Int32)]
  refine w_ifN 255 C at_252 rfl (show ¬ ((1 : Int32) = (0 : Int32)) from (by decide)) ?_
  refine w_aload 257 C at_255 rfl rfl rfl ?_
  refine w_iconst 258 (1 : Int32) C at_257 rfl rfl ?_
  refine w_iload 260 C at_258 rfl rfl ?_
  refine w_lloadN 261 C at_260 rfl rfl ?_
  refine w_iload 263 C at_261 rfl rfl ?_
  refine w_iload 265 C at_263 rfl rfl ?_
  obtain ⟨y_1, hy_1, he_1⟩ := hin 1 (by decide)
  refine w_callS (y := (⟨"com/example/wiretagg/wiretagg/VarintWritePinLaw", "ok", "([BIIJIB)Z"⟩ : MethodName)) 268 0 [.ref b4, .int (1 : Int32), .int x1, .long p0, .int x33, .int x2] C at_265 rfl (hw _ (List.mem_of_getElem? (i := 6) rfl)) (hw _ (List.mem_of_getElem? (i := 7) rfl)) (hw _ (List.mem_of_getElem? (i := 8) rfl)) (hw _ (List.mem_of_getElem? (i := 9) rfl)) (by decide) (rm_ok K.l Z a0 hw [] b4 (1 : Int32) x1 p0 x33 x2 np 1 (own_bytes 9 U).length (own_put (List.replicate 14 x2) np (own_enc 9 p0)) y_1 hE n0 hz A_b4 hp (by decide) hn hp3 (by decide) hpos.1 hpos.2 hy_1 he_1) pd_aBIIJIB_to_Z rfl (rest := []) rfl rfl (Nat.le_of_eq rfl) (by decide) (by decide) (by decide) (by decide) ?_
  rintro v38 h37 ⟨rfl, rfl⟩
  show Go K hE 1 14 268 [.val (.long p0), .second, .val (.int p1), .val (.int p2), .val (.int x1), .val (.int x2), .val (.ref b4), .val (.int x33)] [.int (1 : Int32)]
  refine w_ifN 271 C at_268 rfl (show ¬ ((1 : Int32) = (0 : Int32)) from (by decide)) ?_
  refine w_aload 273 C at_271 rfl rfl rfl ?_
  refine w_iconst 274 (2 : Int32) C at_273 rfl rfl ?_
  refine w_iload 276 C at_274 rfl rfl ?_
  refine w_lloadN 277 C at_276 rfl rfl ?_
  refine w_iload 279 C at_277 rfl rfl ?_
  refine w_iload 281 C at_279 rfl rfl ?_
  obtain ⟨y_2, hy_2, he_2⟩ := hin 2 (by decide)
  refine w_callS (y := (⟨"com/example/wiretagg/wiretagg/VarintWritePinLaw", "ok", "([BIIJIB)Z"⟩ : MethodName)) 284 0 [.ref b4, .int (2 : Int32), .int x1, .long p0, .int x33, .int x2] C at_281 rfl (hw _ (List.mem_of_getElem? (i := 6) rfl)) (hw _ (List.mem_of_getElem? (i := 7) rfl)) (hw _ (List.mem_of_getElem? (i := 8) rfl)) (hw _ (List.mem_of_getElem? (i := 9) rfl)) (by decide) (rm_ok K.l Z a0 hw [] b4 (2 : Int32) x1 p0 x33 x2 np 2 (own_bytes 9 U).length (own_put (List.replicate 14 x2) np (own_enc 9 p0)) y_2 hE n0 hz A_b4 hp (by decide) hn hp3 (by decide) hpos.1 hpos.2 hy_2 he_2) pd_aBIIJIB_to_Z rfl (rest := []) rfl rfl (Nat.le_of_eq rfl) (by decide) (by decide) (by decide) (by decide) ?_
  rintro v40 h39 ⟨rfl, rfl⟩
  show Go K hE 1 14 284 [.val (.long p0), .second, .val (.int p1), .val (.int p2), .val (.int x1), .val (.int x2), .val (.ref b4), .val (.int x33)] [.int (1 : Int32)]
  refine w_ifN 287 C at_284 rfl (show ¬ ((1 : Int32) = (0 : Int32)) from (by decide)) ?_
  refine w_aload 289 C at_287 rfl rfl rfl ?_
  refine w_iconst 290 (3 : Int32) C at_289 rfl rfl ?_
  refine w_iload 292 C at_290 rfl rfl ?_
  refine w_lloadN 293 C at_292 rfl rfl ?_
  refine w_iload 295 C at_293 rfl rfl ?_
  refine w_iload 297 C at_295 rfl rfl ?_
  obtain ⟨y_3, hy_3, he_3⟩ := hin 3 (by decide)
  refine w_callS (y := (⟨"com/example/wiretagg/wiretagg/VarintWritePinLaw", "ok", "([BIIJIB)Z"⟩ : MethodName)) 300 0 [.ref b4, .int (3 : Int32), .int x1, .long p0, .int x33, .int x2] C at_297 rfl (hw _ (List.mem_of_getElem? (i := 6) rfl)) (hw _ (List.mem_of_getElem? (i := 7) rfl)) (hw _ (List.mem_of_getElem? (i := 8) rfl)) (hw _ (List.mem_of_getElem? (i := 9) rfl)) (by decide) (rm_ok K.l Z a0 hw [] b4 (3 : Int32) x1 p0 x33 x2 np 3 (own_bytes 9 U).length (own_put (List.replicate 14 x2) np (own_enc 9 p0)) y_3 hE n0 hz A_b4 hp (by decide) hn hp3 (by decide) hpos.1 hpos.2 hy_3 he_3) pd_aBIIJIB_to_Z rfl (rest := []) rfl rfl (Nat.le_of_eq rfl) (by decide) (by decide) (by decide) (by decide) ?_
  rintro v42 h41 ⟨rfl, rfl⟩
  show Go K hE 1 14 300 [.val (.long p0), .second, .val (.int p1), .val (.int p2), .val (.int x1), .val (.int x2), .val (.ref b4), .val (.int x33)] [.int (1 : Int32)]
  refine w_ifN 303 C at_300 rfl (show ¬ ((1 : Int32) = (0 : Int32)) from (by decide)) ?_
  refine w_aload 305 C at_303 rfl rfl rfl ?_
  refine w_iconst 306 (4 : Int32) C at_305 rfl rfl ?_
  refine w_iload 308 C at_306 rfl rfl ?_
  refine w_lloadN 309 C at_308 rfl rfl ?_
  refine w_iload 311 C at_309 rfl rfl ?_
  refine w_iload 313 C at_311 rfl rfl ?_
  obtain ⟨y_4, hy_4, he_4⟩ := hin 4 (by decide)
  refine w_callS (y := (⟨"com/example/wiretagg/wiretagg/VarintWritePinLaw", "ok", "([BIIJIB)Z"⟩ : MethodName)) 316 0 [.ref b4, .int (4 : Int32), .int x1, .long p0, .int x33, .int x2] C at_313 rfl (hw _ (List.mem_of_getElem? (i := 6) rfl)) (hw _ (List.mem_of_getElem? (i := 7) rfl)) (hw _ (List.mem_of_getElem? (i := 8) rfl)) (hw _ (List.mem_of_getElem? (i := 9) rfl)) (by decide) (rm_ok K.l Z a0 hw [] b4 (4 : Int32) x1 p0 x33 x2 np 4 (own_bytes 9 U).length (own_put (List.replicate 14 x2) np (own_enc 9 p0)) y_4 hE n0 hz A_b4 hp (by decide) hn hp3 (by decide) hpos.1 hpos.2 hy_4 he_4) pd_aBIIJIB_to_Z rfl (rest := []) rfl rfl (Nat.le_of_eq rfl) (by decide) (by decide) (by decide) (by decide) ?_
  rintro v44 h43 ⟨rfl, rfl⟩
  show Go K hE 1 14 316 [.val (.long p0), .second, .val (.int p1), .val (.int p2), .val (.int x1), .val (.int x2), .val (.ref b4), .val (.int x33)] [.int (1 : Int32)]
  refine w_ifN 319 C at_316 rfl (show ¬ ((1 : Int32) = (0 : Int32)) from (by decide)) ?_
  refine w_aload 321 C at_319 rfl rfl rfl ?_
  refine w_iconst 322 (5 : Int32) C at_321 rfl rfl ?_
  refine w_iload 324 C at_322 rfl rfl ?_
  refine w_lloadN 325 C at_324 rfl rfl ?_
  refine w_iload 327 C at_325 rfl rfl ?_
  refine w_iload 329 C at_327 rfl rfl ?_
  obtain ⟨y_5, hy_5, he_5⟩ := hin 5 (by decide)
  refine w_callS (y := (⟨"com/example/wiretagg/wiretagg/VarintWritePinLaw", "ok", "([BIIJIB)Z"⟩ : MethodName)) 332 0 [.ref b4, .int (5 : Int32), .int x1, .long p0, .int x33, .int x2] C at_329 rfl (hw _ (List.mem_of_getElem? (i := 6) rfl)) (hw _ (List.mem_of_getElem? (i := 7) rfl)) (hw _ (List.mem_of_getElem? (i := 8) rfl)) (hw _ (List.mem_of_getElem? (i := 9) rfl)) (by decide) (rm_ok K.l Z a0 hw [] b4 (5 : Int32) x1 p0 x33 x2 np 5 (own_bytes 9 U).length (own_put (List.replicate 14 x2) np (own_enc 9 p0)) y_5 hE n0 hz A_b4 hp (by decide) hn hp3 (by decide) hpos.1 hpos.2 hy_5 he_5) pd_aBIIJIB_to_Z rfl (rest := []) rfl rfl (Nat.le_of_eq rfl) (by decide) (by decide) (by decide) (by decide) ?_
  rintro v46 h45 ⟨rfl, rfl⟩
  show Go K hE 1 14 332 [.val (.long p0), .second, .val (.int p1), .val (.int p2), .val (.int x1), .val (.int x2), .val (.ref b4), .val (.int x33)] [.int (1 : Int32)]
  refine w_ifN 335 C at_332 rfl (show ¬ ((1 : Int32) = (0 : Int32)) from (by decide)) ?_
  refine w_aload 337 C at_335 rfl rfl rfl ?_
  refine w_bipush 339 (6 : Int32) C at_337 rfl rfl ?_
  refine w_iload 341 C at_339 rfl rfl ?_
  refine w_lloadN 342 C at_341 rfl rfl ?_
  refine w_iload 344 C at_342 rfl rfl ?_
  refine w_iload 346 C at_344 rfl rfl ?_
  obtain ⟨y_6, hy_6, he_6⟩ := hin 6 (by decide)
  refine w_callS (y := (⟨"com/example/wiretagg/wiretagg/VarintWritePinLaw", "ok", "([BIIJIB)Z"⟩ : MethodName)) 349 0 [.ref b4, .int (6 : Int32), .int x1, .long p0, .int x33, .int x2] C at_346 rfl (hw _ (List.mem_of_getElem? (i := 6) rfl)) (hw _ (List.mem_of_getElem? (i := 7) rfl)) (hw _ (List.mem_of_getElem? (i := 8) rfl)) (hw _ (List.mem_of_getElem? (i := 9) rfl)) (by decide) (rm_ok K.l Z a0 hw [] b4 (6 : Int32) x1 p0 x33 x2 np 6 (own_bytes 9 U).length (own_put (List.replicate 14 x2) np (own_enc 9 p0)) y_6 hE n0 hz A_b4 hp (by decide) hn hp3 (by decide) hpos.1 hpos.2 hy_6 he_6) pd_aBIIJIB_to_Z rfl (rest := []) rfl rfl (Nat.le_of_eq rfl) (by decide) (by decide) (by decide) (by decide) ?_
  rintro v48 h47 ⟨rfl, rfl⟩
  show Go K hE 1 14 349 [.val (.long p0), .second, .val (.int p1), .val (.int p2), .val (.int x1), .val (.int x2), .val (.ref b4), .val (.int x33)] [.int (1 : Int32)]
  refine w_ifN 352 C at_349 rfl (show ¬ ((1 : Int32) = (0 : Int32)) from (by decide)) ?_
  refine w_aload 354 C at_352 rfl rfl rfl ?_
  refine w_bipush 356 (7 : Int32) C at_354 rfl rfl ?_
  refine w_iload 358 C at_356 rfl rfl ?_
  refine w_lloadN 359 C at_358 rfl rfl ?_
  refine w_iload 361 C at_359 rfl rfl ?_
  refine w_iload 363 C at_361 rfl rfl ?_
  obtain ⟨y_7, hy_7, he_7⟩ := hin 7 (by decide)
  refine w_callS (y := (⟨"com/example/wiretagg/wiretagg/VarintWritePinLaw", "ok", "([BIIJIB)Z"⟩ : MethodName)) 366 0 [.ref b4, .int (7 : Int32), .int x1, .long p0, .int x33, .int x2] C at_363 rfl (hw _ (List.mem_of_getElem? (i := 6) rfl)) (hw _ (List.mem_of_getElem? (i := 7) rfl)) (hw _ (List.mem_of_getElem? (i := 8) rfl)) (hw _ (List.mem_of_getElem? (i := 9) rfl)) (by decide) (rm_ok K.l Z a0 hw [] b4 (7 : Int32) x1 p0 x33 x2 np 7 (own_bytes 9 U).length (own_put (List.replicate 14 x2) np (own_enc 9 p0)) y_7 hE n0 hz A_b4 hp (by decide) hn hp3 (by decide) hpos.1 hpos.2 hy_7 he_7) pd_aBIIJIB_to_Z rfl (rest := []) rfl rfl (Nat.le_of_eq rfl) (by decide) (by decide) (by decide) (by decide) ?_
  rintro v50 h49 ⟨rfl, rfl⟩
  show Go K hE 1 14 366 [.val (.long p0), .second, .val (.int p1), .val (.int p2), .val (.int x1), .val (.int x2), .val (.ref b4), .val (.int x33)] [.int (1 : Int32)]
  refine w_ifN 369 C at_366 rfl (show ¬ ((1 : Int32) = (0 : Int32)) from (by decide)) ?_
  refine w_aload 371 C at_369 rfl rfl rfl ?_
  refine w_bipush 373 (8 : Int32) C at_371 rfl rfl ?_
  refine w_iload 375 C at_373 rfl rfl ?_
  refine w_lloadN 376 C at_375 rfl rfl ?_
  refine w_iload 378 C at_376 rfl rfl ?_
  refine w_iload 380 C at_378 rfl rfl ?_
  obtain ⟨y_8, hy_8, he_8⟩ := hin 8 (by decide)
  refine w_callS (y := (⟨"com/example/wiretagg/wiretagg/VarintWritePinLaw", "ok", "([BIIJIB)Z"⟩ : MethodName)) 383 0 [.ref b4, .int (8 : Int32), .int x1, .long p0, .int x33, .int x2] C at_380 rfl (hw _ (List.mem_of_getElem? (i := 6) rfl)) (hw _ (List.mem_of_getElem? (i := 7) rfl)) (hw _ (List.mem_of_getElem? (i := 8) rfl)) (hw _ (List.mem_of_getElem? (i := 9) rfl)) (by decide) (rm_ok K.l Z a0 hw [] b4 (8 : Int32) x1 p0 x33 x2 np 8 (own_bytes 9 U).length (own_put (List.replicate 14 x2) np (own_enc 9 p0)) y_8 hE n0 hz A_b4 hp (by decide) hn hp3 (by decide) hpos.1 hpos.2 hy_8 he_8) pd_aBIIJIB_to_Z rfl (rest := []) rfl rfl (Nat.le_of_eq rfl) (by decide) (by decide) (by decide) (by decide) ?_
  rintro v52 h51 ⟨rfl, rfl⟩
  show Go K hE 1 14 383 [.val (.long p0), .second, .val (.int p1), .val (.int p2), .val (.int x1), .val (.int x2), .val (.ref b4), .val (.int x33)] [.int (1 : Int32)]
  refine w_ifN 386 C at_383 rfl (show ¬ ((1 : Int32) = (0 : Int32)) from (by decide)) ?_
  refine w_aload 388 C at_386 rfl rfl rfl ?_
  refine w_bipush 390 (9 : Int32) C at_388 rfl rfl ?_
  refine w_iload 392 C at_390 rfl rfl ?_
  refine w_lloadN 393 C at_392 rfl rfl ?_
  refine w_iload 395 C at_393 rfl rfl ?_
  refine w_iload 397 C at_395 rfl rfl ?_
  obtain ⟨y_9, hy_9, he_9⟩ := hin 9 (by decide)
  refine w_callS (y := (⟨"com/example/wiretagg/wiretagg/VarintWritePinLaw", "ok", "([BIIJIB)Z"⟩ : MethodName)) 400 0 [.ref b4, .int (9 : Int32), .int x1, .long p0, .int x33, .int x2] C at_397 rfl (hw _ (List.mem_of_getElem? (i := 6) rfl)) (hw _ (List.mem_of_getElem? (i := 7) rfl)) (hw _ (List.mem_of_getElem? (i := 8) rfl)) (hw _ (List.mem_of_getElem? (i := 9) rfl)) (by decide) (rm_ok K.l Z a0 hw [] b4 (9 : Int32) x1 p0 x33 x2 np 9 (own_bytes 9 U).length (own_put (List.replicate 14 x2) np (own_enc 9 p0)) y_9 hE n0 hz A_b4 hp (by decide) hn hp3 (by decide) hpos.1 hpos.2 hy_9 he_9) pd_aBIIJIB_to_Z rfl (rest := []) rfl rfl (Nat.le_of_eq rfl) (by decide) (by decide) (by decide) (by decide) ?_
  rintro v54 h53 ⟨rfl, rfl⟩
  show Go K hE 1 14 400 [.val (.long p0), .second, .val (.int p1), .val (.int p2), .val (.int x1), .val (.int x2), .val (.ref b4), .val (.int x33)] [.int (1 : Int32)]
  refine w_ifN 403 C at_400 rfl (show ¬ ((1 : Int32) = (0 : Int32)) from (by decide)) ?_
  refine w_aload 405 C at_403 rfl rfl rfl ?_
  refine w_bipush 407 (10 : Int32) C at_405 rfl rfl ?_
  refine w_iload 409 C at_407 rfl rfl ?_
  refine w_lloadN 410 C at_409 rfl rfl ?_
  refine w_iload 412 C at_410 rfl rfl ?_
  refine w_iload 414 C at_412 rfl rfl ?_
  obtain ⟨y_10, hy_10, he_10⟩ := hin 10 (by decide)
  refine w_callS (y := (⟨"com/example/wiretagg/wiretagg/VarintWritePinLaw", "ok", "([BIIJIB)Z"⟩ : MethodName)) 417 0 [.ref b4, .int (10 : Int32), .int x1, .long p0, .int x33, .int x2] C at_414 rfl (hw _ (List.mem_of_getElem? (i := 6) rfl)) (hw _ (List.mem_of_getElem? (i := 7) rfl)) (hw _ (List.mem_of_getElem? (i := 8) rfl)) (hw _ (List.mem_of_getElem? (i := 9) rfl)) (by decide) (rm_ok K.l Z a0 hw [] b4 (10 : Int32) x1 p0 x33 x2 np 10 (own_bytes 9 U).length (own_put (List.replicate 14 x2) np (own_enc 9 p0)) y_10 hE n0 hz A_b4 hp (by decide) hn hp3 (by decide) hpos.1 hpos.2 hy_10 he_10) pd_aBIIJIB_to_Z rfl (rest := []) rfl rfl (Nat.le_of_eq rfl) (by decide) (by decide) (by decide) (by decide) ?_
  rintro v56 h55 ⟨rfl, rfl⟩
  show Go K hE 1 14 417 [.val (.long p0), .second, .val (.int p1), .val (.int p2), .val (.int x1), .val (.int x2), .val (.ref b4), .val (.int x33)] [.int (1 : Int32)]
  refine w_ifN 420 C at_417 rfl (show ¬ ((1 : Int32) = (0 : Int32)) from (by decide)) ?_
  refine w_aload 422 C at_420 rfl rfl rfl ?_
  refine w_bipush 424 (11 : Int32) C at_422 rfl rfl ?_
  refine w_iload 426 C at_424 rfl rfl ?_
  refine w_lloadN 427 C at_426 rfl rfl ?_
  refine w_iload 429 C at_427 rfl rfl ?_
  refine w_iload 431 C at_429 rfl rfl ?_
  obtain ⟨y_11, hy_11, he_11⟩ := hin 11 (by decide)
  refine w_callS (y := (⟨"com/example/wiretagg/wiretagg/VarintWritePinLaw", "ok", "([BIIJIB)Z"⟩ : MethodName)) 434 0 [.ref b4, .int (11 : Int32), .int x1, .long p0, .int x33, .int x2] C at_431 rfl (hw _ (List.mem_of_getElem? (i := 6) rfl)) (hw _ (List.mem_of_getElem? (i := 7) rfl)) (hw _ (List.mem_of_getElem? (i := 8) rfl)) (hw _ (List.mem_of_getElem? (i := 9) rfl)) (by decide) (rm_ok K.l Z a0 hw [] b4 (11 : Int32) x1 p0 x33 x2 np 11 (own_bytes 9 U).length (own_put (List.replicate 14 x2) np (own_enc 9 p0)) y_11 hE n0 hz A_b4 hp (by decide) hn hp3 (by decide) hpos.1 hpos.2 hy_11 he_11) pd_aBIIJIB_to_Z rfl (rest := []) rfl rfl (Nat.le_of_eq rfl) (by decide) (by decide) (by decide) (by decide) ?_
  rintro v58 h57 ⟨rfl, rfl⟩
  show Go K hE 1 14 434 [.val (.long p0), .second, .val (.int p1), .val (.int p2), .val (.int x1), .val (.int x2), .val (.ref b4), .val (.int x33)] [.int (1 : Int32)]
  refine w_ifN 437 C at_434 rfl (show ¬ ((1 : Int32) = (0 : Int32)) from (by decide)) ?_
  refine w_aload 439 C at_437 rfl rfl rfl ?_
  refine w_bipush 441 (12 : Int32) C at_439 rfl rfl ?_
  refine w_iload 443 C at_441 rfl rfl ?_
  refine w_lloadN 444 C at_443 rfl rfl ?_
  refine w_iload 446 C at_444 rfl rfl ?_
  refine w_iload 448 C at_446 rfl rfl ?_
  obtain ⟨y_12, hy_12, he_12⟩ := hin 12 (by decide)
  refine w_callS (y := (⟨"com/example/wiretagg/wiretagg/VarintWritePinLaw", "ok", "([BIIJIB)Z"⟩ : MethodName)) 451 0 [.ref b4, .int (12 : Int32), .int x1, .long p0, .int x33, .int x2] C at_448 rfl (hw _ (List.mem_of_getElem? (i := 6) rfl)) (hw _ (List.mem_of_getElem? (i := 7) rfl)) (hw _ (List.mem_of_getElem? (i := 8) rfl)) (hw _ (List.mem_of_getElem? (i := 9) rfl)) (by decide) (rm_ok K.l Z a0 hw [] b4 (12 : Int32) x1 p0 x33 x2 np 12 (own_bytes 9 U).length (own_put (List.replicate 14 x2) np (own_enc 9 p0)) y_12 hE n0 hz A_b4 hp (by decide) hn hp3 (by decide) hpos.1 hpos.2 hy_12 he_12) pd_aBIIJIB_to_Z rfl (rest := []) rfl rfl (Nat.le_of_eq rfl) (by decide) (by decide) (by decide) (by decide) ?_
  rintro v60 h59 ⟨rfl, rfl⟩
  show Go K hE 1 14 451 [.val (.long p0), .second, .val (.int p1), .val (.int p2), .val (.int x1), .val (.int x2), .val (.ref b4), .val (.int x33)] [.int (1 : Int32)]
  refine w_ifN 454 C at_451 rfl (show ¬ ((1 : Int32) = (0 : Int32)) from (by decide)) ?_
  refine w_aload 456 C at_454 rfl rfl rfl ?_
  refine w_bipush 458 (13 : Int32) C at_456 rfl rfl ?_
  refine w_iload 460 C at_458 rfl rfl ?_
  refine w_lloadN 461 C at_460 rfl rfl ?_
  refine w_iload 463 C at_461 rfl rfl ?_
  refine w_iload 465 C at_463 rfl rfl ?_
  obtain ⟨y_13, hy_13, he_13⟩ := hin 13 (by decide)
  refine w_callS (y := (⟨"com/example/wiretagg/wiretagg/VarintWritePinLaw", "ok", "([BIIJIB)Z"⟩ : MethodName)) 468 0 [.ref b4, .int (13 : Int32), .int x1, .long p0, .int x33, .int x2] C at_465 rfl (hw _ (List.mem_of_getElem? (i := 6) rfl)) (hw _ (List.mem_of_getElem? (i := 7) rfl)) (hw _ (List.mem_of_getElem? (i := 8) rfl)) (hw _ (List.mem_of_getElem? (i := 9) rfl)) (by decide) (rm_ok K.l Z a0 hw [] b4 (13 : Int32) x1 p0 x33 x2 np 13 (own_bytes 9 U).length (own_put (List.replicate 14 x2) np (own_enc 9 p0)) y_13 hE n0 hz A_b4 hp (by decide) hn hp3 (by decide) hpos.1 hpos.2 hy_13 he_13) pd_aBIIJIB_to_Z rfl (rest := []) rfl rfl (Nat.le_of_eq rfl) (by decide) (by decide) (by decide) (by decide) ?_
  rintro v62 h61 ⟨rfl, rfl⟩
  show Go K hE 1 14 468 [.val (.long p0), .second, .val (.int p1), .val (.int p2), .val (.int x1), .val (.int x2), .val (.ref b4), .val (.int x33)] [.int (1 : Int32)]
  refine w_ifN 471 C at_468 rfl (show ¬ ((1 : Int32) = (0 : Int32)) from (by decide)) ?_
  refine w_iconst 472 (1 : Int32) C at_471 rfl rfl ?_
  refine w_goto 476 C at_472 rfl ?_
  refine w_retN C (by simp) at_476 rfl (by decide) (by decide) ?_
  exact rfl
set_option maxRecDepth 65536 in
set_option maxHeartbeats 40000000 in
theorem comes_1 {Post : Tables → Env → Array Value → State → Outcome → State → Prop} (hpost : ∀ tb e args s v u, (limb_1_1.after args s (.returned v) u = true ∧ limb_1_2.after args s (.returned v) u = true ∧ True) → FrameEnd s (.returned v) u (Jvm.fieldLocs frame_1_writes args s ++ Jvm.arrayLocs frame_1_arrays args s ++ Jvm.staticLocs frame_1_statics s) 16 128 → Post tb e args s (.returned v) u) :
    ArmFor flags0 classFile x code maxLocals ret World_1 tables_1 room_1 Calls_1 rest_1 Pre_1 Post := by
  intro l hfl _ _ p e ha hc hk s m args below hf hA hF happ hP
  obtain ⟨hcalls, hrest, hpre⟩ := hP
  obtain ⟨-, -, -, hnamed, -, -, -, hat⟩ := (Spec.applies_iff hf).mp happ
  obtain ⟨hg, hn⟩ := and_e (Cond.before_iff.mp (show (Jvm.Cond.and given_1 narrow_1).before args s = true from hpre))
  obtain ⟨gc, r0⟩ := and_e hg
  obtain ⟨g0, r1⟩ := and_e r0
  obtain ⟨g1, r2⟩ := and_e r1
  obtain ⟨w0, w1, w2, rfl⟩ : ∃ w0 w1 w2 : Value, args = #[w0, w1, w2] := by
    have hs : args.size = 3 := by simpa [Cond.value, given_1] using gc
    obtain ⟨L⟩ := args
    match L, hs with
    | [w0, w1, w2], _ => exact ⟨w0, w1, w2, rfl⟩
  have hw := fun d (hd : d ∈ tables_1) => atoms_spec (ws := Jvm.Cond.code x code maxLocals ret :: tables_1) hat d (List.mem_cons_of_mem _ hd)
  obtain ⟨i0, ei0⟩ := isL_v g0
  obtain rfl : w0 = (.long i0) := Option.some.inj ei0
  obtain ⟨i1, ei1⟩ := is_v g1
  obtain rfl : w1 = (.int i1) := Option.some.inj ei1
  obtain ⟨i2, ei2⟩ := is_v r2
  obtain rfl : w2 = (.int i2) := Option.some.inj ei2
  obtain ⟨n, o, h1, h2, h3, _, L, rfl, ⟨N, rfl⟩, hq⟩ := rm0 l s _ hw tables_1 i0 i1 i2 s.heap s.heap.size (Nat.le_refl _) p e ha hc hk s m _ below hf ((Spec.applies_iff_loose hf).mp happ).1 ⟨rfl, State.Warmed39.refl s, rfl⟩ trivial
  refine ⟨n, _, h1, h2, h3, hpost _ _ _ _ _ _ ⟨Cond.after_iff.mpr rfl, Cond.after_iff.mpr (eq_i res_at (Term.int_eval (1)) rfl), trivial⟩ ⟨hq.1, hq.2.1, (hq.2.2.sift fun y hy => Or.inr (N y hy)).mono (by decide) (by decide)⟩⟩
theorem main_1_1 : Claimed_1_1 := comes_1 fun _ _ _ _ _ _ h hF => ⟨h.1, hF⟩
theorem main_1_2 : Claimed_1_2 := comes_1 fun _ _ _ _ _ _ h hF => ⟨h.2.1, hF⟩
end Jvm.Pilot.@@N@@
namespace Jvm.Pilot.@@N@@
open Jvm Jvm.ClassFile Sem Op Lib Jvm.Free Jvm.Stand Jvm.Pilot.@@N@@.Jvm.D
/-! MADE BY PROGRAM (witnessworld.py) out of the Statement's table words and the real class files: 9 classes; the members and pool entries that the words name. The judged class is class 1, her method 1. -/
namespace start1
open Jvm.ClassFile
def u (s : String) : CpInfo := .utf8 (stringToUtf16 s)
/-- a pool by its gaps: so many unusable entries, then the entry; so many at the end -/
def gap : Nat → List CpInfo → List CpInfo
  | 0, r => r
  | n + 1, r => .unusable :: gap n r
def poolList (es : List (Nat × CpInfo)) (last : Nat) : List CpInfo := es.foldr (fun e r => gap e.1 (e.2 :: r)) (gap last [])
def pool (es : List (Nat × CpInfo)) (last : Nat) : Array CpInfo := ⟨poolList es last⟩
def fileOf (pool : Array CpInfo) (this : Nat) (attrs : Array Attribute := #[]) (ms : Array MethodInfo := #[]) (fl : Nat := 33) (sup : Nat := 0) (ifs : Array Nat := #[]) (fds : Array FieldInfo := #[]) : ClassFile where
  minorVersion := 0
  majorVersion := 65
  constantPool := pool
  accessFlags := fl
  thisClass := this
  superClass := sup
  interfaces := ifs
  fields := fds
  methods := ms
  attributes := attrs
def plain (name : String) (sup : Option ClassId) : Class where
  name := name
  kind := .ordinary
  loader := none
  accessFlags := 33
  super := sup
  interfaces := #[]
  cf := none
  fields := #[]
  methods := #[]
  instanceTypes := #[]
  staticTypes := #[]
  resolved := #[]
  callSites := []
  init := .initialized
  statics := none
  mirror := none

def pool0 : Array CpInfo := pool [(5, u "<init>"), (0, u "()V"), (1, .class_ 10), (1, u "java/lang/Object")] 113

def k0m0 : Method := { name := "<init>", desc := "()V", sig := { parameters := [], returnType := none }, accessFlags := 1, code := none }
/-- java/lang/Object -/
def k0 : Class := { plain "java/lang/Object" none with
  accessFlags := 33
  interfaces := #[]
  cf := some (fileOf pool0 8 #[] #[{ accessFlags := 1, nameIndex := 5, descriptorIndex := 6, attributes := #[] }] 33 0 #[] #[])
  fields := #[]
  methods := #[k0m0]
  instanceTypes := #[]
  staticTypes := #[]
  resolved := Array.replicate 124 none
  statics := none }

def pool1 : Array CpInfo := pool [(2, .class_ 4), (1, u "java/lang/Object"), (0, u "<init>"), (0, u "()V"), (0, .methodref 8 9), (0, .class_ 10), (0, .nameAndType 11 12), (0, u "com/example/wiretagg/wiretagg/Varint"), (0, u "write"), (0, u "([BIJ)V"), (0, .methodref 14 15), (0, .class_ 16), (0, .nameAndType 17 18), (0, u "com/example/wiretagg/wiretagg/VarintWritePinLaw"), (0, u "ok"), (0, u "([BIIJIB)Z"), (0, .long 127), (3, u "law"), (0, u "(JII)Z")] 5

def k1m0 : Method := { name := "<init>", desc := "()V", sig := { parameters := [], returnType := none }, accessFlags := 2, code := none }
def k1c1 : Code := { maxStack := 7, maxLocals := 8, code := code, exceptionTable := #[], attributes := #[] }
def k1m1 : Method := { name := "law", desc := "(JII)Z", sig := { parameters := [.long, .int, .int], returnType := some .boolean }, accessFlags := 9, code := some k1c1 }
def k1c2 : Code := { maxStack := 4, maxLocals := 10, code := method_3_code, exceptionTable := #[], attributes := #[] }
def k1m2 : Method := { name := "ok", desc := "([BIIJIB)Z", sig := { parameters := [(.array .byte), .int, .int, .long, .int, .byte], returnType := some .boolean }, accessFlags := 10, code := some k1c2 }
/-- com/example/wiretagg/wiretagg/VarintWritePinLaw -/
def k1 : Class := { plain "com/example/wiretagg/wiretagg/VarintWritePinLaw" (some 0) with
  accessFlags := 49
  interfaces := #[]
  cf := some (fileOf pool1 14 #[] #[{ accessFlags := 2, nameIndex := 5, descriptorIndex := 6, attributes := #[] }, { accessFlags := 9, nameIndex := 23, descriptorIndex := 24, attributes := #[] }, { accessFlags := 10, nameIndex := 17, descriptorIndex := 18, attributes := #[] }] 49 2 #[] #[])
  fields := #[]
  methods := #[k1m0, k1m1, k1m2]
  instanceTypes := #[]
  staticTypes := #[]
  resolved := Array.replicate 30 none
  statics := none }

def pool2 : Array CpInfo := pool [(2, .class_ 4), (1, u "java/lang/Object"), (0, u "<init>"), (0, u "()V"), (2, .class_ 10), (0, u "com/example/wiretagg/wiretagg/Varint"), (106, u "write"), (0, u "([BIJ)V"), (3, .long 18446744073709551488), (1, .long 128), (4, u "MAX_UNSIGNED"), (0, u "J"), (1, u "MAX_BYTES_LONG"), (0, u "I"), (1, u "UNSIGNED"), (0, u "Ljava/lang/String;"), (0, u "SIGNED"), (0, u "SIGNED_LONG")] 42

def k2m0 : Method := { name := "<init>", desc := "()V", sig := { parameters := [], returnType := none }, accessFlags := 2, code := none }
def k2c1 : Code := { maxStack := 6, maxLocals := 7, code := prog_17_method_15_code, exceptionTable := #[], attributes := #[] }
def k2m1 : Method := { name := "write", desc := "([BIJ)V", sig := { parameters := [(.array .byte), .int, .long], returnType := none }, accessFlags := 8, code := some k2c1 }
/-- com/example/wiretagg/wiretagg/Varint -/
def k2 : Class := { plain "com/example/wiretagg/wiretagg/Varint" (some 0) with
  accessFlags := 33
  interfaces := #[]
  cf := some (fileOf pool2 9 #[] #[{ accessFlags := 2, nameIndex := 5, descriptorIndex := 6, attributes := #[] }, { accessFlags := 8, nameIndex := 117, descriptorIndex := 118, attributes := #[] }] 33 2 #[] #[{ accessFlags := 24, nameIndex := 129, descriptorIndex := 130, attributes := #[] }, { accessFlags := 24, nameIndex := 132, descriptorIndex := 133, attributes := #[] }, { accessFlags := 24, nameIndex := 135, descriptorIndex := 136, attributes := #[] }, { accessFlags := 24, nameIndex := 137, descriptorIndex := 136, attributes := #[] }, { accessFlags := 24, nameIndex := 138, descriptorIndex := 136, attributes := #[] }])
  fields := #[{ name := "MAX_UNSIGNED", type := .long, accessFlags := 24, slot := 0, constantValue := 0 }, { name := "MAX_BYTES_LONG", type := .int, accessFlags := 24, slot := 1, constantValue := 0 }, { name := "UNSIGNED", type := (.object "java/lang/String"), accessFlags := 24, slot := 2, constantValue := 0 }, { name := "SIGNED", type := (.object "java/lang/String"), accessFlags := 24, slot := 3, constantValue := 0 }, { name := "SIGNED_LONG", type := (.object "java/lang/String"), accessFlags := 24, slot := 4, constantValue := 0 }]
  methods := #[k2m0, k2m1]
  instanceTypes := #[]
  staticTypes := #[.long, .int, (.object "java/lang/String"), (.object "java/lang/String"), (.object "java/lang/String")]
  resolved := Array.replicate 181 none
  statics := none }

def pool3 : Array CpInfo := pool [(1, u "java/lang/Cloneable"), (0, .class_ 1), (0, u "java/lang/Object"), (0, .class_ 3)] 3

/-- java/lang/Cloneable -/
def k3 : Class := { plain "java/lang/Cloneable" (some 0) with
  accessFlags := 1537
  interfaces := #[]
  cf := some (fileOf pool3 2 #[] #[] 1537 4 #[] #[])
  fields := #[]
  methods := #[]
  instanceTypes := #[]
  staticTypes := #[]
  resolved := Array.replicate 8 none
  statics := none }

def pool4 : Array CpInfo := pool [(1, u "java/io/Serializable"), (0, .class_ 1), (0, u "java/lang/Object"), (0, .class_ 3)] 3

/-- java/io/Serializable -/
def k4 : Class := { plain "java/io/Serializable" (some 0) with
  accessFlags := 1537
  interfaces := #[]
  cf := some (fileOf pool4 2 #[] #[] 1537 4 #[] #[])
  fields := #[]
  methods := #[]
  instanceTypes := #[]
  staticTypes := #[]
  resolved := Array.replicate 8 none
  statics := none }

/-- the primitive byte -/
def k5 : Class := { plain "byte" none with kind := .primitive 'B', accessFlags := 0x411 }
/-- [B -/
def k6 : Class := { plain "[B" (some 0) with kind := .array 5 .byte, interfaces := #[3, 4], accessFlags := 1041 }

/-- the primitive int -/
def k7 : Class := { plain "int" none with kind := .primitive 'I', accessFlags := 0x411 }
/-- [I -/
def k8 : Class := { plain "[I" (some 0) with kind := .array 7 .int, interfaces := #[3, 4], accessFlags := 1041 }

def heap : Heap := #[]
def classes : Array Class := #[k0, k1, k2, k3, k4, k5, k6, k7, k8]
def interned : List (Array UInt16 × Addr) := []
def slotsUsed : Nat := 0
def theMethod : MethodId := ⟨1, 1⟩
def args0 : Array Value := #[.long 300, .int 1, .int 3]
def aboutOver (below : List Frame) : State where
  vm := { classes := classes, interned := interned.toArray }
  heap := heap
  slotsUsed := slotsUsed
  threads := #[{ frames := .invoking theMethod args0 :: below }]
def below0 : List Frame := [.native { method := ⟨0, 0⟩, args := #[] }]
def about1 : State := aboutOver below0
def p0 : Program := .bare "" "" ""
def e0 : Env := launch0.env 0 0 0
theorem w_frames : about1.frames = Frame.invoking theMethod args0 :: below0 := rfl
set_option maxRecDepth 65536 in
theorem w_args : argsFit about1.vm theMethod args0 = true := by decide +kernel
set_option maxRecDepth 65536 in
theorem w_heap : heapFits about1 = true := by decide +kernel
set_option maxRecDepth 65536 in
theorem w_runnable : about1.curStatus? = some .runnable := by decide +kernel
set_option maxRecDepth 65536 in
theorem w_alone : about1.alone = true := by decide +kernel
set_option maxRecDepth 65536 in
theorem w_named : about1.methodNamed? x = some theMethod := by decide +kernel
set_option maxRecDepth 65536 in
theorem w_hears : about1.hears theMethod below0 = true := by decide +kernel
set_option maxRecDepth 65536 in
theorem w_ripe : about1.ripe theMethod args0 below0 = true := by decide +kernel
theorem w_running : about1.status = .running := rfl
set_option maxRecDepth 65536 in
theorem w_room : about1.hasRoom e0.platform room_1 = true :=
  launch0.hasRoom_least _ room_1 (by decide +kernel) (by decide +kernel) (by decide +kernel) (by decide +kernel) (by decide +kernel) (by decide +kernel)
theorem allAtoms_all (ts : List Jvm.Cond) (a : Array Jvm.Value) (st : Jvm.State) : (allAtoms ts).before a st = ts.all (fun c => c.before a st) := by
  induction ts with
  | nil => rfl
  | cons c t ih =>
    show (Jvm.Cond.and c (allAtoms t)).before a st = _
    rw [Jvm.Cond.before_and, ih, List.all_cons]
def words1 : List Jvm.Cond := Jvm.Cond.code x code maxLocals ret :: tables_1
/-- a 'code' word, met by the world's own term for the bytes: nothing is compared byte by byte -/
theorem code_word {y : MethodName} {bytes : ByteArray} {mx : Nat} {rt : Option FieldType} {a : Array Value} {s : State} {m : MethodId} {meth : Method} {c : Code} (h1 : s.methodNamed? y = some m) (h2 : s.vm.method? m = some meth) (h3 : meth.code = some c) (h4 : c.code = bytes)
    (h5 : (c.maxLocals == mx && c.exceptionTable.isEmpty && decide (c.maxStack ≤ mostOperands) && decide (meth.sig.returnType = rt) && !meth.locks && decide (parseMethodDescriptor y.desc = some meth.sig)) = true) : (Jvm.Cond.code y bytes mx rt).before a s = true := by
  simp only [Bool.and_eq_true, beq_iff_eq, Bool.not_eq_true', decide_eq_true_eq] at h5
  obtain ⟨⟨⟨⟨⟨g1, g2⟩, g3⟩, g4⟩, g5⟩, g6⟩ := h5
  simp [Cond.before, Cond.holds, Cond.value, h1, h2, h3, h4, g1, g2, g3, g4, g5, g6]
def isCode : Jvm.Cond → Bool
  | .code _ _ _ _ => true
  | _ => false
theorem all_split {L : List Jvm.Cond} {P : Jvm.Cond → Bool} (h1 : L.all (fun c => isCode c || P c) = true) (h2 : ∀ c ∈ L.filter isCode, P c = true) : L.all P = true := by
  refine List.all_eq_true.mpr fun c hc => ?_
  have h := List.all_eq_true.mp h1 c hc
  rcases Bool.eq_false_or_eq_true (isCode c) with hi | hi
  · exact h2 c (List.mem_filter.mpr ⟨hc, hi⟩)
  · simpa [hi] using h
set_option maxRecDepth 65536 in
theorem w_c0 : (Jvm.Cond.code x code maxLocals ret).before args0 about1 = true := code_word (m := ⟨1, 1⟩) (meth := k1m1) (c := k1c1) (by decide +kernel) rfl rfl rfl (by decide +kernel)
set_option maxRecDepth 65536 in
theorem w_c1 : (Jvm.Cond.code ({ cls := "com/example/wiretagg/wiretagg/Varint", name := "write", desc := "([BIJ)V" } : Jvm.MethodName) prog_17_method_15_code (7 : Nat) (Option.none : Option Jvm.ClassFile.FieldType)).before args0 about1 = true := code_word (m := ⟨2, 1⟩) (meth := k2m1) (c := k2c1) (by decide +kernel) rfl rfl rfl (by decide +kernel)
set_option maxRecDepth 65536 in
theorem w_c2 : (Jvm.Cond.code ({ cls := "com/example/wiretagg/wiretagg/VarintWritePinLaw", name := "ok", desc := "([BIIJIB)Z" } : Jvm.MethodName) method_3_code (10 : Nat) (Option.some Jvm.ClassFile.FieldType.boolean)).before args0 about1 = true := code_word (m := ⟨1, 2⟩) (meth := k1m2) (c := k1c2) (by decide +kernel) rfl rfl rfl (by decide +kernel)
def codes1 : List Jvm.Cond := [Jvm.Cond.code x code maxLocals ret, Jvm.Cond.code ({ cls := "com/example/wiretagg/wiretagg/Varint", name := "write", desc := "([BIJ)V" } : Jvm.MethodName) prog_17_method_15_code (7 : Nat) (Option.none : Option Jvm.ClassFile.FieldType), Jvm.Cond.code ({ cls := "com/example/wiretagg/wiretagg/VarintWritePinLaw", name := "ok", desc := "([BIIJIB)Z" } : Jvm.MethodName) method_3_code (10 : Nat) (Option.some Jvm.ClassFile.FieldType.boolean)]
set_option maxRecDepth 65536 in
theorem codes_eq : words1.filter isCode = codes1 := rfl
theorem w_codes : ∀ c ∈ words1.filter isCode, c.before args0 about1 = true := by
  rw [codes_eq]
  intro c hc
  simp only [codes1, List.mem_cons, List.not_mem_nil, or_false] at hc
  rcases hc with rfl | rfl | rfl
  · exact w_c0
  · exact w_c1
  · exact w_c2
set_option maxRecDepth 65536 in
theorem w_t1 : words1.all (fun c => isCode c || c.before args0 about1) = true := by decide +kernel
theorem w_tables : (allAtoms (Jvm.Cond.code x code maxLocals ret :: tables_1)).before args0 about1 = true := by
  rw [allAtoms_all]
  show words1.all (fun c => c.before args0 about1) = true
  refine all_split ?_ w_codes
  rw [w_t1]
set_option maxRecDepth 65536 in
theorem w_case : (Jvm.Cond.and given_1 narrow_1).before args0 about1 = true := by decide +kernel
theorem w_applies : (headSpec (Jvm.Cond.code x code maxLocals ret :: tables_1) room_1).applies x e0.platform about1 = true :=
  (Spec.applies_iff w_frames).mpr ⟨w_running, w_runnable, w_alone, w_named, w_hears, w_ripe, w_room, w_tables⟩
theorem atStart : AtStart classFile x code maxLocals ret World_1 tables_1 room_1 Calls_1 rest_1 Pre_1 launch0 p0 e0 about1 theMethod args0 below0 :=
  ⟨lists_1, trivial, launch0.admits_env _ _ _, launch0.least_env, fairChoices_fair.cas, fairChoices_fair.clock, w_frames, w_args, w_heap, w_applies, trivial, trivial, w_case⟩
end start1
theorem witness_1 : WitnessClaimed_1 := ⟨start1.p0, start1.e0, start1.about1, start1.theMethod, start1.args0, start1.below0, start1.atStart⟩
end Jvm.Pilot.@@N@@
