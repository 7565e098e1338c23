import JvmDerived
import JvmDerived.Pilot.@@N@@Statement
import JvmDerived.Pilot.@@N@@Code
set_option linter.unusedVariables false
set_option linter.unusedSimpArgs false
@@BLOCK:NumsL.lean.txt@@
namespace Jvm.Pilot.@@N@@
open Jvm Jvm.ClassFile Sem Op Lib Jvm.Free Jvm.Stand Jvm.LawKit Jvm.RoadKit Bundle Jvm.Pilot.@@N@@.Jvm.D
/-! OWN LAYER (one text for all claims of this seat): a walk's goal with its state hidden ('Go'), one rule an instruction. -/
/-- all that a walk through one body holds fixed -/
abbrev OwnK : Type := Program × Launch × Env × Room × State × MethodId × Array Value × List Frame × Method × Code × Nat × (Option Value → Heap → Prop)
namespace OwnK
abbrev p (K : OwnK) : Program := K.1
abbrev l (K : OwnK) : Launch := K.2.1
abbrev e (K : OwnK) : Env := K.2.2.1
abbrev R (K : OwnK) : Room := K.2.2.2.1
abbrev s (K : OwnK) : State := K.2.2.2.2.1
abbrev m (K : OwnK) : MethodId := K.2.2.2.2.2.1
abbrev args (K : OwnK) : Array Value := K.2.2.2.2.2.2.1
abbrev below (K : OwnK) : List Frame := K.2.2.2.2.2.2.2.1
abbrev meth (K : OwnK) : Method := K.2.2.2.2.2.2.2.2.1
abbrev c (K : OwnK) : Code := K.2.2.2.2.2.2.2.2.2.1
abbrev n0 (K : OwnK) : Nat := K.2.2.2.2.2.2.2.2.2.2.1
abbrev Post (K : OwnK) : Option Value → Heap → Prop := K.2.2.2.2.2.2.2.2.2.2.2
end OwnK
/-- a place of the walk -/
abbrev OwnSt (K : OwnK) (T : State) (locs : List Loc) (cells slots : Nat) : Prop := Stand K.p K.l K.e K.R K.s K.m K.args K.below K.meth K.c T locs cells slots
/-- from this state the run ends as the contract says -/
def OwnDone (K : OwnK) (t : State) : Prop :=
  ∃ s₂ o, Steps K.p.tables K.e K.below t s₂ ∧ s₂.status = .running ∧ Ended s₂ K.below o ∧ ∃ v L, o = .returned v ∧ (Fr K.n0 L ∧ K.Post v s₂.heap) ∧ FrameEnd K.s o s₂ L K.R.cells K.R.slots
/-- from every state at this pc, with these locals, this stack and this heap the run ends as the contract says -/
def Go (K : OwnK) (h : Heap) (cells slots pc : Nat) (Ls : List Slot) (st : List Value) : Prop :=
  ∀ T locs, OwnSt K T locs cells slots → T.heap = h → Fr K.n0 locs → OwnDone K (T.setTop (mkF K.m pc Ls.toArray st))
/-- what the walk through one body may lean on -/
def Cx (K : OwnK) (Z : State) (own name : String) (code : ByteArray) (maxL : Nat) (ret : Option FieldType) (R : Room) (n0 : Nat) (Post : Option Value → Heap → Prop) : Prop :=
  K.p.tables.exec = Jvm.exec ∧ K.c.code = code ∧ K.c.maxLocals = maxL ∧ K.s.vm.findClass own = some K.m.cls ∧ K.meth.name = name ∧ K.meth.sig.returnType = ret ∧ K.meth.locks = false ∧ Z.Warmed39 K.s.vm ∧ K.R = R ∧ K.n0 = n0 ∧ K.Post = Post
/-- a body's contract -/
def OwnMet (l : Launch) (y : MethodName) (bytes : ByteArray) (maxL : Nat) (ret : Option FieldType) (ws : List Jvm.Cond) (rm : Room) (Z : State) (h : Heap) (n0 : Nat) (as : Array Value) (P : Option Value → Heap → Prop) : Prop :=
  MetFree l y (head1 (Jvm.Cond.code y bytes maxL ret :: ws) rm) (fun a U => a = as ∧ Z.Warmed39 U.vm ∧ U.heap = h) (fun _ _ _ _ _ => True) (fun _ U o U' => ∃ v L, o = .returned v ∧ (Fr n0 L ∧ P v U'.heap) ∧ FrameEnd U o U' L rm.cells rm.slots)
theorem own_clamp (n : Int32) : n.toNatClampNeg = n.toInt.toNat := rfl
theorem own_newA (cA : ClassId) (ty : FieldType) (n : Int32) : (newA cA ty n).slots = Array.replicate n.toNatClampNeg (defaultValue ty) := rfl
theorem own_setSlot (c : Cell) (i : Nat) (v : Value) : (c.setSlot i v).slots = c.slots.setIfInBounds i v := rfl
theorem own_dnull (C : String) : defaultValue (.object C) = .null := rfl
section OwnLaws
variable {K : OwnK} {Z : State} {own name : String} {code : ByteArray} {maxL : Nat} {ret : Option FieldType} {R : Room} {n0 : Nat} {Post : Option Value → Heap → Prop} {h : Heap} {cells slots pc : Nat} {Ls Ls' : List Slot} {st rest : List Value} {a0 : Array Value}
theorem OwnDone.of {t t' : State} (k : ∀ target, Steps K.p.tables K.e K.below t' target → Steps K.p.tables K.e K.below t target) (d : OwnDone K t') : OwnDone K t := by
  obtain ⟨s₂, o, h1, r⟩ := d
  exact ⟨s₂, o, k _ h1, r⟩
theorem OwnMet.of {l : Launch} {desc : String} {bytes : ByteArray} {ws : List Jvm.Cond} {as : Array Value} (hp : plainFor (⟨own, name, desc⟩ : MethodName) = true) (ef : ∀ m, entryFrame m as maxL = mkF m 0 Ls.toArray [])
    (go : ∀ K : OwnK, K.l = l → Cx K Z own name bytes maxL ret R n0 Post → Go K h 0 0 0 Ls []) : OwnMet l ⟨own, name, desc⟩ bytes maxL ret ws R Z h n0 as Post := by
  refine MetFree.of_bodySF hp hisR ?_
  intro p e s m args below meth c s₁ Bd hml0 hP hK
  obtain ⟨rfl, hZ, hh⟩ := hP
  have g := go (p, l, e, R, s, m, args, below, meth, c, n0, Post) rfl ⟨Bd.exec, Bd.bytes, hml0, findClass_of_methodNamed Bd.named, (name_of_methodNamed Bd.named Bd.method).1, Bd.returns, Bd.notSynchronized, hZ, rfl, rfl, rfl⟩
  have d := g s₁ [] (Stand.of_body Bd) (by rw [← hh, Bd.state]; rfl) (Fr.nil n0)
  rw [ef m]
  exact d
theorem own_cut0 {A : Prop} (G : Prop) (h1 : G → A) (h2 : G) : A := h1 h2
theorem own_cut1 {α : Type} {A : Prop} (P G : α → Prop) (h1 : (∀ z, P z → G z) → A) (h2 : ∀ z, P z → G z) : A := h1 h2
theorem own_cut2 {α β : Type} {A : Prop} (P G : α → β → Prop) (h1 : (∀ z w, P z w → G z w) → A) (h2 : ∀ z w, P z w → G z w) : A := h1 h2
theorem own_cut3 {α β γ : Type} {A : Prop} (P G : α → β → γ → Prop) (h1 : (∀ z w u, P z w u → G z w u) → A) (h2 : ∀ z w u, P z w u → G z w u) : A := h1 h2
theorem Go.step {pc' : Nat} {st' : List Value} (g : Go K h cells slots pc' Ls' st') (f : ∀ T locs, OwnSt K T locs cells slots → ∀ target, Steps K.p.tables K.e K.below (T.setTop (mkF K.m pc' Ls'.toArray st')) target → Steps K.p.tables K.e K.below (T.setTop (mkF K.m pc Ls.toArray st)) target) : Go K h cells slots pc Ls st :=
  fun T locs X e N => OwnDone.of (f T locs X) (g T locs X e N)
/-! 1. loads, constants, stores -/
theorem w_iload (pc' : Nat) (C : Cx K Z own name code maxL ret R n0 Post) {k : Nat} {v : Int32} (hd : decode code pc = .ok (.iload k, 2)) (hp : pc + 2 = pc') (hl : Ls[k]? = some (.val (.int v))) (g : Go K h cells slots pc' Ls (.int v :: st)) : Go K h cells slots pc Ls st := by
  subst hp; exact g.step fun T locs X t q => XS.iload X.here C.1 rfl (hb C.2.1 hd) (by simpa using hl) q
theorem w_iloadN (pc' : Nat) (C : Cx K Z own name code maxL ret R n0 Post) {k : Fin 4} {v : Int32} (hd : decode code pc = .ok (.iload_n k, 1)) (hp : pc + 1 = pc') (hl : Ls[k.val]? = some (.val (.int v))) (g : Go K h cells slots pc' Ls (.int v :: st)) : Go K h cells slots pc Ls st := by
  subst hp; exact g.step fun T locs X t q => XS.iloadN X.here C.1 rfl (hb C.2.1 hd) (by simpa using hl) q
theorem w_lload (pc' : Nat) (C : Cx K Z own name code maxL ret R n0 Post) {k : Nat} {v : Int64} (hd : decode code pc = .ok (.lload k, 2)) (hp : pc + 2 = pc') (hl : Ls[k]? = some (.val (.long v))) (g : Go K h cells slots pc' Ls (.long v :: st)) : Go K h cells slots pc Ls st := by
  subst hp; exact g.step fun T locs X t q => XS.lload X.here C.1 rfl (hb C.2.1 hd) (by simpa using hl) q
theorem w_lloadN (pc' : Nat) (C : Cx K Z own name code maxL ret R n0 Post) {k : Fin 4} {v : Int64} (hd : decode code pc = .ok (.lload_n k, 1)) (hp : pc + 1 = pc') (hl : Ls[k.val]? = some (.val (.long v))) (g : Go K h cells slots pc' Ls (.long v :: st)) : Go K h cells slots pc Ls st := by
  subst hp; exact g.step fun T locs X t q => XS.lloadN X.here C.1 rfl (hb C.2.1 hd) (by simpa using hl) q
theorem w_aload (pc' : Nat) (C : Cx K Z own name code maxL ret R n0 Post) {k : Nat} {v : Value} (hd : decode code pc = .ok (.aload k, 2)) (hp : pc + 2 = pc') (hl : Ls[k]? = some (.val v)) (hv : v.isRef = true) (g : Go K h cells slots pc' Ls (v :: st)) : Go K h cells slots pc Ls st := by
  subst hp; exact g.step fun T locs X t q => XS.aload X.here C.1 rfl (hb C.2.1 hd) (by simpa using hl) hv q
theorem w_aloadN (pc' : Nat) (C : Cx K Z own name code maxL ret R n0 Post) {k : Fin 4} {v : Value} (hd : decode code pc = .ok (.aload_n k, 1)) (hp : pc + 1 = pc') (hl : Ls[k.val]? = some (.val v)) (hv : v.isRef = true) (g : Go K h cells slots pc' Ls (v :: st)) : Go K h cells slots pc Ls st := by
  subst hp; exact g.step fun T locs X t q => XS.aloadN X.here C.1 rfl (hb C.2.1 hd) (by simpa using hl) hv q
theorem w_iconst (pc' : Nat) (n : Int32) (C : Cx K Z own name code maxL ret R n0 Post) {i : Int} (hd : decode code pc = .ok (.iconst i, 1)) (hp : pc + 1 = pc') (hn : Int32.ofInt i = n) (g : Go K h cells slots pc' Ls (.int n :: st)) : Go K h cells slots pc Ls st := by
  subst hp hn; exact g.step fun T locs X t q => XS.iconst X.here C.1 rfl (hb C.2.1 hd) q
theorem w_bipush (pc' : Nat) (n : Int32) (C : Cx K Z own name code maxL ret R n0 Post) {i : Int} (hd : decode code pc = .ok (.bipush i, 2)) (hp : pc + 2 = pc') (hn : (Int8.ofInt i).toInt32 = n) (g : Go K h cells slots pc' Ls (.int n :: st)) : Go K h cells slots pc Ls st := by
  subst hp hn; exact g.step fun T locs X t q => XS.bipush X.here C.1 rfl (hb C.2.1 hd) q
theorem w_sipush (pc' : Nat) (n : Int32) (C : Cx K Z own name code maxL ret R n0 Post) {i : Int} (hd : decode code pc = .ok (.sipush i, 3)) (hp : pc + 3 = pc') (hn : (Int16.ofInt i).toInt32 = n) (g : Go K h cells slots pc' Ls (.int n :: st)) : Go K h cells slots pc Ls st := by
  subst hp hn; exact g.step fun T locs X t q => XS.sipush X.here C.1 rfl (hb C.2.1 hd) q
theorem w_lconst (pc' : Nat) (n : Int64) (C : Cx K Z own name code maxL ret R n0 Post) {k : Fin 2} (hd : decode code pc = .ok (.lconst k, 1)) (hp : pc + 1 = pc') (hn : Int64.ofNat k = n) (g : Go K h cells slots pc' Ls (.long n :: st)) : Go K h cells slots pc Ls st := by
  subst hp hn; exact g.step fun T locs X t q => XS.lconst X.here C.1 rfl (hb C.2.1 hd) q
theorem w_null (pc' : Nat) (C : Cx K Z own name code maxL ret R n0 Post) (hd : decode code pc = .ok (.aconst_null, 1)) (hp : pc + 1 = pc') (g : Go K h cells slots pc' Ls (.null :: st)) : Go K h cells slots pc Ls st := by
  subst hp; exact g.step fun T locs X t q => XS.aconstNull X.here C.1 rfl (hb C.2.1 hd) q
theorem w_ldc (pc' : Nat) (C : Cx K Z own name code maxL ret R n0 Post) {i : Nat} {v : Int32} (hd : decode code pc = .ok (.ldc i, 2)) (hp : pc + 2 = pc') (w : (Cond.constant own i v).before a0 Z = true) (g : Go K h cells slots pc' Ls (.int v :: st)) : Go K h cells slots pc Ls st := by
  subst hp; exact g.step fun T locs X t q => X.ldcInt C.1 C.2.2.2.1 (mvT C.2.2.2.2.2.2.2.1 w) (g := mkF K.m pc Ls.toArray st) rfl (hb C.2.1 hd) _ q
theorem w_ldcw (pc' : Nat) (C : Cx K Z own name code maxL ret R n0 Post) {i : Nat} {v : Int32} (hd : decode code pc = .ok (.ldc_w i, 3)) (hp : pc + 3 = pc') (w : (Cond.constant own i v).before a0 Z = true) (g : Go K h cells slots pc' Ls (.int v :: st)) : Go K h cells slots pc Ls st := by
  subst hp; exact g.step fun T locs X t q => X.ldcwInt C.1 C.2.2.2.1 (mvT C.2.2.2.2.2.2.2.1 w) (g := mkF K.m pc Ls.toArray st) rfl (hb C.2.1 hd) _ q
theorem w_ldc2 (pc' : Nat) (C : Cx K Z own name code maxL ret R n0 Post) {i : Nat} {v : Int64} (hd : decode code pc = .ok (.ldc2_w i, 3)) (hp : pc + 3 = pc') (w : (Cond.constantLong own i v).before a0 Z = true) (g : Go K h cells slots pc' Ls (.long v :: st)) : Go K h cells slots pc Ls st := by
  subst hp; exact g.step fun T locs X t q => X.ldc2Long C.1 C.2.2.2.1 (mvT C.2.2.2.2.2.2.2.1 w) (g := mkF K.m pc Ls.toArray st) rfl (hb C.2.1 hd) _ q
theorem w_istore (pc' : Nat) (Ls' : List Slot) (C : Cx K Z own name code maxL ret R n0 Post) {k : Nat} {x : Int32} (hd : decode code pc = .ok (.istore k, 2)) (hp : pc + 2 = pc') (hl : storeLocals Ls.toArray k (.int x) = some Ls'.toArray) (g : Go K h cells slots pc' Ls' st) : Go K h cells slots pc Ls (.int x :: st) := by
  subst hp; exact g.step fun T locs X t q => XS.istore X.here C.1 rfl (hb C.2.1 hd) rfl hl q
theorem w_istoreN (pc' : Nat) (Ls' : List Slot) (C : Cx K Z own name code maxL ret R n0 Post) {k : Fin 4} {x : Int32} (hd : decode code pc = .ok (.istore_n k, 1)) (hp : pc + 1 = pc') (hl : storeLocals Ls.toArray k.val (.int x) = some Ls'.toArray) (g : Go K h cells slots pc' Ls' st) : Go K h cells slots pc Ls (.int x :: st) := by
  subst hp; exact g.step fun T locs X t q => XS.istoreN X.here C.1 rfl (hb C.2.1 hd) rfl hl q
theorem w_lstore (pc' : Nat) (Ls' : List Slot) (C : Cx K Z own name code maxL ret R n0 Post) {k : Nat} {x : Int64} (hd : decode code pc = .ok (.lstore k, 2)) (hp : pc + 2 = pc') (hl : storeLocals Ls.toArray k (.long x) = some Ls'.toArray) (g : Go K h cells slots pc' Ls' st) : Go K h cells slots pc Ls (.long x :: st) := by
  subst hp; exact g.step fun T locs X t q => XS.lstore X.here C.1 rfl (hb C.2.1 hd) rfl hl q
theorem w_lstoreN (pc' : Nat) (Ls' : List Slot) (C : Cx K Z own name code maxL ret R n0 Post) {k : Fin 4} {x : Int64} (hd : decode code pc = .ok (.lstore_n k, 1)) (hp : pc + 1 = pc') (hl : storeLocals Ls.toArray k.val (.long x) = some Ls'.toArray) (g : Go K h cells slots pc' Ls' st) : Go K h cells slots pc Ls (.long x :: st) := by
  subst hp; exact g.step fun T locs X t q => XS.lstoreN X.here C.1 rfl (hb C.2.1 hd) rfl hl q
theorem w_astore (pc' : Nat) (Ls' : List Slot) (C : Cx K Z own name code maxL ret R n0 Post) {k : Nat} {x : Value} (hd : decode code pc = .ok (.astore k, 2)) (hp : pc + 2 = pc') (hv : x.isRef = true) (hl : storeLocals Ls.toArray k x = some Ls'.toArray) (g : Go K h cells slots pc' Ls' st) : Go K h cells slots pc Ls (x :: st) := by
  subst hp; exact g.step fun T locs X t q => XS.astore X.here C.1 rfl (hb C.2.1 hd) rfl hv hl q
theorem w_astoreN (pc' : Nat) (Ls' : List Slot) (C : Cx K Z own name code maxL ret R n0 Post) {k : Fin 4} {x : Value} (hd : decode code pc = .ok (.astore_n k, 1)) (hp : pc + 1 = pc') (hv : x.isRef = true) (hl : storeLocals Ls.toArray k.val x = some Ls'.toArray) (g : Go K h cells slots pc' Ls' st) : Go K h cells slots pc Ls (x :: st) := by
  subst hp; exact g.step fun T locs X t q => XS.astoreN X.here C.1 rfl (hb C.2.1 hd) rfl hv hl q
theorem w_iinc (pc' : Nat) (Ls' : List Slot) (C : Cx K Z own name code maxL ret R n0 Post) {k : Nat} {cst : Int} {x z : Int32} (hd : decode code pc = .ok (.iinc k cst, 3)) (hp : pc + 3 = pc') (hl : Ls[k]? = some (.val (.int x))) (hz : x + Int32.ofInt cst = z) (hs : storeLocals Ls.toArray k (.int z) = some Ls'.toArray) (g : Go K h cells slots pc' Ls' st) : Go K h cells slots pc Ls st := by
  subst hp hz; exact g.step fun T locs X t q => XS.iinc X.here C.1 rfl (hb C.2.1 hd) (by simpa using hl) hs q
/-! 2. arithmetic -/
theorem w_iadd (pc' : Nat) (C : Cx K Z own name code maxL ret R n0 Post) {x y : Int32} (hd : decode code pc = .ok (.iadd, 1)) (hp : pc + 1 = pc') (g : Go K h cells slots pc' Ls (.int (x + y) :: st)) : Go K h cells slots pc Ls (.int y :: .int x :: st) := by
  subst hp; exact g.step fun T locs X t q => XS.iadd X.here C.1 rfl (hb C.2.1 hd) rfl q
theorem w_isub (pc' : Nat) (C : Cx K Z own name code maxL ret R n0 Post) {x y : Int32} (hd : decode code pc = .ok (.isub, 1)) (hp : pc + 1 = pc') (g : Go K h cells slots pc' Ls (.int (x - y) :: st)) : Go K h cells slots pc Ls (.int y :: .int x :: st) := by
  subst hp; exact g.step fun T locs X t q => XS.isub X.here C.1 rfl (hb C.2.1 hd) rfl q
theorem w_imul (pc' : Nat) (C : Cx K Z own name code maxL ret R n0 Post) {x y : Int32} (hd : decode code pc = .ok (.imul, 1)) (hp : pc + 1 = pc') (g : Go K h cells slots pc' Ls (.int (x * y) :: st)) : Go K h cells slots pc Ls (.int y :: .int x :: st) := by
  subst hp; exact g.step fun T locs X t q => XS.imul X.here C.1 rfl (hb C.2.1 hd) rfl q
theorem w_iand (pc' : Nat) (C : Cx K Z own name code maxL ret R n0 Post) {x y : Int32} (hd : decode code pc = .ok (.iand, 1)) (hp : pc + 1 = pc') (g : Go K h cells slots pc' Ls (.int (x &&& y) :: st)) : Go K h cells slots pc Ls (.int y :: .int x :: st) := by
  subst hp; exact g.step fun T locs X t q => XS.iand X.here C.1 rfl (hb C.2.1 hd) rfl q
theorem w_ior (pc' : Nat) (C : Cx K Z own name code maxL ret R n0 Post) {x y : Int32} (hd : decode code pc = .ok (.ior, 1)) (hp : pc + 1 = pc') (g : Go K h cells slots pc' Ls (.int (x ||| y) :: st)) : Go K h cells slots pc Ls (.int y :: .int x :: st) := by
  subst hp; exact g.step fun T locs X t q => XS.ior X.here C.1 rfl (hb C.2.1 hd) rfl q
theorem w_ixor (pc' : Nat) (C : Cx K Z own name code maxL ret R n0 Post) {x y : Int32} (hd : decode code pc = .ok (.ixor, 1)) (hp : pc + 1 = pc') (g : Go K h cells slots pc' Ls (.int (x ^^^ y) :: st)) : Go K h cells slots pc Ls (.int y :: .int x :: st) := by
  subst hp; exact g.step fun T locs X t q => XS.ixor X.here C.1 rfl (hb C.2.1 hd) rfl q
theorem w_ishl (pc' : Nat) (C : Cx K Z own name code maxL ret R n0 Post) {x y : Int32} (hd : decode code pc = .ok (.ishl, 1)) (hp : pc + 1 = pc') (g : Go K h cells slots pc' Ls (.int (x <<< (y &&& 31)) :: st)) : Go K h cells slots pc Ls (.int y :: .int x :: st) := by
  subst hp; exact g.step fun T locs X t q => XS.ishl X.here C.1 rfl (hb C.2.1 hd) rfl q
theorem w_ishr (pc' : Nat) (C : Cx K Z own name code maxL ret R n0 Post) {x y : Int32} (hd : decode code pc = .ok (.ishr, 1)) (hp : pc + 1 = pc') (g : Go K h cells slots pc' Ls (.int (x >>> (y &&& 31)) :: st)) : Go K h cells slots pc Ls (.int y :: .int x :: st) := by
  subst hp; exact g.step fun T locs X t q => XS.ishr X.here C.1 rfl (hb C.2.1 hd) rfl q
theorem w_iushr (pc' : Nat) (C : Cx K Z own name code maxL ret R n0 Post) {x y : Int32} (hd : decode code pc = .ok (.iushr, 1)) (hp : pc + 1 = pc') (g : Go K h cells slots pc' Ls (.int ((x.toUInt32 >>> (y &&& 31).toUInt32).toInt32) :: st)) : Go K h cells slots pc Ls (.int y :: .int x :: st) := by
  subst hp; exact g.step fun T locs X t q => XS.iushr X.here C.1 rfl (hb C.2.1 hd) rfl q
theorem w_ladd (pc' : Nat) (C : Cx K Z own name code maxL ret R n0 Post) {x y : Int64} (hd : decode code pc = .ok (.ladd, 1)) (hp : pc + 1 = pc') (g : Go K h cells slots pc' Ls (.long (x + y) :: st)) : Go K h cells slots pc Ls (.long y :: .long x :: st) := by
  subst hp; exact g.step fun T locs X t q => XS.ladd X.here C.1 rfl (hb C.2.1 hd) rfl q
theorem w_lsub (pc' : Nat) (C : Cx K Z own name code maxL ret R n0 Post) {x y : Int64} (hd : decode code pc = .ok (.lsub, 1)) (hp : pc + 1 = pc') (g : Go K h cells slots pc' Ls (.long (x - y) :: st)) : Go K h cells slots pc Ls (.long y :: .long x :: st) := by
  subst hp; exact g.step fun T locs X t q => XS.lsub X.here C.1 rfl (hb C.2.1 hd) rfl q
theorem w_lmul (pc' : Nat) (C : Cx K Z own name code maxL ret R n0 Post) {x y : Int64} (hd : decode code pc = .ok (.lmul, 1)) (hp : pc + 1 = pc') (g : Go K h cells slots pc' Ls (.long (x * y) :: st)) : Go K h cells slots pc Ls (.long y :: .long x :: st) := by
  subst hp; exact g.step fun T locs X t q => XS.lmul X.here C.1 rfl (hb C.2.1 hd) rfl q
theorem w_land (pc' : Nat) (C : Cx K Z own name code maxL ret R n0 Post) {x y : Int64} (hd : decode code pc = .ok (.land, 1)) (hp : pc + 1 = pc') (g : Go K h cells slots pc' Ls (.long (x &&& y) :: st)) : Go K h cells slots pc Ls (.long y :: .long x :: st) := by
  subst hp; exact g.step fun T locs X t q => XS.land X.here C.1 rfl (hb C.2.1 hd) rfl q
theorem w_lor (pc' : Nat) (C : Cx K Z own name code maxL ret R n0 Post) {x y : Int64} (hd : decode code pc = .ok (.lor, 1)) (hp : pc + 1 = pc') (g : Go K h cells slots pc' Ls (.long (x ||| y) :: st)) : Go K h cells slots pc Ls (.long y :: .long x :: st) := by
  subst hp; exact g.step fun T locs X t q => XS.lor X.here C.1 rfl (hb C.2.1 hd) rfl q
theorem w_lxor (pc' : Nat) (C : Cx K Z own name code maxL ret R n0 Post) {x y : Int64} (hd : decode code pc = .ok (.lxor, 1)) (hp : pc + 1 = pc') (g : Go K h cells slots pc' Ls (.long (x ^^^ y) :: st)) : Go K h cells slots pc Ls (.long y :: .long x :: st) := by
  subst hp; exact g.step fun T locs X t q => XS.lxor X.here C.1 rfl (hb C.2.1 hd) rfl q
theorem w_lshl (pc' : Nat) (C : Cx K Z own name code maxL ret R n0 Post) {x : Int64} {y : Int32} (hd : decode code pc = .ok (.lshl, 1)) (hp : pc + 1 = pc') (g : Go K h cells slots pc' Ls (.long (x <<< (y &&& 0x3f).toInt64) :: st)) : Go K h cells slots pc Ls (.int y :: .long x :: st) := by
  subst hp; exact g.step fun T locs X t q => XS.lshl X.here C.1 rfl (hb C.2.1 hd) rfl q
theorem w_lshr (pc' : Nat) (C : Cx K Z own name code maxL ret R n0 Post) {x : Int64} {y : Int32} (hd : decode code pc = .ok (.lshr, 1)) (hp : pc + 1 = pc') (g : Go K h cells slots pc' Ls (.long (x >>> (y &&& 0x3f).toInt64) :: st)) : Go K h cells slots pc Ls (.int y :: .long x :: st) := by
  subst hp; exact g.step fun T locs X t q => XS.lshr X.here C.1 rfl (hb C.2.1 hd) rfl q
theorem w_lushr (pc' : Nat) (C : Cx K Z own name code maxL ret R n0 Post) {x : Int64} {y : Int32} (hd : decode code pc = .ok (.lushr, 1)) (hp : pc + 1 = pc') (g : Go K h cells slots pc' Ls (.long ((x.toUInt64 >>> (y &&& 0x3f).toInt64.toUInt64).toInt64) :: st)) : Go K h cells slots pc Ls (.int y :: .long x :: st) := by
  subst hp; exact g.step fun T locs X t q => XS.lushr X.here C.1 rfl (hb C.2.1 hd) rfl q
theorem w_ineg (pc' : Nat) (C : Cx K Z own name code maxL ret R n0 Post) {x : Int32} (hd : decode code pc = .ok (.ineg, 1)) (hp : pc + 1 = pc') (g : Go K h cells slots pc' Ls (.int (-x) :: st)) : Go K h cells slots pc Ls (.int x :: st) := by
  subst hp; exact g.step fun T locs X t q => XS.ineg X.here C.1 rfl (hb C.2.1 hd) rfl q
theorem w_lneg (pc' : Nat) (C : Cx K Z own name code maxL ret R n0 Post) {x : Int64} (hd : decode code pc = .ok (.lneg, 1)) (hp : pc + 1 = pc') (g : Go K h cells slots pc' Ls (.long (-x) :: st)) : Go K h cells slots pc Ls (.long x :: st) := by
  subst hp; exact g.step fun T locs X t q => XS.lneg X.here C.1 rfl (hb C.2.1 hd) rfl q
theorem w_i2l (pc' : Nat) (C : Cx K Z own name code maxL ret R n0 Post) {x : Int32} (hd : decode code pc = .ok (.i2l, 1)) (hp : pc + 1 = pc') (g : Go K h cells slots pc' Ls (.long (x.toInt64) :: st)) : Go K h cells slots pc Ls (.int x :: st) := by
  subst hp; exact g.step fun T locs X t q => XS.i2l X.here C.1 rfl (hb C.2.1 hd) rfl q
theorem w_l2i (pc' : Nat) (C : Cx K Z own name code maxL ret R n0 Post) {x : Int64} (hd : decode code pc = .ok (.l2i, 1)) (hp : pc + 1 = pc') (g : Go K h cells slots pc' Ls (.int (x.toInt32) :: st)) : Go K h cells slots pc Ls (.long x :: st) := by
  subst hp; exact g.step fun T locs X t q => XS.l2i X.here C.1 rfl (hb C.2.1 hd) rfl q
theorem w_i2b (pc' : Nat) (C : Cx K Z own name code maxL ret R n0 Post) {x : Int32} (hd : decode code pc = .ok (.i2b, 1)) (hp : pc + 1 = pc') (g : Go K h cells slots pc' Ls (.int (x.toInt8.toInt32) :: st)) : Go K h cells slots pc Ls (.int x :: st) := by
  subst hp; exact g.step fun T locs X t q => XS.i2b X.here C.1 rfl (hb C.2.1 hd) rfl q
theorem w_i2s (pc' : Nat) (C : Cx K Z own name code maxL ret R n0 Post) {x : Int32} (hd : decode code pc = .ok (.i2s, 1)) (hp : pc + 1 = pc') (g : Go K h cells slots pc' Ls (.int (x.toInt16.toInt32) :: st)) : Go K h cells slots pc Ls (.int x :: st) := by
  subst hp; exact g.step fun T locs X t q => XS.i2s X.here C.1 rfl (hb C.2.1 hd) rfl q
theorem w_i2c (pc' : Nat) (C : Cx K Z own name code maxL ret R n0 Post) {x : Int32} (hd : decode code pc = .ok (.i2c, 1)) (hp : pc + 1 = pc') (g : Go K h cells slots pc' Ls (.int (x.toUInt32.toUInt16.toUInt32.toInt32) :: st)) : Go K h cells slots pc Ls (.int x :: st) := by
  subst hp; exact g.step fun T locs X t q => XS.i2c X.here C.1 rfl (hb C.2.1 hd) rfl q
theorem w_idiv (pc' : Nat) (C : Cx K Z own name code maxL ret R n0 Post) {x y : Int32} (hd : decode code pc = .ok (.idiv, 1)) (hp : pc + 1 = pc') (hy : y ≠ 0) (g : Go K h cells slots pc' Ls (.int (x / y) :: st)) : Go K h cells slots pc Ls (.int y :: .int x :: st) := by
  subst hp; exact g.step fun T locs X t q => XS.idiv X.here C.1 rfl (hb C.2.1 hd) rfl hy q
theorem w_ldiv (pc' : Nat) (C : Cx K Z own name code maxL ret R n0 Post) {x y : Int64} (hd : decode code pc = .ok (.ldiv, 1)) (hp : pc + 1 = pc') (hy : y ≠ 0) (g : Go K h cells slots pc' Ls (.long (x / y) :: st)) : Go K h cells slots pc Ls (.long y :: .long x :: st) := by
  subst hp; exact g.step fun T locs X t q => XS.ldiv X.here C.1 rfl (hb C.2.1 hd) rfl hy q
theorem w_irem (pc' : Nat) (C : Cx K Z own name code maxL ret R n0 Post) {x y : Int32} (hd : decode code pc = .ok (.irem, 1)) (hp : pc + 1 = pc') (hy : y ≠ 0) (g : Go K h cells slots pc' Ls (.int (x % y) :: st)) : Go K h cells slots pc Ls (.int y :: .int x :: st) := by
  subst hp; exact g.step fun T locs X t q => iremM (g := mkF K.m pc Ls.toArray (.int y :: .int x :: st)) X C.1 rfl (hb C.2.1 hd) rfl hy q
theorem own_lrem (x y : Int64) : x - x / y * y = x % y := by
  apply Int64.toInt_inj.mp
  rw [Int64.toInt_sub, Int64.toInt_mul, Int64.toInt_div, Int64.toInt_mod, Int.tmod_def]
  have h1 := x.le_toInt; have h2 := x.toInt_lt
  have q : ((x.toInt.tdiv y.toInt).bmod (2 ^ 64) * y.toInt).bmod (2 ^ 64) = (x.toInt.tdiv y.toInt * y.toInt).bmod (2 ^ 64) := by rw [Int.bmod_mul_bmod]
  rw [q, Int.sub_bmod_bmod]
  rw [show x.toInt - x.toInt.tdiv y.toInt * y.toInt = x.toInt - y.toInt * x.toInt.tdiv y.toInt from by rw [Int.mul_comm], ← Int.tmod_def]
  have h3 : (x.toInt.tmod y.toInt).natAbs ≤ x.toInt.natAbs := by rw [Int.natAbs_tmod]; exact Nat.mod_le _ _
  have h4 := Int.tmod_nonneg (a := x.toInt) y.toInt
  have h5 := Int.tmod_nonneg (a := -x.toInt) y.toInt
  rw [Int.neg_tmod] at h5
  apply Int.bmod_eq_of_le <;> omega
theorem w_lrem (pc' : Nat) (C : Cx K Z own name code maxL ret R n0 Post) {x y : Int64} (hd : decode code pc = .ok (.lrem, 1)) (hp : pc + 1 = pc') (hy : y ≠ 0) (g : Go K h cells slots pc' Ls (.long (x % y) :: st)) : Go K h cells slots pc Ls (.long y :: .long x :: st) := by
  subst hp; exact g.step fun T locs X t q => XS.lrem X.here C.1 rfl (hb C.2.1 hd) rfl hy (by rw [own_lrem]; exact q)
theorem w_dup (pc' : Nat) (C : Cx K Z own name code maxL ret R n0 Post) {x : Value} (hd : decode code pc = .ok (.dup, 1)) (hp : pc + 1 = pc') (hc : x.category = 1) (g : Go K h cells slots pc' Ls (x :: x :: st)) : Go K h cells slots pc Ls (x :: st) := by
  subst hp; exact g.step fun T locs X t q => XS.dup X.here C.1 rfl (hb C.2.1 hd) rfl hc q
theorem w_pop (pc' : Nat) (C : Cx K Z own name code maxL ret R n0 Post) {x : Value} (hd : decode code pc = .ok (.pop, 1)) (hp : pc + 1 = pc') (hc : x.category = 1) (g : Go K h cells slots pc' Ls st) : Go K h cells slots pc Ls (x :: st) := by
  subst hp; exact g.step fun T locs X t q => XS.pop X.here C.1 rfl (hb C.2.1 hd) rfl hc q
theorem w_dupX1 (pc' : Nat) (C : Cx K Z own name code maxL ret R n0 Post) {x y : Value} (hd : decode code pc = .ok (.dup_x1, 1)) (hp : pc + 1 = pc') (hc : x.category = 1) (hc' : y.category = 1) (g : Go K h cells slots pc' Ls (x :: y :: x :: st)) : Go K h cells slots pc Ls (x :: y :: st) := by
  subst hp; exact g.step fun T locs X t q => XS.dupX1 X.here C.1 rfl (hb C.2.1 hd) rfl hc hc' q
/-! 3. jumps -/
theorem w_goto (pc' : Nat) (C : Cx K Z own name code maxL ret R n0 Post) {o : Int} (hd : decode code pc = .ok (.goto o, 3)) (hp : (pc : Int) + o = (pc' : Nat)) (g : Go K h cells slots pc' Ls st) : Go K h cells slots pc Ls st :=
  g.step fun T locs X t q => XS.goto X.here C.1 rfl (pc0 := pc) (pc' := pc') rfl (hb C.2.1 hd) (by omega) (by omega) q
/-- what a comparison asks, in plain words -/
def cP : ClassFile.Cond → Int32 → Int32 → Prop
  | .eq, x, y => x = y
  | .ne, x, y => ¬ (x = y)
  | .lt, x, y => x.toInt < y.toInt
  | .ge, x, y => y.toInt ≤ x.toInt
  | .gt, x, y => y.toInt < x.toInt
  | .le, x, y => x.toInt ≤ y.toInt
theorem own_icmpT {cd : ClassFile.Cond} {x y : Int32} (q : cP cd x y) : if_icmp.holds cd x y = true := by
  cases cd <;> simp only [cP] at q <;> simp [if_icmp.holds, Int32.lt_iff_toInt_lt, Int32.le_iff_toInt_le] <;> first | exact q | omega
theorem own_icmpF {cd : ClassFile.Cond} {x y : Int32} (q : ¬ cP cd x y) : if_icmp.holds cd x y = false := by
  cases cd <;> simp only [cP] at q <;> simp [if_icmp.holds, Int32.lt_iff_toInt_lt, Int32.le_iff_toInt_le] <;> first | exact q | omega | (simpa using q)
theorem w_icmpY (pc' : Nat) (C : Cx K Z own name code maxL ret R n0 Post) {cd : ClassFile.Cond} {x y : Int32} {o : Int} (hd : decode code pc = .ok (.if_icmp cd o, 3)) (hp : (pc : Int) + o = (pc' : Nat)) (q : cP cd x y) (g : Go K h cells slots pc' Ls st) : Go K h cells slots pc Ls (.int y :: .int x :: st) :=
  g.step fun T locs X t k => XS.icmpYes X.here C.1 rfl (pc0 := pc) (pc' := pc') rfl (hb C.2.1 hd) rfl (own_icmpT q) (by omega) (by omega) k
theorem w_icmpN (pc' : Nat) (C : Cx K Z own name code maxL ret R n0 Post) {cd : ClassFile.Cond} {x y : Int32} {o : Int} (hd : decode code pc = .ok (.if_icmp cd o, 3)) (hp : pc + 3 = pc') (q : ¬ cP cd x y) (g : Go K h cells slots pc' Ls st) : Go K h cells slots pc Ls (.int y :: .int x :: st) := by
  subst hp; exact g.step fun T locs X t k => XS.icmpNo X.here C.1 rfl (hb C.2.1 hd) rfl (own_icmpF q) k
theorem w_icmp (pcY pcN : Nat) (C : Cx K Z own name code maxL ret R n0 Post) {cd : ClassFile.Cond} {x y : Int32} {o : Int} (hd : decode code pc = .ok (.if_icmp cd o, 3)) (hp : (pc : Int) + o = (pcY : Nat)) (hn : pc + 3 = pcN) (gY : cP cd x y → Go K h cells slots pcY Ls st) (gN : ¬ cP cd x y → Go K h cells slots pcN Ls st) : Go K h cells slots pc Ls (.int y :: .int x :: st) := by
  by_cases q : cP cd x y
  · exact w_icmpY pcY C hd hp q (gY q)
  · exact w_icmpN pcN C hd hn q (gN q)
theorem w_ifY (pc' : Nat) (C : Cx K Z own name code maxL ret R n0 Post) {cd : ClassFile.Cond} {x : Int32} {o : Int} (hd : decode code pc = .ok (.ifCond cd o, 3)) (hp : (pc : Int) + o = (pc' : Nat)) (q : cP cd x 0) (g : Go K h cells slots pc' Ls st) : Go K h cells slots pc Ls (.int x :: st) :=
  g.step fun T locs X t k => XS.ifYes X.here C.1 rfl (pc0 := pc) (pc' := pc') rfl (hb C.2.1 hd) rfl ((if0 _ _).trans (own_icmpT q)) (by omega) (by omega) k
theorem w_ifN (pc' : Nat) (C : Cx K Z own name code maxL ret R n0 Post) {cd : ClassFile.Cond} {x : Int32} {o : Int} (hd : decode code pc = .ok (.ifCond cd o, 3)) (hp : pc + 3 = pc') (q : ¬ cP cd x 0) (g : Go K h cells slots pc' Ls st) : Go K h cells slots pc Ls (.int x :: st) := by
  subst hp; exact g.step fun T locs X t k => XS.ifNo X.here C.1 rfl (hb C.2.1 hd) rfl ((if0 _ _).trans (own_icmpF q)) k
theorem w_if (pcY pcN : Nat) (C : Cx K Z own name code maxL ret R n0 Post) {cd : ClassFile.Cond} {x : Int32} {o : Int} (hd : decode code pc = .ok (.ifCond cd o, 3)) (hp : (pc : Int) + o = (pcY : Nat)) (hn : pc + 3 = pcN) (gY : cP cd x 0 → Go K h cells slots pcY Ls st) (gN : ¬ cP cd x 0 → Go K h cells slots pcN Ls st) : Go K h cells slots pc Ls (.int x :: st) := by
  by_cases q : cP cd x 0
  · exact w_ifY pcY C hd hp q (gY q)
  · exact w_ifN pcN C hd hn q (gN q)
/-- lcmp and the branch behind it -/
def cL : ClassFile.Cond → Int64 → Int64 → Prop
  | .eq, x, y => x = y
  | .ne, x, y => ¬ (x = y)
  | .lt, x, y => x.toInt < y.toInt
  | .ge, x, y => y.toInt ≤ x.toInt
  | .gt, x, y => y.toInt < x.toInt
  | .le, x, y => x.toInt ≤ y.toInt
theorem own_lc (cd : ClassFile.Cond) (x y : Int64) : cP cd (lcmpW x y) 0 ↔ cL cd x y := by
  have h1 := lw_lt x y; have h2 := lw_gt x y; have h3 := lw_eq x y
  rw [Int32.lt_iff_toInt_lt, Int64.lt_iff_toInt_lt] at h1 h2
  cases cd <;> simp only [cP, cL]
  · exact h3
  · exact not_congr h3
  · exact h1
  · constructor <;> intro q <;> omega
  · exact h2
  · constructor <;> intro q <;> omega
theorem w_lcmp (pc' : Nat) (C : Cx K Z own name code maxL ret R n0 Post) {x y : Int64} (hd : decode code pc = .ok (.lcmp, 1)) (hp : pc + 1 = pc') (g : Go K h cells slots pc' Ls (.int (lcmpW x y) :: st)) : Go K h cells slots pc Ls (.long y :: .long x :: st) := by
  subst hp; exact g.step fun T locs X t q => XS.lcmp X.here C.1 rfl (hb C.2.1 hd) rfl q
theorem w_lifY (pc1 pc' : Nat) (C : Cx K Z own name code maxL ret R n0 Post) {cd : ClassFile.Cond} {x y : Int64} {o : Int} (hd0 : decode code pc = .ok (.lcmp, 1)) (hp0 : pc + 1 = pc1) (hd : decode code pc1 = .ok (.ifCond cd o, 3)) (hp : (pc1 : Int) + o = (pc' : Nat)) (q : cL cd x y) (g : Go K h cells slots pc' Ls st) : Go K h cells slots pc Ls (.long y :: .long x :: st) :=
  w_lcmp pc1 C hd0 hp0 (w_ifY pc' C hd hp ((own_lc cd x y).mpr q) g)
theorem w_lifN (pc1 pc' : Nat) (C : Cx K Z own name code maxL ret R n0 Post) {cd : ClassFile.Cond} {x y : Int64} {o : Int} (hd0 : decode code pc = .ok (.lcmp, 1)) (hp0 : pc + 1 = pc1) (hd : decode code pc1 = .ok (.ifCond cd o, 3)) (hp : pc1 + 3 = pc') (q : ¬ cL cd x y) (g : Go K h cells slots pc' Ls st) : Go K h cells slots pc Ls (.long y :: .long x :: st) :=
  w_lcmp pc1 C hd0 hp0 (w_ifN pc' C hd hp (fun z => q ((own_lc cd x y).mp z)) g)
theorem w_lif (pc1 pcY pcN : Nat) (C : Cx K Z own name code maxL ret R n0 Post) {cd : ClassFile.Cond} {x y : Int64} {o : Int} (hd0 : decode code pc = .ok (.lcmp, 1)) (hp0 : pc + 1 = pc1) (hd : decode code pc1 = .ok (.ifCond cd o, 3)) (hp : (pc1 : Int) + o = (pcY : Nat)) (hn : pc1 + 3 = pcN) (gY : cL cd x y → Go K h cells slots pcY Ls st) (gN : ¬ cL cd x y → Go K h cells slots pcN Ls st) : Go K h cells slots pc Ls (.long y :: .long x :: st) := by
  by_cases q : cL cd x y
  · exact w_lifY pc1 pcY C hd0 hp0 hd hp q (gY q)
  · exact w_lifN pc1 pcN C hd0 hp0 hd hn q (gN q)
theorem w_nullN (pc' : Nat) (C : Cx K Z own name code maxL ret R n0 Post) {b : Addr} {o : Int} (hd : decode code pc = .ok (.ifnull o, 3)) (hp : pc + 3 = pc') (g : Go K h cells slots pc' Ls st) : Go K h cells slots pc Ls (.ref b :: st) := by
  subst hp; exact g.step fun T locs X t k => XS.ifnullNo X.here C.1 rfl (hb C.2.1 hd) rfl k
theorem w_nonnullY (pc' : Nat) (C : Cx K Z own name code maxL ret R n0 Post) {b : Addr} {o : Int} (hd : decode code pc = .ok (.ifnonnull o, 3)) (hp : (pc : Int) + o = (pc' : Nat)) (g : Go K h cells slots pc' Ls st) : Go K h cells slots pc Ls (.ref b :: st) :=
  g.step fun T locs X t k => XS.ifnonnullYes X.here C.1 rfl (pc0 := pc) (pc' := pc') rfl (hb C.2.1 hd) rfl (by omega) (by omega) k
/-! 4. the end -/
theorem own_ret (C : Cx K Z own name code maxL ret R n0 Post) {v : Option Value} (hv : ret = none → v = none) (hc : cells ≤ R.cells) (hs : slots ≤ R.slots) (hq : Post v h)
    (hend : ∀ T locs, OwnSt K T locs cells slots → ∀ fs, (∀ (f : JFrame) (acts : List Action), f.method = K.m → f.locked = none → f.entered = [] → (doReturn K.e (T.setTop f) acts v).1 = T.setFrames fs) → Steps K.p.tables K.e K.below (T.setTop (mkF K.m pc Ls.toArray st)) (T.setFrames fs)) : Go K h cells slots pc Ls st := by
  obtain ⟨hx, hby, hml, hown, hnm, hret, hlk, hZ, hR, hn0, hPost⟩ := C
  intro T locs X eT N
  obtain ⟨fs, hr, hrun, hended, hW, hsame⟩ := X.leave (v := v) (fun q => hv (hret ▸ q)) hlk
  refine ⟨_, _, hend T locs X fs hr, hrun, hended, v, locs, rfl, ⟨N, ?_⟩, ⟨_, rfl⟩, hW, hsame.mono (by rw [hR]; exact hc) (by rw [hR]; exact hs)⟩
  rw [hPost]
  show Post v T.heap
  rw [eT]; exact hq
theorem w_retN {t : FieldType} (C : Cx K Z own name code maxL (some t) R n0 Post) (ht : t = .boolean ∨ t = .byte ∨ t = .char ∨ t = .short) {z z' : Int32} (hd : decode code pc = .ok (.ireturn, 1)) (hz : nar t z = z') (hc : cells ≤ R.cells) (hs : slots ≤ R.slots) (hq : Post (some (.int z')) h) : Go K h cells slots pc Ls (.int z :: st) := by
  subst hz
  exact own_ret C (fun q => by cases q) hc hs hq fun T locs X fs hr => retN X C.1 C.2.2.2.2.2.1 ht (hb C.2.1 hd) hr
theorem w_retI (C : Cx K Z own name code maxL (some .int) R n0 Post) {z : Int32} (hd : decode code pc = .ok (.ireturn, 1)) (hc : cells ≤ R.cells) (hs : slots ≤ R.slots) (hq : Post (some (.int z)) h) : Go K h cells slots pc Ls (.int z :: st) :=
  own_ret C (fun q => by cases q) hc hs hq fun T locs X fs hr => retOut X C.1 C.2.2.2.2.2.1 rfl (Or.inl ⟨rfl, Or.inl rfl, z, rfl⟩) (hb C.2.1 hd) hr
theorem w_retL (C : Cx K Z own name code maxL (some .long) R n0 Post) {z : Int64} (hd : decode code pc = .ok (.lreturn, 1)) (hc : cells ≤ R.cells) (hs : slots ≤ R.slots) (hq : Post (some (.long z)) h) : Go K h cells slots pc Ls (.long z :: st) :=
  own_ret C (fun q => by cases q) hc hs hq fun T locs X fs hr => retOut X C.1 C.2.2.2.2.2.1 rfl (Or.inr (Or.inl ⟨rfl, rfl, z, rfl⟩)) (hb C.2.1 hd) hr
theorem w_retA {t : FieldType} (C : Cx K Z own name code maxL (some t) R n0 Post) (ht : t.isReference = true) {z : Value} (hz : z.isRef = true) (hn : narrow t z = z) (hd : decode code pc = .ok (.areturn, 1)) (hc : cells ≤ R.cells) (hs : slots ≤ R.slots) (hq : Post (some z) h) : Go K h cells slots pc Ls (z :: st) :=
  own_ret C (fun q => by cases q) hc hs hq fun T locs X fs hr => retOut X C.1 C.2.2.2.2.2.1 hn (Or.inr (Or.inr (Or.inr (Or.inr ⟨rfl, ht, hz⟩)))) (hb C.2.1 hd) hr
theorem w_ret (C : Cx K Z own name code maxL none R n0 Post) (hd : decode code pc = .ok (.return_, 1)) (hc : cells ≤ R.cells) (hs : slots ≤ R.slots) (hq : Post none h) : Go K h cells slots pc Ls [] :=
  own_ret C (fun _ => rfl) hc hs hq fun T locs X fs hr => X.returnOut C.1 C.2.2.2.2.2.1 (hb C.2.1 hd) hr
/-! 5. arrays of ints, bytes .. -/
/-- the array at a holds these ints -/
def Ai (Z : State) (h : Heap) (a : Addr) (ty : FieldType) (vs : List Int32) : Prop := ∃ c : Cell, Arr Z h a c ty ∧ c.slots = (vs.map Value.int).toArray
theorem Ai.lt {a : Addr} {ty : FieldType} {vs : List Int32} (A : Ai Z h a ty vs) : a < h.size := by obtain ⟨c, A, -⟩ := A; exact A.lt
theorem Ai.keep {h' : Heap} {a : Addr} {ty : FieldType} {vs : List Int32} {ws : List Addr} (A : Ai Z h a ty vs) (K : Keep h h' ws) (q : a ∉ ws) : Ai Z h' a ty vs := by
  obtain ⟨c, A, r⟩ := A; exact ⟨c, ⟨K.2.1 a c A.1 q, A.2⟩, r⟩
theorem Ai.ext {h' : Heap} {a : Addr} {ty : FieldType} {vs : List Int32} (A : Ai Z h a ty vs) (E : Ext h h') : Ai Z h' a ty vs := by
  obtain ⟨c, A, r⟩ := A; exact ⟨c, A.ext E, r⟩
theorem own_idx {j : Int32} {i n : Nat} (hj : j.toInt = (i : Int)) (hi : i < n) : ¬ (j < 0 ∨ n ≤ j.toNatClampNeg) ∧ j.toNatClampNeg = i := by
  have q : j.toNatClampNeg = i := by rw [own_clamp, hj]; simp
  refine ⟨?_, q⟩
  rw [q, Int32.lt_iff_toInt_lt, hj]
  simp only [Int32.reduceToInt]
  omega
theorem w_newarr (pc' : Nat) (cap : Nat) (k : Nat) (C : Cx K Z own name code maxL ret R n0 Post) (hn0 : n0 ≤ h.size) {aty : ArrayType} {n : Int32} (hd : decode code pc = .ok (.newarray aty, 2)) (hp : pc + 2 = pc') (w : (Cond.arrayClass (newarray.typeOf aty)).before a0 Z = true) (hdef : defaultValue (newarray.typeOf aty) = .int 0) (hk : n.toInt = (k : Int)) (hcap : k ≤ cap) (hb0 : cap * 8 ≤ 536870912) (hc : cells + 1 ≤ R.cells) (hs : slots + cap ≤ R.slots)
    (g : ∀ h' a, Ext h h' → n0 ≤ a → h.size ≤ a → Ai Z h' a (newarray.typeOf aty) (List.replicate k 0) → n0 ≤ h'.size → Go K h' (cells + 1) (slots + cap) pc' Ls (.ref a :: st)) : Go K h cells slots pc Ls (.int n :: st) := by
  obtain ⟨hx, hby, hml, hown, hnm, hret, hlk, hZ, hR, hn, hPost⟩ := C
  subst hp
  intro T locs X eT N
  have hnn : ¬ n < 0 := by rw [Int32.lt_iff_toInt_lt, hk]; simp only [Int32.reduceToInt]; omega
  have hkn : n.toNatClampNeg = k := by rw [own_clamp, hk]; simp
  obtain ⟨T', h', cA, X', e', E, A, st'⟩ := newP X hx hZ w eT (g := mkF K.m pc Ls.toArray (.int n :: st)) rfl (hb hby hd) rfl hnn (cap := cap) (by omega) hb0 (by rw [hR]; exact hc) (by rw [hR]; exact hs)
  refine OwnDone.of (st' ·) (g h' h.size E hn0 (Nat.le_refl _) ⟨_, A, ?_⟩ (Nat.le_trans hn0 E.1) T' locs X' e' N)
  rw [own_newA, hkn, hdef]
  simp
theorem w_len (pc' : Nat) (z : Int32) (C : Cx K Z own name code maxL ret R n0 Post) {a : Addr} {ty : FieldType} {vs : List Int32} (A : Ai Z h a ty vs) (hd : decode code pc = .ok (.arraylength, 1)) (hp : pc + 1 = pc') (hz : vs.length.toInt32 = z) (g : Go K h cells slots pc' Ls (.int z :: st)) : Go K h cells slots pc Ls (.ref a :: st) := by
  obtain ⟨c, A, hc⟩ := A
  have hn : c.slots.size = vs.length := by rw [hc]; simp
  subst hp hz
  intro T locs X eT N
  refine OwnDone.of (fun t q => X.arraylength C.1 (by rw [eT]; exact A.1) (State.isArrayOf_alike C.2.2.2.2.2.2.2.1.alike A.2.1) (g := mkF K.m pc Ls.toArray (.ref a :: st)) rfl rfl (hb C.2.1 hd) t (by rw [hn]; exact q)) (g T locs X eT N)
theorem w_iaload (pc' : Nat) (i : Nat) (v : Int32) (C : Cx K Z own name code maxL ret R n0 Post) {a : Addr} {vs : List Int32} {j : Int32} (A : Ai Z h a .int vs) (hd : decode code pc = .ok (.iaload, 1)) (hp : pc + 1 = pc') (hj : j.toInt = (i : Int)) (hv : vs[i]? = some v) (g : Go K h cells slots pc' Ls (.int v :: st)) : Go K h cells slots pc Ls (.int j :: .ref a :: st) := by
  obtain ⟨c, A, hc⟩ := A
  have hi : i < vs.length := (List.getElem?_eq_some_iff.mp hv).1
  have hn : c.slots.size = vs.length := by rw [hc]; simp
  obtain ⟨q1, q2⟩ := own_idx (n := c.slots.size) hj (by rw [hn]; exact hi)
  have hat : c.slots[j.toNatClampNeg]? = some (.int v) := by rw [hc, q2]; simp [hv]
  subst hp
  intro T locs X eT N
  exact OwnDone.of (fun t q => X.iaload C.1 (by rw [eT]; exact A.1) (State.isArrayOf_alike C.2.2.2.2.2.2.2.1.alike A.2.1) A.2.2 q1 hat (g := mkF K.m pc Ls.toArray (.int j :: .ref a :: st)) rfl rfl (hb C.2.1 hd) t q) (g T locs X eT N)
theorem w_baload (pc' : Nat) (i : Nat) (v : Int32) (C : Cx K Z own name code maxL ret R n0 Post) {a : Addr} {vs : List Int32} {j : Int32} (A : Ai Z h a .byte vs) (hd : decode code pc = .ok (.baload, 1)) (hp : pc + 1 = pc') (hj : j.toInt = (i : Int)) (hv : vs[i]? = some v) (g : Go K h cells slots pc' Ls (.int v :: st)) : Go K h cells slots pc Ls (.int j :: .ref a :: st) := by
  obtain ⟨c, A, hc⟩ := A
  have hi : i < vs.length := (List.getElem?_eq_some_iff.mp hv).1
  have hn : c.slots.size = vs.length := by rw [hc]; simp
  obtain ⟨q1, q2⟩ := own_idx (n := c.slots.size) hj (by rw [hn]; exact hi)
  have hat : c.slots[j.toNatClampNeg]? = some (.int v) := by rw [hc, q2]; simp [hv]
  subst hp
  intro T locs X eT N
  exact OwnDone.of (fun t q => X.baloadBytes C.1 (by rw [eT]; exact A.1) (State.isArrayOf_alike C.2.2.2.2.2.2.2.1.alike A.2.1) A.2.2 q1 hat (g := mkF K.m pc Ls.toArray (.int j :: .ref a :: st)) rfl rfl (hb C.2.1 hd) t q) (g T locs X eT N)
theorem own_set {h' : Heap} {a : Addr} {ty : FieldType} {vs : List Int32} {c : Cell} {i : Nat} {x : Int32} (A : Arr Z h a c ty) (hc : c.slots = (vs.map Value.int).toArray) (W : Wr h h' a i (.int x)) : Ai Z h' a ty (vs.set i x) :=
  ⟨_, A.same W, by rw [own_setSlot, hc]; simp [List.map_set]⟩
theorem w_iastore (pc' : Nat) (i : Nat) (C : Cx K Z own name code maxL ret R n0 Post) {a : Addr} {vs : List Int32} {j x : Int32} (A : Ai Z h a .int vs) (ha : n0 ≤ a) (hd : decode code pc = .ok (.iastore, 1)) (hp : pc + 1 = pc') (hj : j.toInt = (i : Int)) (hi : i < vs.length)
    (g : ∀ h', Keep h h' [a] → Ai Z h' a .int (vs.set i x) → Go K h' cells slots pc' Ls st) : Go K h cells slots pc Ls (.int x :: .int j :: .ref a :: st) := by
  obtain ⟨c, A, hc⟩ := A
  have hn : c.slots.size = vs.length := by rw [hc]; simp
  obtain ⟨q1, q2⟩ := own_idx (n := c.slots.size) hj (by rw [hn]; exact hi)
  subst hp
  intro T locs X eT N
  obtain ⟨T', h', X', e', W, st'⟩ := stI X C.1 C.2.2.2.2.2.2.2.1 eT A (j := j) (x := x) q1 (g := mkF K.m pc Ls.toArray (.int x :: .int j :: .ref a :: st)) rfl rfl (hb C.2.1 hd)
  rw [q2] at X' W
  exact OwnDone.of (st' ·) (g h' (Keep.of_wr W) (own_set A hc W) T' _ X' e' (Fr.snoc X' N (by rw [C.2.2.2.2.2.2.2.2.2.1]; exact ha)))
theorem w_bastore (pc' : Nat) (i : Nat) (x' : Int32) (C : Cx K Z own name code maxL ret R n0 Post) {a : Addr} {vs : List Int32} {j x : Int32} (A : Ai Z h a .byte vs) (ha : n0 ≤ a) (hd : decode code pc = .ok (.bastore, 1)) (hp : pc + 1 = pc') (hj : j.toInt = (i : Int)) (hi : i < vs.length) (hx' : x.toInt8.toInt32 = x')
    (g : ∀ h', Keep h h' [a] → Ai Z h' a .byte (vs.set i x') → Go K h' cells slots pc' Ls st) : Go K h cells slots pc Ls (.int x :: .int j :: .ref a :: st) := by
  obtain ⟨c, A, hc⟩ := A
  have hn : c.slots.size = vs.length := by rw [hc]; simp
  obtain ⟨q1, q2⟩ := own_idx (n := c.slots.size) hj (by rw [hn]; exact hi)
  subst hp hx'
  intro T locs X eT N
  obtain ⟨T', h', X', e', W, st'⟩ := stB X C.1 C.2.2.2.2.2.2.2.1 eT A (j := j) (x := x) q1 (g := mkF K.m pc Ls.toArray (.int x :: .int j :: .ref a :: st)) rfl rfl (hb C.2.1 hd)
  rw [q2] at X' W
  exact OwnDone.of (st' ·) (g h' (Keep.of_wr W) (own_set A hc W) T' _ X' e' (Fr.snoc X' N (by rw [C.2.2.2.2.2.2.2.2.2.1]; exact ha)))
/-! 6. objects -/
theorem w_new (pc' : Nat) {Cn : String} {n i : Nat} (C : Cx K Z own name code maxL ret R n0 Post) (hn0 : n0 ≤ h.size) (hd : decode code pc = .ok (.new i, 3)) (hp : pc + 3 = pc') (w1 : (Cond.classLink own i Cn).before a0 Z = true) (w2 : (Cond.instantiable Cn n).before a0 Z = true) (w3 : (Cond.initialized Cn).before a0 Z = true) (hc : cells + 1 ≤ R.cells) (hs : slots + n ≤ R.slots)
    (g : ∀ h' a, Ext h h' → n0 ≤ a → h.size ≤ a → Exa Z h' a Cn → (∀ {O nm d : String} {ty : FieldType}, Laid Z a0 Cn O nm d → parseFieldDescriptor d = some ty → Fld Z h' a O nm d (defaultValue ty)) → n0 ≤ h'.size → Go K h' (cells + 1) (slots + n) pc' Ls (.ref a :: st)) : Go K h cells slots pc Ls st := by
  obtain ⟨hx, hby, hml, hown, hnm, hret, hlk, hZ, hR, hn, hPost⟩ := C
  subst hp
  intro T locs X eT N
  obtain ⟨T', h', X', e', E, A, D, -, st'⟩ := newO X hx hZ hown w1 w2 w3 eT (g := mkF K.m pc Ls.toArray st) rfl (hb hby hd) (by rw [hR]; exact hc) (by rw [hR]; exact hs)
  exact OwnDone.of (st' ·) (g h' h.size E hn0 (Nat.le_refl _) A D (Nat.le_trans hn0 E.1) T' locs X' e' N)
theorem w_getF (pc' : Nat) {R0 O n d host : String} {i : Nat} (C : Cx K Z own name code maxL ret R n0 Post) {a : Addr} {v : Value} (F : Fld Z h a O n d v) (hd : decode code pc = .ok (.getfield i, 3)) (hp : pc + 3 = pc') (w : (Cond.fieldLink own i R0 n d).before a0 Z = true ∨ (Cond.fieldLinkNest own i R0 n d host).before a0 Z = true) (via : Via Z R0 O n d) (g : Go K h cells slots pc' Ls (v :: st)) : Go K h cells slots pc Ls (.ref a :: st) := by
  subst hp
  intro T locs X eT N
  obtain ⟨T', X', e', st'⟩ := getF X C.1 C.2.2.2.2.2.2.2.1 C.2.2.2.1 w via eT F (g := mkF K.m pc Ls.toArray (.ref a :: st)) rfl rfl (hb C.2.1 hd)
  exact OwnDone.of (st' ·) (g T' locs X' e' N)
theorem w_putF (pc' : Nat) {R0 O n d host Cn : String} {i kk : Nat} {ty : FieldType} (C : Cx K Z own name code maxL ret R n0 Post) {a : Addr} {v old : Value} (F : Fld Z h a O n d old) (E : Exa Z h a Cn) (ha : n0 ≤ a) (hd : decode code pc = .ok (.putfield i, 3)) (hp : pc + 3 = pc') (w : (Cond.fieldLink own i R0 n d).before a0 Z = true ∨ (Cond.fieldLinkNest own i R0 n d host).before a0 Z = true) (via : Via Z R0 O n d)
    (L : (Cond.lays Cn O n d).before a0 Z = true ∨ ((Cond.laysFinal Cn O n d).before a0 Z = true ∧ own = O ∧ name = "<init>")) (wi : (Cond.instantiable Cn kk).before a0 Z = true) (hty : parseFieldDescriptor d = some ty) (hn : narrow ty v = v) (hf : fits ty v = true)
    (g : ∀ h', Keep h h' [a] → Wr h h' a (Jvm.RoadKit.slotOf Z O n d) v → Fld Z h' a O n d v → Exa Z h' a Cn → Go K h' cells slots pc' Ls st) : Go K h cells slots pc Ls (v :: .ref a :: st) := by
  subst hp
  intro T locs X eT N
  obtain ⟨T', h', X', e', W, st'⟩ := putF X C.1 C.2.2.2.2.2.2.2.1 C.2.2.2.1 w via eT F E (L.imp id fun q => ⟨q.1, q.2.1, C.2.2.2.2.1.trans q.2.2⟩) wi hty hn hf (g := mkF K.m pc Ls.toArray (v :: .ref a :: st)) rfl rfl (hb C.2.1 hd)
  exact OwnDone.of (st' ·) (g h' (Keep.of_wr W) W (F.same W) (E.wr W) T' _ X' e' (Fr.snoc X' N (by rw [C.2.2.2.2.2.2.2.2.2.1]; exact ha)))
theorem w_initO (pc' W : Nat) {i : Nat} (C : Cx K Z own name code maxL ret R n0 Post) {a : Addr} (hd : decode code pc = .ok (.invokespecial i, 3)) (hp : pc + 3 = pc') (w1 : (Cond.methodLink own i Lib.objectInit).before a0 Z = true) (w2 : (Cond.instanceMethod Lib.objectInit).before a0 Z = true) (w3 : (Cond.code Lib.objectInit ⟨#[0xb1]⟩ 1 none).before a0 Z = true)
    (hsz : Ls.length = maxL) (hf : 1 ≤ R.frames) (hW : (st.map fun v => v.category).sum ≤ W) (hl : W + 12 ≤ R.locals) (g : Go K h cells slots pc' Ls st) : Go K h cells slots pc Ls (.ref a :: st) := by
  obtain ⟨hx, hby, hml, hown, hnm, hret, hlk, hZ, hR, hn, hPost⟩ := C
  subst hp
  intro T locs X eT N
  obtain ⟨T', X', e', st'⟩ := initO X hx hZ hown w1 w2 w3 eT (g := mkF K.m pc Ls.toArray (.ref a :: st)) rfl (by rw [hml]; simpa using hsz) rfl (hb hby hd) (by rw [hR]; exact hf) (W := W) (by show 2 * 0 + _ ≤ _; simpa using hW) (by rw [hR]; exact hl)
  exact OwnDone.of (st' ·) (g T' locs X' e' N)
/-! 7. calls -/
theorem w_callS (pc' W : Nat) {y : MethodName} {bytes : ByteArray} {mL i : Nat} {rt : Option FieldType} {rm : Room} {P : Option Value → Heap → Prop} (argsL : List Value) (C : Cx K Z own name code maxL ret R n0 Post) (hd : decode code pc = .ok (.invokestatic i, 3)) (hp : pc + 3 = pc')
    (w1 : (Cond.methodLink own i y).before a0 Z = true) (w2 : (Cond.static y).before a0 Z = true) (w3 : (Cond.initialized y.cls).before a0 Z = true) (w4 : (Cond.code y bytes mL rt).before a0 Z = true) (hy : y.cls ≠ "java/lang/invoke/MethodHandle" ∧ y.cls ≠ "java/lang/invoke/VarHandle")
    (hM : OwnMet K.l y bytes mL rt [] rm Z h n0 argsL.toArray P) {ps : List FieldType} {r : Option FieldType} (hpd : parseMethodDescriptor y.desc = some ⟨ps, r⟩) (hlen : argsL.length = ps.length)
    (hst : st = argsL.reverse ++ rest) (hsz : Ls.length = maxL) (hW : (rest.map fun v => v.category).sum ≤ W) (hf : rm.frames + 1 ≤ R.frames) (hl : W + (mL + 11) + rm.locals ≤ R.locals) (hc : cells + rm.cells ≤ R.cells) (hs : slots + rm.slots ≤ R.slots)
    (g : ∀ v h', P v h' → Go K h' (cells + rm.cells) (slots + rm.slots) pc' Ls (v.toList ++ rest)) : Go K h cells slots pc Ls st := by
  obtain ⟨hx, hby, hml, hown, hnm, hret, hlk, hZ, hR, hn, hPost⟩ := C
  subst hp hst
  intro T locs X eT N
  obtain ⟨v, vm₁, ⟨T', L', k', n'⟩, -, X', ⟨Lc, hQ, l1, y1, z1⟩, st'⟩ := Jvm.LawKit.callS X hx (y := y) hown (mvT hZ w1) (mvT hZ w2) (mvT hZ w3) (mvT hZ w4) hy (backOf (W := W) (Q := fun v h L => Fr n0 L ∧ P v h) hM hZ w4 w3 (by rw [hR]; exact hf) (by rw [hR]; exact hl)) (g := mkF K.m pc Ls.toArray (argsL.reverse ++ rest)) rfl (by rw [hml]; simpa using hsz) (argsL := argsL) (rest := rest) (lenOf hpd hlen) rfl (by show 2 * 0 + _ ≤ _; simpa using hW) (hb hby hd) (fun _ _ => ⟨rfl, eT, by rw [hR]; exact hc, by rw [hR]; exact hs⟩)
  dsimp only [Pt.U, Pt.locs, Pt.cells, Pt.slots] at X' l1 y1 z1 st' hQ
  subst l1 y1 z1
  exact OwnDone.of (st' ·) (g v T'.heap hQ.2 T' _ X' rfl (Fr.app N (by rw [hn]; exact hQ.1)))
theorem w_callI (pc' W : Nat) {y : MethodName} {bytes : ByteArray} {mL i : Nat} {rm : Room} {P : Option Value → Heap → Prop} (argsL : List Value) (C : Cx K Z own name code maxL ret R n0 Post) {a : Addr} (hd : decode code pc = .ok (.invokespecial i, 3)) (hp : pc + 3 = pc') (hy1 : y.name = "<init>")
    (w1 : (Cond.methodLink own i y).before a0 Z = true) (w2 : (Cond.instanceMethod y).before a0 Z = true) (w3 : (Cond.initialized y.cls).before a0 Z = true) (w4 : (Cond.code y bytes mL none).before a0 Z = true) (hy : y.cls ≠ "java/lang/invoke/MethodHandle" ∧ y.cls ≠ "java/lang/invoke/VarHandle")
    (hM : OwnMet K.l y bytes mL none [] rm Z h n0 (.ref a :: argsL).toArray P) {ps : List FieldType} {r : Option FieldType} (hpd : parseMethodDescriptor y.desc = some ⟨ps, r⟩) (hlen : argsL.length = ps.length)
    (hst : st = argsL.reverse ++ .ref a :: rest) (hsz : Ls.length = maxL) (hW : (rest.map fun v => v.category).sum ≤ W) (hf : rm.frames + 1 ≤ R.frames) (hl : W + (mL + 11) + rm.locals ≤ R.locals) (hc : cells + rm.cells ≤ R.cells) (hs : slots + rm.slots ≤ R.slots)
    (g : ∀ v h', P v h' → Go K h' (cells + rm.cells) (slots + rm.slots) pc' Ls (v.toList ++ rest)) : Go K h cells slots pc Ls st := by
  obtain ⟨hx, hby, hml, hown, hnm, hret, hlk, hZ, hR, hn, hPost⟩ := C
  subst hp hst
  intro T locs X eT N
  obtain ⟨v, vm₁, ⟨T', L', k', n'⟩, -, X', ⟨Lc, hQ, l1, y1, z1⟩, st'⟩ := X.specialBack hx (y := y) hy1 hown (mvT hZ w1) (mvT hZ w2) (mvT hZ w4) hy (backOf (W := W) (Q := fun v h L => Fr n0 L ∧ P v h) hM hZ w4 w3 (by rw [hR]; exact hf) (by rw [hR]; exact hl)) (g := mkF K.m pc Ls.toArray (argsL.reverse ++ .ref a :: rest)) rfl (by rw [hml]; simpa using hsz) (Steps.refl _) (a := a) (argsL := argsL) (rest := rest) (lenOf hpd hlen) rfl (by show 2 * 0 + _ ≤ _; simpa using hW) (hb hby hd) (fun _ _ => ⟨rfl, eT, by rw [hR]; exact hc, by rw [hR]; exact hs⟩)
  dsimp only [Pt.U, Pt.locs, Pt.cells, Pt.slots] at X' l1 y1 z1 st' hQ
  subst l1 y1 z1
  exact OwnDone.of (fun t q => st'.trans q) (g v T'.heap hQ.2 T' _ X' rfl (Fr.app N (by rw [hn]; exact hQ.1)))
theorem w_callIN (pc' W : Nat) {host : String} {y : MethodName} {bytes : ByteArray} {mL i : Nat} {rm : Room} {P : Option Value → Heap → Prop} (argsL : List Value) (C : Cx K Z own name code maxL ret R n0 Post) {a : Addr} (hd : decode code pc = .ok (.invokespecial i, 3)) (hp : pc + 3 = pc') (hy1 : y.name = "<init>")
    (w1 : (Cond.methodLinkNest own i y host).before a0 Z = true) (w2 : (Cond.instanceMethod y).before a0 Z = true) (w3 : (Cond.initialized y.cls).before a0 Z = true) (w4 : (Cond.code y bytes mL none).before a0 Z = true) (hy : y.cls ≠ "java/lang/invoke/MethodHandle" ∧ y.cls ≠ "java/lang/invoke/VarHandle")
    (hM : OwnMet K.l y bytes mL none [] rm Z h n0 (.ref a :: argsL).toArray P) {ps : List FieldType} {r : Option FieldType} (hpd : parseMethodDescriptor y.desc = some ⟨ps, r⟩) (hlen : argsL.length = ps.length)
    (hst : st = argsL.reverse ++ .ref a :: rest) (hsz : Ls.length = maxL) (hW : (rest.map fun v => v.category).sum ≤ W) (hf : rm.frames + 1 ≤ R.frames) (hl : W + (mL + 11) + rm.locals ≤ R.locals) (hc : cells + rm.cells ≤ R.cells) (hs : slots + rm.slots ≤ R.slots)
    (g : ∀ v h', P v h' → Go K h' (cells + rm.cells) (slots + rm.slots) pc' Ls (v.toList ++ rest)) : Go K h cells slots pc Ls st := by
  obtain ⟨hx, hby, hml, hown, hnm, hret, hlk, hZ, hR, hn, hPost⟩ := C
  subst hp hst
  intro T locs X eT N
  obtain ⟨v, vm₁, ⟨T', L', k', n'⟩, -, X', ⟨Lc, hQ, l1, y1, z1⟩, st'⟩ := X.specialBackNest hx (y := y) hy1 hown (Cond.methodLinkNest_wide hZ w1 :) (mvT hZ w2) (mvT hZ w4) hy (backOf (W := W) (Q := fun v h L => Fr n0 L ∧ P v h) hM hZ w4 w3 (by rw [hR]; exact hf) (by rw [hR]; exact hl)) (g := mkF K.m pc Ls.toArray (argsL.reverse ++ .ref a :: rest)) rfl (by rw [hml]; simpa using hsz) (Steps.refl _) (a := a) (argsL := argsL) (rest := rest) (lenOf hpd hlen) rfl (by show 2 * 0 + _ ≤ _; simpa using hW) (hb hby hd) (fun _ _ => ⟨rfl, eT, by rw [hR]; exact hc, by rw [hR]; exact hs⟩)
  dsimp only [Pt.U, Pt.locs, Pt.cells, Pt.slots] at X' l1 y1 z1 st' hQ
  subst l1 y1 z1
  exact OwnDone.of (fun t q => st'.trans q) (g v T'.heap hQ.2 T' _ X' rfl (Fr.app N (by rw [hn]; exact hQ.1)))
theorem w_callV (pc' W : Nat) {Cn : String} {y : MethodName} {bytes : ByteArray} {mL i : Nat} {rt : Option FieldType} {rm : Room} {P : Option Value → Heap → Prop} (argsL : List Value) (C : Cx K Z own name code maxL ret R n0 Post) {a : Addr} (E : Exa Z h a Cn) (hd : decode code pc = .ok (.invokevirtual i, 3)) (hp : pc + 3 = pc')
    (w1 : (Cond.methodLink own i y).before a0 Z = true) (w2 : (Cond.declares y).before a0 Z = true) (w5 : (Cond.selects Cn y y).before a0 Z = true) (w6 : (Cond.instanceMethod y).before a0 Z = true) (w3 : (Cond.initialized y.cls).before a0 Z = true) (w4 : (Cond.code y bytes mL rt).before a0 Z = true) (hy : y.cls ≠ "java/lang/invoke/MethodHandle" ∧ y.cls ≠ "java/lang/invoke/VarHandle")
    (hM : OwnMet K.l y bytes mL rt [] rm Z h n0 (.ref a :: argsL).toArray P) {ps : List FieldType} {r : Option FieldType} (hpd : parseMethodDescriptor y.desc = some ⟨ps, r⟩) (hlen : argsL.length = ps.length)
    (hst : st = argsL.reverse ++ .ref a :: rest) (hsz : Ls.length = maxL) (hW : (rest.map fun v => v.category).sum ≤ W) (hf : rm.frames + 1 ≤ R.frames) (hl : W + (mL + 11) + rm.locals ≤ R.locals) (hc : cells + rm.cells ≤ R.cells) (hs : slots + rm.slots ≤ R.slots)
    (g : ∀ v h', P v h' → Go K h' (cells + rm.cells) (slots + rm.slots) pc' Ls (v.toList ++ rest)) : Go K h cells slots pc Ls st := by
  obtain ⟨hx, hby, hml, hown, hnm, hret, hlk, hZ, hR, hn, hPost⟩ := C
  subst hp hst
  intro T locs X eT N
  obtain ⟨cq, kq, qa, qb, qc⟩ := isOf hZ eT E
  obtain ⟨v, vm₁, ⟨T', L', k', n'⟩, -, X', ⟨Lc, hQ, l1, y1, z1⟩, st'⟩ := X.virtualBack hx (y := y) (z := y) hown (mvT hZ w1) (mvT hZ w2) (notFace_of_selects (args := #[]) (mvT hZ w5)) (mvT hZ w5) (mvT hZ w6) hy (backOf (W := W) (Q := fun v h L => Fr n0 L ∧ P v h) hM hZ w4 w3 (by rw [hR]; exact hf) (by rw [hR]; exact hl)) qa qc (g := mkF K.m pc Ls.toArray (argsL.reverse ++ .ref a :: rest)) rfl (by rw [hml]; simpa using hsz) (Steps.refl _) (argsL := argsL) (rest := rest) (lenOf hpd hlen) rfl (by show 2 * 0 + _ ≤ _; simpa using hW) (hb hby hd) (fun _ _ => ⟨rfl, eT, by rw [hR]; exact hc, by rw [hR]; exact hs⟩)
  dsimp only [Pt.U, Pt.locs, Pt.cells, Pt.slots] at X' l1 y1 z1 st' hQ
  subst l1 y1 z1
  exact OwnDone.of (fun t q => st'.trans q) (g v T'.heap hQ.2 T' _ X' rfl (Fr.app N (by rw [hn]; exact hQ.1)))
theorem w_callP (pc' W : Nat) {Cn : String} {y z : MethodName} {bytes : ByteArray} {mL i : Nat} {rt : Option FieldType} {rm : Room} {P : Option Value → Heap → Prop} (argsL : List Value) (C : Cx K Z own name code maxL ret R n0 Post) {a : Addr} (E : Exa Z h a Cn) (hd : decode code pc = .ok (.invokevirtual i, 3)) (hp : pc + 3 = pc')
    (w1 : (Cond.methodLink own i y).before a0 Z = true) (w7 : (Cond.privateMethod y).before a0 Z = true) (w5 : (Cond.selects z.cls z z).before a0 Z = true) (hzy : z.cls = y.cls) (w6 : (Cond.instanceMethod y).before a0 Z = true) (w3 : (Cond.initialized y.cls).before a0 Z = true) (w4 : (Cond.code y bytes mL rt).before a0 Z = true) (hy : y.cls ≠ "java/lang/invoke/MethodHandle" ∧ y.cls ≠ "java/lang/invoke/VarHandle")
    (hM : OwnMet K.l y bytes mL rt [] rm Z h n0 (.ref a :: argsL).toArray P) {ps : List FieldType} {r : Option FieldType} (hpd : parseMethodDescriptor y.desc = some ⟨ps, r⟩) (hlen : argsL.length = ps.length)
    (hst : st = argsL.reverse ++ .ref a :: rest) (hsz : Ls.length = maxL) (hW : (rest.map fun v => v.category).sum ≤ W) (hf : rm.frames + 1 ≤ R.frames) (hl : W + (mL + 11) + rm.locals ≤ R.locals) (hc : cells + rm.cells ≤ R.cells) (hs : slots + rm.slots ≤ R.slots)
    (g : ∀ v h', P v h' → Go K h' (cells + rm.cells) (slots + rm.slots) pc' Ls (v.toList ++ rest)) : Go K h cells slots pc Ls st := by
  obtain ⟨hx, hby, hml, hown, hnm, hret, hlk, hZ, hR, hn, hPost⟩ := C
  subst hp hst
  intro T locs X eT N
  have hpriv : K.s.PrivateAt y := Cond.privateMethod_at (mvP hZ w7 (args := #[]))
  have hsel : (Cond.selects y.cls y y).before K.args K.s = true := by
    obtain ⟨c2, r2, m2, q1, q2, q3, q4, kP, hkP, hkPi⟩ := Cond.selects_spec (mvT hZ w5 (args := #[]))
    exact selects_self_of_private (by rw [← hzy]; exact findClass_of_methodNamed q3) hkP hkPi hpriv (mvT hZ w6) hy
  obtain ⟨cq, q1, q2⟩ := E.cell
  obtain ⟨v, vm₁, ⟨T', L', k', n'⟩, -, X', ⟨Lc, hQ, l1, y1, z1⟩, st'⟩ := X.privateBack hx (y := y) hown (mvT hZ w1) (mvT hZ w6) hsel hpriv (mvT hZ w4) hy (backOf (W := W) (Q := fun v h L => Fr n0 L ∧ P v h) hM hZ w4 w3 (by rw [hR]; exact hf) (by rw [hR]; exact hl)) (g := mkF K.m pc Ls.toArray (argsL.reverse ++ .ref a :: rest)) rfl (by rw [hml]; simpa using hsz) (Steps.refl _) (a := a) (by rw [eT]; exact q1) q2 (argsL := argsL) (rest := rest) (lenOf hpd hlen) rfl (by show 2 * 0 + _ ≤ _; simpa using hW) (hb hby hd) (fun _ _ => ⟨rfl, eT, by rw [hR]; exact hc, by rw [hR]; exact hs⟩)
  dsimp only [Pt.U, Pt.locs, Pt.cells, Pt.slots] at X' l1 y1 z1 st' hQ
  subst l1 y1 z1
  exact OwnDone.of (fun t q => st'.trans q) (g v T'.heap hQ.2 T' _ X' rfl (Fr.app N (by rw [hn]; exact hQ.1)))
theorem Go.more {c' s' : Nat} (g : Go K h c' s' pc Ls st) (h1 : cells ≤ c') (h2 : slots ≤ s') : Go K h cells slots pc Ls st := fun T locs X e N => g T locs (X.more h1 h2) e N
end OwnLaws
/-! 8. numbers -/
theorem own_un (x : Int32) : (x.toUInt32.toNat : Int) = x.toInt % 4294967296 := by
  have h1 : x.toInt = x.toBitVec.toInt := rfl
  have h2 : x.toUInt32.toNat = x.toBitVec.toNat := rfl
  rw [h1, h2, BitVec.toInt_eq_toNat_cond]
  have := x.toBitVec.isLt
  split <;> omega
theorem own_ul (x : Int64) : (x.toUInt64.toNat : Int) = x.toInt % 18446744073709551616 := by
  have h1 : x.toInt = x.toBitVec.toInt := rfl
  have h2 : x.toUInt64.toNat = x.toBitVec.toNat := rfl
  rw [h1, h2, BitVec.toInt_eq_toNat_cond]
  have := x.toBitVec.isLt
  split <;> omega
theorem own_in (u : UInt32) : (u.toInt32).toInt = ((u.toNat : Int) + 2147483648) % 4294967296 - 2147483648 := by
  have h1 : (u.toInt32).toInt = u.toBitVec.toInt := rfl
  have h2 : u.toNat = u.toBitVec.toNat := rfl
  rw [h1, h2, BitVec.toInt_eq_toNat_cond]
  have := u.toBitVec.isLt
  split <;> omega
theorem own_il (u : UInt64) : (u.toInt64).toInt = ((u.toNat : Int) + 9223372036854775808) % 18446744073709551616 - 9223372036854775808 := by
  have h1 : (u.toInt64).toInt = u.toBitVec.toInt := rfl
  have h2 : u.toNat = u.toBitVec.toNat := rfl
  rw [h1, h2, BitVec.toInt_eq_toNat_cond]
  have := u.toBitVec.isLt
  split <;> omega
theorem own_i2b (x : Int32) : (x.toInt8.toInt32).toInt = (x.toInt + 128) % 256 - 128 := by
  rw [Int8.toInt_toInt32, Int32.toInt_toInt8, Int.bmod_def]
  split <;> omega
theorem own_u16 (u : UInt16) : (u.toUInt32.toInt32).toInt = u.toNat := by
  have hu := u.toNat_lt
  rw [own_in, UInt16.toNat_toUInt32]
  omega
theorem own_i2c (x : Int32) : (x.toUInt32.toUInt16.toUInt32.toInt32).toInt = x.toInt % 65536 := by
  rw [own_u16, UInt32.toNat_toUInt16]
  have := own_un x
  omega
theorem own_l2i (x : Int64) : (x.toInt32).toInt = (x.toInt + 2147483648) % 4294967296 - 2147483648 := by
  rw [Int64.toInt_toInt32, Int.bmod_def]
  split <;> omega
theorem own_i2l (x : Int32) : (x.toInt64).toInt = x.toInt := Int32.toInt_toInt64 x
theorem own_iadd (x y : Int32) : (x + y).toInt = (x.toInt + y.toInt + 2147483648) % 4294967296 - 2147483648 := by
  rw [Int32.toInt_add, Int.bmod_def]; split <;> omega
theorem own_isub (x y : Int32) : (x - y).toInt = (x.toInt - y.toInt + 2147483648) % 4294967296 - 2147483648 := by
  rw [Int32.toInt_sub, Int.bmod_def]; split <;> omega
theorem own_imul (x y : Int32) : (x * y).toInt = (x.toInt * y.toInt + 2147483648) % 4294967296 - 2147483648 := by
  rw [Int32.toInt_mul, Int.bmod_def]; split <;> omega
theorem own_ladd (x y : Int64) : (x + y).toInt = (x.toInt + y.toInt + 9223372036854775808) % 18446744073709551616 - 9223372036854775808 := by
  rw [Int64.toInt_add, Int.bmod_def]; split <;> omega
theorem own_lsub (x y : Int64) : (x - y).toInt = (x.toInt - y.toInt + 9223372036854775808) % 18446744073709551616 - 9223372036854775808 := by
  rw [Int64.toInt_sub, Int.bmod_def]; split <;> omega
theorem own_iushr (x : Int32) {n : UInt32} (k : Nat) (hn : n.toNat = k) (h0 : 0 < k) (hk : k < 32) : ((x.toUInt32 >>> n).toInt32).toInt = x.toInt % 4294967296 / 2 ^ k := by
  have h1 : (x.toUInt32 >>> n).toNat = x.toUInt32.toNat / 2 ^ k := by rw [UInt32.toNat_shiftRight, hn, Nat.mod_eq_of_lt hk, Nat.shiftRight_eq_div_pow]
  have h2 := own_un x
  have h3 : x.toUInt32.toNat / 2 ^ k < 2147483648 := by
    have q : x.toUInt32.toNat < 4294967296 := x.toUInt32.toNat_lt
    have r : 2 ^ 1 ≤ 2 ^ k := Nat.pow_le_pow_right (by omega) h0
    exact Nat.div_lt_of_lt_mul (by omega)
  rw [own_in, h1, ← h2]
  have h4 : ((x.toUInt32.toNat : Int)) / 2 ^ k = ((x.toUInt32.toNat / 2 ^ k : Nat) : Int) := by simp
  rw [h4]
  omega
theorem own_lushr (x : Int64) {n : UInt64} (k : Nat) (hn : n.toNat = k) (h0 : 0 < k) (hk : k < 64) : ((x.toUInt64 >>> n).toInt64).toInt = x.toInt % 18446744073709551616 / 2 ^ k := by
  have h1 : (x.toUInt64 >>> n).toNat = x.toUInt64.toNat / 2 ^ k := by rw [UInt64.toNat_shiftRight, hn, Nat.mod_eq_of_lt hk, Nat.shiftRight_eq_div_pow]
  have h2 := own_ul x
  have h3 : x.toUInt64.toNat / 2 ^ k < 9223372036854775808 := by
    have q : x.toUInt64.toNat < 18446744073709551616 := x.toUInt64.toNat_lt
    have r : 2 ^ 1 ≤ 2 ^ k := Nat.pow_le_pow_right (by omega) h0
    exact Nat.div_lt_of_lt_mul (by omega)
  rw [own_il, h1, ← h2]
  have h4 : ((x.toUInt64.toNat : Int)) / 2 ^ k = ((x.toUInt64.toNat / 2 ^ k : Nat) : Int) := by simp
  rw [h4]
  omega
theorem own_mask (x m : Int32) (k : Nat) (hk : k < 32) (hm : m.toBitVec.toNat = 2 ^ k - 1) : (x &&& m).toInt = x.toInt % 2 ^ k := Jvm.Kit.i32_mask x m hk hm
theorem own_maskL (x m : Int64) (k : Nat) (hk : k < 64) (hm : m.toBitVec.toNat = 2 ^ k - 1) : (x &&& m).toInt = x.toInt % 2 ^ k := Jvm.Kit.i64_mask x m hk hm
theorem own_orN (a b q k : Nat) (ha : a < 2 ^ k) (hb : b = 2 ^ k * q) : a ||| b = a + b := by
  rw [Nat.or_comm, hb, ← Nat.two_pow_add_eq_or_of_lt ha, Nat.add_comm]
theorem own_or (x y : Int32) (k : Nat) (q : Nat) (h0 : 0 ≤ x.toInt) (h1 : x.toInt < 2 ^ k) (h2 : y.toInt = 2 ^ k * (q : Int)) (h3 : x.toInt + y.toInt < 2147483648) : (x ||| y).toInt = x.toInt + y.toInt := by
  have e1 := own_un x; have e2 := own_un y
  have n2 : (0 : Int) ≤ y.toInt := by rw [h2]; exact Int.mul_nonneg (Int.le_of_lt (Int.pow_pos (by decide))) (by omega)
  have a1 : x.toUInt32.toNat < 2 ^ k := by
    have : (x.toUInt32.toNat : Int) < ((2 ^ k : Nat) : Int) := by rw [e1, Int.natCast_pow]; have := x.toInt_lt; have := Int.emod_eq_of_lt h0 (by omega : x.toInt < 4294967296); rw [this]; exact h1
    omega
  have a2 : y.toUInt32.toNat = 2 ^ k * q := by
    have : (y.toUInt32.toNat : Int) = ((2 ^ k * q : Nat) : Int) := by rw [e2, Int.natCast_mul, Int.natCast_pow]; have := y.toInt_lt; rw [Int.emod_eq_of_lt n2 (by omega)]; exact h2
    omega
  have e3 : (x ||| y).toUInt32.toNat = x.toUInt32.toNat ||| y.toUInt32.toNat := rfl
  have e4 := own_un (x ||| y)
  rw [e3, own_orN _ _ q k a1 a2] at e4
  have r1 := (x ||| y).toInt_lt; have r2 := (x ||| y).le_toInt
  have s1 := x.toInt_lt; have s2 := y.toInt_lt
  omega
theorem own_xor1 (x : Int32) : (x ^^^ 1).toInt = x.toInt + 1 - 2 * (x.toInt % 2) := by
  have e1 := own_un x
  have e3 : (x ^^^ 1).toUInt32.toNat = x.toUInt32.toNat ^^^ 1 := rfl
  have e4 := own_un (x ^^^ 1)
  rw [e3] at e4
  have d1 : (x.toUInt32.toNat ^^^ 1) / 2 = x.toUInt32.toNat / 2 := by rw [Nat.xor_div_two]; simp
  have d2 : (x.toUInt32.toNat ^^^ 1) % 2 = (x.toUInt32.toNat + 1) % 2 := by
    have t0 : (x.toUInt32.toNat ^^^ 1).testBit 0 = (x.toUInt32.toNat.testBit 0 ^^ (1 : Nat).testBit 0) := Nat.testBit_xor _ _ _
    rw [Nat.testBit_zero, Nat.testBit_zero, Nat.testBit_zero] at t0
    rcases Nat.mod_two_eq_zero_or_one x.toUInt32.toNat with q | q <;> rcases Nat.mod_two_eq_zero_or_one (x.toUInt32.toNat ^^^ 1) with r | r <;> rw [q, r] at t0 <;> first | (exfalso; revert t0; decide) | omega
  have r1 := (x ^^^ 1).toInt_lt; have r2 := (x ^^^ 1).le_toInt
  have s1 := x.toInt_lt; have s2 := x.le_toInt
  omega
theorem own_eqi {x y : Int32} : x = y ↔ x.toInt = y.toInt := Int32.toInt_inj.symm
theorem own_eqli {x y : Int64} : x = y ↔ x.toInt = y.toInt := Int64.toInt_inj.symm
theorem own_eq {x y : Int32} (h : x.toInt = y.toInt) : x = y := Int32.toInt_inj.mp h
theorem own_eqL {x y : Int64} (h : x.toInt = y.toInt) : x = y := Int64.toInt_inj.mp h
theorem own_ne {x y : Int32} (h : ¬ x = y) : x.toInt ≠ y.toInt := fun q => h (Int32.toInt_inj.mp q)
theorem own_neL {x y : Int64} (h : ¬ x = y) : x.toInt ≠ y.toInt := fun q => h (Int64.toInt_inj.mp q)
theorem own_or32N (n : Nat) : n ||| 32 = n + 32 - 32 * (n / 32 % 2) := by
  have hs : ∀ s, s < 64 → s ||| 32 = s + 32 - 32 * (s / 32 % 2) ∧ s ||| 32 < 64 := by decide
  have h1 := hs (n % 64) (Nat.mod_lt _ (by decide))
  have h2 : n = 2 ^ 6 * (n / 64) ||| (n % 64) := by rw [← Nat.two_pow_add_eq_or_of_lt (i := 6) (Nat.mod_lt _ (by decide))]; omega
  have h3 : n ||| 32 = 2 ^ 6 * (n / 64) + (n % 64 ||| 32) := by
    rw [Nat.two_pow_add_eq_or_of_lt (i := 6) h1.2, ← Nat.or_assoc, ← h2]
  rw [h3, h1.1]
  omega
theorem own_or32 (x : Int32) (h0 : 0 ≤ x.toInt) (h1 : x.toInt < 65536) : (x ||| 32).toInt = x.toInt + 32 - 32 * (x.toInt / 32 % 2) := by
  have e1 := own_un x; have e4 := own_un (x ||| 32)
  have e3 : (x ||| 32).toUInt32.toNat = x.toUInt32.toNat ||| 32 := rfl
  rw [e3, own_or32N] at e4
  have r1 := (x ||| 32).toInt_lt; have r2 := (x ||| 32).le_toInt
  omega
theorem d3_0 : decode jdk_22_method_1_code 0 = .ok (.aload_n 0, 1) := by decide +kernel
theorem d3_1 : decode jdk_22_method_1_code 1 = .ok (.invokespecial 1, 3) := by decide +kernel
theorem d3_4 : decode jdk_22_method_1_code 4 = .ok (.return_, 1) := by decide +kernel
theorem pn_java_util_AbstractCollection : plainName "java/util/AbstractCollection" = true := by first | (simp [plainName, overriddenIn]; done) | decide +kernel
theorem pd__to_V : parseMethodDescriptor "()V" = some ⟨[], none⟩ := by decide +kernel
theorem d2_0 : decode jdk_39_method_1_code 0 = .ok (.aload_n 0, 1) := by decide +kernel
theorem d2_1 : decode jdk_39_method_1_code 1 = .ok (.invokespecial 1, 3) := by decide +kernel
theorem d2_4 : decode jdk_39_method_1_code 4 = .ok (.aload_n 0, 1) := by decide +kernel
theorem d2_5 : decode jdk_39_method_1_code 5 = .ok (.iconst 0, 1) := by decide +kernel
theorem d2_6 : decode jdk_39_method_1_code 6 = .ok (.putfield 7, 3) := by decide +kernel
theorem d2_9 : decode jdk_39_method_1_code 9 = .ok (.return_, 1) := by decide +kernel
theorem pn_java_util_AbstractList : plainName "java/util/AbstractList" = true := by first | (simp [plainName, overriddenIn]; done) | decide +kernel
theorem d1_0 : decode prog_4_method_1_code 0 = .ok (.aload_n 0, 1) := by decide +kernel
theorem d1_1 : decode prog_4_method_1_code 1 = .ok (.invokespecial 1, 3) := by decide +kernel
theorem d1_4 : decode prog_4_method_1_code 4 = .ok (.iload_n 1, 1) := by decide +kernel
theorem d1_5 : decode prog_4_method_1_code 5 = .ok (.iconst 3, 1) := by decide +kernel
theorem d1_6 : decode prog_4_method_1_code 6 = .ok (.if_icmp .le 11, 3) := by decide +kernel
theorem d1_9 : decode prog_4_method_1_code 9 = .ok (.aload_n 0, 1) := by decide +kernel
theorem d1_10 : decode prog_4_method_1_code 10 = .ok (.iload_n 1, 1) := by decide +kernel
theorem d1_11 : decode prog_4_method_1_code 11 = .ok (.anewarray 9, 3) := by decide +kernel
theorem d1_14 : decode prog_4_method_1_code 14 = .ok (.putfield 11, 3) := by decide +kernel
theorem d1_17 : decode prog_4_method_1_code 17 = .ok (.return_, 1) := by decide +kernel
theorem pn_com_example_wiretagg_wiretagg_CompactList : plainName "com/example/wiretagg/wiretagg/CompactList" = true := by first | (simp [plainName, overriddenIn]; done) | decide +kernel
theorem pd_I_to_V : parseMethodDescriptor "(I)V" = some ⟨[.int], none⟩ := by decide +kernel
theorem d5_0 : decode jdk_33_method_22_code 0 = .ok (.iload_n 0, 1) := by decide +kernel
theorem d5_1 : decode jdk_33_method_22_code 1 = .ok (.bipush (-128), 2) := by decide +kernel
theorem d5_3 : decode jdk_33_method_22_code 3 = .ok (.if_icmp .lt 20, 3) := by decide +kernel
theorem d5_6 : decode jdk_33_method_22_code 6 = .ok (.iload_n 0, 1) := by decide +kernel
theorem d5_7 : decode jdk_33_method_22_code 7 = .ok (.getstatic 191, 3) := by decide +kernel
theorem d5_10 : decode jdk_33_method_22_code 10 = .ok (.if_icmp .gt 13, 3) := by decide +kernel
theorem d5_13 : decode jdk_33_method_22_code 13 = .ok (.getstatic 195, 3) := by decide +kernel
theorem d5_16 : decode jdk_33_method_22_code 16 = .ok (.iload_n 0, 1) := by decide +kernel
theorem d5_17 : decode jdk_33_method_22_code 17 = .ok (.sipush 128, 3) := by decide +kernel
theorem d5_20 : decode jdk_33_method_22_code 20 = .ok (.iadd, 1) := by decide +kernel
theorem d5_21 : decode jdk_33_method_22_code 21 = .ok (.aaload, 1) := by decide +kernel
theorem d5_22 : decode jdk_33_method_22_code 22 = .ok (.areturn, 1) := by decide +kernel
theorem d5_23 : decode jdk_33_method_22_code 23 = .ok (.new 1, 3) := by decide +kernel
theorem d5_26 : decode jdk_33_method_22_code 26 = .ok (.dup, 1) := by decide +kernel
theorem d5_27 : decode jdk_33_method_22_code 27 = .ok (.iload_n 0, 1) := by decide +kernel
theorem d5_28 : decode jdk_33_method_22_code 28 = .ok (.invokespecial 199, 3) := by decide +kernel
theorem d5_31 : decode jdk_33_method_22_code 31 = .ok (.areturn, 1) := by decide +kernel
theorem pn_java_lang_Integer : plainName "java/lang/Integer" = true := by first | (simp [plainName, overriddenIn]; done) | decide +kernel
theorem pd_I_to_Ljava_lang_Integer : parseMethodDescriptor "(I)Ljava/lang/Integer;" = some ⟨[.int], some (.object "java/lang/Integer")⟩ := by decide +kernel
theorem d6_0 : decode prog_4_method_6_code 0 = .ok (.aload_n 0, 1) := by decide +kernel
theorem d6_1 : decode prog_4_method_6_code 1 = .ok (.dup, 1) := by decide +kernel
theorem d6_2 : decode prog_4_method_6_code 2 = .ok (.getfield 46, 3) := by decide +kernel
theorem d6_5 : decode prog_4_method_6_code 5 = .ok (.iconst 1, 1) := by decide +kernel
theorem d6_6 : decode prog_4_method_6_code 6 = .ok (.iadd, 1) := by decide +kernel
theorem d6_7 : decode prog_4_method_6_code 7 = .ok (.putfield 46, 3) := by decide +kernel
theorem d6_10 : decode prog_4_method_6_code 10 = .ok (.aload_n 0, 1) := by decide +kernel
theorem d6_11 : decode prog_4_method_6_code 11 = .ok (.getfield 11, 3) := by decide +kernel
theorem d6_14 : decode prog_4_method_6_code 14 = .ok (.ifnonnull 23, 3) := by decide +kernel
theorem d6_17 : decode prog_4_method_6_code 17 = .ok (.aload_n 0, 1) := by decide +kernel
theorem d6_18 : decode prog_4_method_6_code 18 = .ok (.getfield 15, 3) := by decide +kernel
theorem d6_21 : decode prog_4_method_6_code 21 = .ok (.iconst 3, 1) := by decide +kernel
theorem d6_22 : decode prog_4_method_6_code 22 = .ok (.if_icmp .ge 15, 3) := by decide +kernel
theorem d6_25 : decode prog_4_method_6_code 25 = .ok (.aload_n 0, 1) := by decide +kernel
theorem d6_26 : decode prog_4_method_6_code 26 = .ok (.aload_n 0, 1) := by decide +kernel
theorem d6_27 : decode prog_4_method_6_code 27 = .ok (.getfield 15, 3) := by decide +kernel
theorem d6_30 : decode prog_4_method_6_code 30 = .ok (.aload_n 1, 1) := by decide +kernel
theorem d6_31 : decode prog_4_method_6_code 31 = .ok (.invokevirtual 42, 3) := by decide +kernel
theorem d6_34 : decode prog_4_method_6_code 34 = .ok (.goto 23, 3) := by decide +kernel
theorem d6_37 : decode prog_4_method_6_code 37 = .ok (.aload_n 0, 1) := by decide +kernel
theorem d6_38 : decode prog_4_method_6_code 38 = .ok (.aload_n 0, 1) := by decide +kernel
theorem d6_39 : decode prog_4_method_6_code 39 = .ok (.getfield 15, 3) := by decide +kernel
theorem d6_42 : decode prog_4_method_6_code 42 = .ok (.iconst 1, 1) := by decide +kernel
theorem d6_43 : decode prog_4_method_6_code 43 = .ok (.iadd, 1) := by decide +kernel
theorem d6_44 : decode prog_4_method_6_code 44 = .ok (.invokevirtual 49, 3) := by decide +kernel
theorem d6_47 : decode prog_4_method_6_code 47 = .ok (.aload_n 0, 1) := by decide +kernel
theorem d6_48 : decode prog_4_method_6_code 48 = .ok (.getfield 11, 3) := by decide +kernel
theorem d6_51 : decode prog_4_method_6_code 51 = .ok (.aload_n 0, 1) := by decide +kernel
theorem d6_52 : decode prog_4_method_6_code 52 = .ok (.getfield 15, 3) := by decide +kernel
theorem d6_55 : decode prog_4_method_6_code 55 = .ok (.aload_n 1, 1) := by decide +kernel
theorem d6_56 : decode prog_4_method_6_code 56 = .ok (.aastore, 1) := by decide +kernel
theorem d6_57 : decode prog_4_method_6_code 57 = .ok (.aload_n 0, 1) := by decide +kernel
theorem d6_58 : decode prog_4_method_6_code 58 = .ok (.dup, 1) := by decide +kernel
theorem d6_59 : decode prog_4_method_6_code 59 = .ok (.getfield 15, 3) := by decide +kernel
theorem d6_62 : decode prog_4_method_6_code 62 = .ok (.iconst 1, 1) := by decide +kernel
theorem d6_63 : decode prog_4_method_6_code 63 = .ok (.iadd, 1) := by decide +kernel
theorem d6_64 : decode prog_4_method_6_code 64 = .ok (.putfield 15, 3) := by decide +kernel
theorem d6_67 : decode prog_4_method_6_code 67 = .ok (.iconst 1, 1) := by decide +kernel
theorem d6_68 : decode prog_4_method_6_code 68 = .ok (.ireturn, 1) := by decide +kernel
theorem pd_Ljava_lang_Object_to_Z : parseMethodDescriptor "(Ljava/lang/Object;)Z" = some ⟨[(.object "java/lang/Object")], some .boolean⟩ := by decide +kernel
theorem d7_0 : decode prog_4_method_11_code 0 = .ok (.aload_n 0, 1) := by decide +kernel
theorem d7_1 : decode prog_4_method_11_code 1 = .ok (.getfield 11, 3) := by decide +kernel
theorem d7_4 : decode prog_4_method_11_code 4 = .ok (.ifnull 13, 3) := by decide +kernel
theorem d7_7 : decode prog_4_method_11_code 7 = .ok (.aload_n 0, 1) := by decide +kernel
theorem d7_8 : decode prog_4_method_11_code 8 = .ok (.getfield 11, 3) := by decide +kernel
theorem d7_11 : decode prog_4_method_11_code 11 = .ok (.iload_n 1, 1) := by decide +kernel
theorem d7_12 : decode prog_4_method_11_code 12 = .ok (.aload_n 2, 1) := by decide +kernel
theorem d7_13 : decode prog_4_method_11_code 13 = .ok (.aastore, 1) := by decide +kernel
theorem d7_14 : decode prog_4_method_11_code 14 = .ok (.goto 33, 3) := by decide +kernel
theorem d7_17 : decode prog_4_method_11_code 17 = .ok (.iload_n 1, 1) := by decide +kernel
theorem d7_18 : decode prog_4_method_11_code 18 = .ok (.ifCond .ne 11, 3) := by decide +kernel
theorem d7_21 : decode prog_4_method_11_code 21 = .ok (.aload_n 0, 1) := by decide +kernel
theorem d7_22 : decode prog_4_method_11_code 22 = .ok (.aload_n 2, 1) := by decide +kernel
theorem d7_23 : decode prog_4_method_11_code 23 = .ok (.putfield 19, 3) := by decide +kernel
theorem d7_26 : decode prog_4_method_11_code 26 = .ok (.goto 21, 3) := by decide +kernel
theorem d7_29 : decode prog_4_method_11_code 29 = .ok (.iload_n 1, 1) := by decide +kernel
theorem d7_30 : decode prog_4_method_11_code 30 = .ok (.iconst 1, 1) := by decide +kernel
theorem d7_31 : decode prog_4_method_11_code 31 = .ok (.if_icmp .ne 11, 3) := by decide +kernel
theorem d7_34 : decode prog_4_method_11_code 34 = .ok (.aload_n 0, 1) := by decide +kernel
theorem d7_35 : decode prog_4_method_11_code 35 = .ok (.aload_n 2, 1) := by decide +kernel
theorem d7_36 : decode prog_4_method_11_code 36 = .ok (.putfield 23, 3) := by decide +kernel
theorem d7_39 : decode prog_4_method_11_code 39 = .ok (.goto 8, 3) := by decide +kernel
theorem d7_42 : decode prog_4_method_11_code 42 = .ok (.aload_n 0, 1) := by decide +kernel
theorem d7_43 : decode prog_4_method_11_code 43 = .ok (.aload_n 2, 1) := by decide +kernel
theorem d7_44 : decode prog_4_method_11_code 44 = .ok (.putfield 26, 3) := by decide +kernel
theorem d7_47 : decode prog_4_method_11_code 47 = .ok (.return_, 1) := by decide +kernel
theorem pd_ILjava_lang_Object_to_V : parseMethodDescriptor "(ILjava/lang/Object;)V" = some ⟨[.int, (.object "java/lang/Object")], none⟩ := by decide +kernel
theorem d8_0 : decode prog_4_method_9_code 0 = .ok (.aload_n 0, 1) := by decide +kernel
theorem d8_1 : decode prog_4_method_9_code 1 = .ok (.dup, 1) := by decide +kernel
theorem d8_2 : decode prog_4_method_9_code 2 = .ok (.getfield 46, 3) := by decide +kernel
theorem d8_5 : decode prog_4_method_9_code 5 = .ok (.iconst 1, 1) := by decide +kernel
theorem d8_6 : decode prog_4_method_9_code 6 = .ok (.iadd, 1) := by decide +kernel
theorem d8_7 : decode prog_4_method_9_code 7 = .ok (.putfield 46, 3) := by decide +kernel
theorem d8_10 : decode prog_4_method_9_code 10 = .ok (.aload_n 0, 1) := by decide +kernel
theorem d8_11 : decode prog_4_method_9_code 11 = .ok (.aconst_null, 1) := by decide +kernel
theorem d8_12 : decode prog_4_method_9_code 12 = .ok (.putfield 19, 3) := by decide +kernel
theorem d8_15 : decode prog_4_method_9_code 15 = .ok (.aload_n 0, 1) := by decide +kernel
theorem d8_16 : decode prog_4_method_9_code 16 = .ok (.aconst_null, 1) := by decide +kernel
theorem d8_17 : decode prog_4_method_9_code 17 = .ok (.putfield 23, 3) := by decide +kernel
theorem d8_20 : decode prog_4_method_9_code 20 = .ok (.aload_n 0, 1) := by decide +kernel
theorem d8_21 : decode prog_4_method_9_code 21 = .ok (.aconst_null, 1) := by decide +kernel
theorem d8_22 : decode prog_4_method_9_code 22 = .ok (.putfield 26, 3) := by decide +kernel
theorem d8_25 : decode prog_4_method_9_code 25 = .ok (.aload_n 0, 1) := by decide +kernel
theorem d8_26 : decode prog_4_method_9_code 26 = .ok (.aconst_null, 1) := by decide +kernel
theorem d8_27 : decode prog_4_method_9_code 27 = .ok (.putfield 11, 3) := by decide +kernel
theorem d8_30 : decode prog_4_method_9_code 30 = .ok (.aload_n 0, 1) := by decide +kernel
theorem d8_31 : decode prog_4_method_9_code 31 = .ok (.iconst 0, 1) := by decide +kernel
theorem d8_32 : decode prog_4_method_9_code 32 = .ok (.putfield 15, 3) := by decide +kernel
theorem d8_35 : decode prog_4_method_9_code 35 = .ok (.return_, 1) := by decide +kernel
theorem d9_0 : decode prog_4_method_3_code 0 = .ok (.aload_n 0, 1) := by decide +kernel
theorem d9_1 : decode prog_4_method_3_code 1 = .ok (.getfield 15, 3) := by decide +kernel
theorem d9_4 : decode prog_4_method_3_code 4 = .ok (.ireturn, 1) := by decide +kernel
theorem pd__to_I : parseMethodDescriptor "()I" = some ⟨[], some .int⟩ := by decide +kernel
theorem d10_0 : decode prog_4_method_4_code 0 = .ok (.iload_n 1, 1) := by decide +kernel
theorem d10_1 : decode prog_4_method_4_code 1 = .ok (.aload_n 0, 1) := by decide +kernel
theorem d10_2 : decode prog_4_method_4_code 2 = .ok (.getfield 15, 3) := by decide +kernel
theorem d10_5 : decode prog_4_method_4_code 5 = .ok (.invokestatic 29, 3) := by decide +kernel
theorem d10_8 : decode prog_4_method_4_code 8 = .ok (.pop, 1) := by decide +kernel
theorem d10_9 : decode prog_4_method_4_code 9 = .ok (.aload_n 0, 1) := by decide +kernel
theorem d10_10 : decode prog_4_method_4_code 10 = .ok (.getfield 11, 3) := by decide +kernel
theorem d10_13 : decode prog_4_method_4_code 13 = .ok (.ifnull 12, 3) := by decide +kernel
theorem d10_16 : decode prog_4_method_4_code 16 = .ok (.aload_n 0, 1) := by decide +kernel
theorem d10_17 : decode prog_4_method_4_code 17 = .ok (.getfield 11, 3) := by decide +kernel
theorem d10_20 : decode prog_4_method_4_code 20 = .ok (.iload_n 1, 1) := by decide +kernel
theorem d10_21 : decode prog_4_method_4_code 21 = .ok (.aaload, 1) := by decide +kernel
theorem d10_22 : decode prog_4_method_4_code 22 = .ok (.goto 8, 3) := by decide +kernel
theorem d10_25 : decode prog_4_method_4_code 25 = .ok (.aload_n 0, 1) := by decide +kernel
theorem d10_26 : decode prog_4_method_4_code 26 = .ok (.iload_n 1, 1) := by decide +kernel
theorem d10_27 : decode prog_4_method_4_code 27 = .ok (.invokevirtual 35, 3) := by decide +kernel
theorem d10_30 : decode prog_4_method_4_code 30 = .ok (.areturn, 1) := by decide +kernel
theorem pd_I_to_Ljava_lang_Object : parseMethodDescriptor "(I)Ljava/lang/Object;" = some ⟨[.int], some (.object "java/lang/Object")⟩ := by decide +kernel
theorem d11_0 : decode jdk_31_method_17_code 0 = .ok (.iload_n 0, 1) := by decide +kernel
theorem d11_1 : decode jdk_31_method_17_code 1 = .ok (.iload_n 1, 1) := by decide +kernel
theorem d11_2 : decode jdk_31_method_17_code 2 = .ok (.aconst_null, 1) := by decide +kernel
theorem d11_3 : decode jdk_31_method_17_code 3 = .ok (.invokestatic 105, 3) := by decide +kernel
theorem d11_6 : decode jdk_31_method_17_code 6 = .ok (.ireturn, 1) := by decide +kernel
theorem pn_java_util_Objects : plainName "java/util/Objects" = true := by first | (simp [plainName, overriddenIn]; done) | decide +kernel
theorem pd_II_to_I : parseMethodDescriptor "(II)I" = some ⟨[.int, .int], some .int⟩ := by decide +kernel
theorem d12_0 : decode jdk_41_method_11_code 0 = .ok (.iload_n 0, 1) := by decide +kernel
theorem d12_1 : decode jdk_41_method_11_code 1 = .ok (.ifCond .lt 8, 3) := by decide +kernel
theorem d12_4 : decode jdk_41_method_11_code 4 = .ok (.iload_n 0, 1) := by decide +kernel
theorem d12_5 : decode jdk_41_method_11_code 5 = .ok (.iload_n 1, 1) := by decide +kernel
theorem d12_6 : decode jdk_41_method_11_code 6 = .ok (.if_icmp .lt 10, 3) := by decide +kernel
theorem d12_9 : decode jdk_41_method_11_code 9 = .ok (.aload_n 2, 1) := by decide +kernel
theorem d12_10 : decode jdk_41_method_11_code 10 = .ok (.iload_n 0, 1) := by decide +kernel
theorem d12_11 : decode jdk_41_method_11_code 11 = .ok (.iload_n 1, 1) := by decide +kernel
theorem d12_12 : decode jdk_41_method_11_code 12 = .ok (.invokestatic 95, 3) := by decide +kernel
theorem d12_15 : decode jdk_41_method_11_code 15 = .ok (.athrow, 1) := by decide +kernel
theorem d12_16 : decode jdk_41_method_11_code 16 = .ok (.iload_n 0, 1) := by decide +kernel
theorem d12_17 : decode jdk_41_method_11_code 17 = .ok (.ireturn, 1) := by decide +kernel
theorem pn_jdk_internal_util_Preconditions : plainName "jdk/internal/util/Preconditions" = true := by first | (simp [plainName, overriddenIn]; done) | decide +kernel
theorem pd_IILjava_util_function_BiFunction_to_I : parseMethodDescriptor "(IILjava/util/function/BiFunction;)I" = some ⟨[.int, .int, (.object "java/util/function/BiFunction")], some .int⟩ := by decide +kernel
theorem d13_0 : decode prog_4_method_10_code 0 = .ok (.iload_n 1, 1) := by decide +kernel
theorem d13_1 : decode prog_4_method_10_code 1 = .ok (.lookupswitch 43 #[(0, 27), (1, 35)], 27) := by decide +kernel
theorem d13_28 : decode prog_4_method_10_code 28 = .ok (.aload_n 0, 1) := by decide +kernel
theorem d13_29 : decode prog_4_method_10_code 29 = .ok (.getfield 19, 3) := by decide +kernel
theorem d13_32 : decode prog_4_method_10_code 32 = .ok (.astore_n 2, 1) := by decide +kernel
theorem d13_33 : decode prog_4_method_10_code 33 = .ok (.goto 16, 3) := by decide +kernel
theorem d13_36 : decode prog_4_method_10_code 36 = .ok (.aload_n 0, 1) := by decide +kernel
theorem d13_37 : decode prog_4_method_10_code 37 = .ok (.getfield 23, 3) := by decide +kernel
theorem d13_40 : decode prog_4_method_10_code 40 = .ok (.astore_n 2, 1) := by decide +kernel
theorem d13_41 : decode prog_4_method_10_code 41 = .ok (.goto 8, 3) := by decide +kernel
theorem d13_44 : decode prog_4_method_10_code 44 = .ok (.aload_n 0, 1) := by decide +kernel
theorem d13_45 : decode prog_4_method_10_code 45 = .ok (.getfield 26, 3) := by decide +kernel
theorem d13_48 : decode prog_4_method_10_code 48 = .ok (.astore_n 2, 1) := by decide +kernel
theorem d13_49 : decode prog_4_method_10_code 49 = .ok (.aload_n 2, 1) := by decide +kernel
theorem d13_50 : decode prog_4_method_10_code 50 = .ok (.areturn, 1) := by decide +kernel
theorem d14_0 : decode prog_4_method_12_code 0 = .ok (.aload_n 0, 1) := by decide +kernel
theorem d14_1 : decode prog_4_method_12_code 1 = .ok (.getfield 11, 3) := by decide +kernel
theorem d14_4 : decode prog_4_method_12_code 4 = .ok (.ifnonnull 64, 3) := by decide +kernel
theorem d14_7 : decode prog_4_method_12_code 7 = .ok (.aload_n 0, 1) := by decide +kernel
theorem d14_8 : decode prog_4_method_12_code 8 = .ok (.bipush 10, 2) := by decide +kernel
theorem d14_10 : decode prog_4_method_12_code 10 = .ok (.iload_n 1, 1) := by decide +kernel
theorem d14_11 : decode prog_4_method_12_code 11 = .ok (.invokestatic 59, 3) := by decide +kernel
theorem d14_14 : decode prog_4_method_12_code 14 = .ok (.anewarray 9, 3) := by decide +kernel
theorem d14_17 : decode prog_4_method_12_code 17 = .ok (.putfield 11, 3) := by decide +kernel
theorem d14_20 : decode prog_4_method_12_code 20 = .ok (.aload_n 0, 1) := by decide +kernel
theorem d14_21 : decode prog_4_method_12_code 21 = .ok (.getfield 11, 3) := by decide +kernel
theorem d14_24 : decode prog_4_method_12_code 24 = .ok (.iconst 0, 1) := by decide +kernel
theorem d14_25 : decode prog_4_method_12_code 25 = .ok (.aload_n 0, 1) := by decide +kernel
theorem d14_26 : decode prog_4_method_12_code 26 = .ok (.getfield 19, 3) := by decide +kernel
theorem d14_29 : decode prog_4_method_12_code 29 = .ok (.aastore, 1) := by decide +kernel
theorem d14_30 : decode prog_4_method_12_code 30 = .ok (.aload_n 0, 1) := by decide +kernel
theorem d14_31 : decode prog_4_method_12_code 31 = .ok (.getfield 11, 3) := by decide +kernel
theorem d14_34 : decode prog_4_method_12_code 34 = .ok (.iconst 1, 1) := by decide +kernel
theorem d14_35 : decode prog_4_method_12_code 35 = .ok (.aload_n 0, 1) := by decide +kernel
theorem d14_36 : decode prog_4_method_12_code 36 = .ok (.getfield 23, 3) := by decide +kernel
theorem d14_39 : decode prog_4_method_12_code 39 = .ok (.aastore, 1) := by decide +kernel
theorem d14_40 : decode prog_4_method_12_code 40 = .ok (.aload_n 0, 1) := by decide +kernel
theorem d14_41 : decode prog_4_method_12_code 41 = .ok (.getfield 11, 3) := by decide +kernel
theorem d14_44 : decode prog_4_method_12_code 44 = .ok (.iconst 2, 1) := by decide +kernel
theorem d14_45 : decode prog_4_method_12_code 45 = .ok (.aload_n 0, 1) := by decide +kernel
theorem d14_46 : decode prog_4_method_12_code 46 = .ok (.getfield 26, 3) := by decide +kernel
theorem d14_49 : decode prog_4_method_12_code 49 = .ok (.aastore, 1) := by decide +kernel
theorem d14_50 : decode prog_4_method_12_code 50 = .ok (.aload_n 0, 1) := by decide +kernel
theorem d14_51 : decode prog_4_method_12_code 51 = .ok (.aconst_null, 1) := by decide +kernel
theorem d14_52 : decode prog_4_method_12_code 52 = .ok (.putfield 19, 3) := by decide +kernel
theorem d14_55 : decode prog_4_method_12_code 55 = .ok (.aload_n 0, 1) := by decide +kernel
theorem d14_56 : decode prog_4_method_12_code 56 = .ok (.aconst_null, 1) := by decide +kernel
theorem d14_57 : decode prog_4_method_12_code 57 = .ok (.putfield 23, 3) := by decide +kernel
theorem d14_60 : decode prog_4_method_12_code 60 = .ok (.aload_n 0, 1) := by decide +kernel
theorem d14_61 : decode prog_4_method_12_code 61 = .ok (.aconst_null, 1) := by decide +kernel
theorem d14_62 : decode prog_4_method_12_code 62 = .ok (.putfield 26, 3) := by decide +kernel
theorem d14_65 : decode prog_4_method_12_code 65 = .ok (.goto 40, 3) := by decide +kernel
theorem d14_68 : decode prog_4_method_12_code 68 = .ok (.iload_n 1, 1) := by decide +kernel
theorem d14_69 : decode prog_4_method_12_code 69 = .ok (.aload_n 0, 1) := by decide +kernel
theorem d14_70 : decode prog_4_method_12_code 70 = .ok (.getfield 11, 3) := by decide +kernel
theorem d14_73 : decode prog_4_method_12_code 73 = .ok (.arraylength, 1) := by decide +kernel
theorem d14_74 : decode prog_4_method_12_code 74 = .ok (.if_icmp .le 31, 3) := by decide +kernel
theorem d14_77 : decode prog_4_method_12_code 77 = .ok (.aload_n 0, 1) := by decide +kernel
theorem d14_78 : decode prog_4_method_12_code 78 = .ok (.aload_n 0, 1) := by decide +kernel
theorem d14_79 : decode prog_4_method_12_code 79 = .ok (.getfield 11, 3) := by decide +kernel
theorem d14_82 : decode prog_4_method_12_code 82 = .ok (.iload_n 1, 1) := by decide +kernel
theorem d14_83 : decode prog_4_method_12_code 83 = .ok (.aload_n 0, 1) := by decide +kernel
theorem d14_84 : decode prog_4_method_12_code 84 = .ok (.getfield 11, 3) := by decide +kernel
theorem d14_87 : decode prog_4_method_12_code 87 = .ok (.arraylength, 1) := by decide +kernel
theorem d14_88 : decode prog_4_method_12_code 88 = .ok (.aload_n 0, 1) := by decide +kernel
theorem d14_89 : decode prog_4_method_12_code 89 = .ok (.getfield 11, 3) := by decide +kernel
theorem d14_92 : decode prog_4_method_12_code 92 = .ok (.arraylength, 1) := by decide +kernel
theorem d14_93 : decode prog_4_method_12_code 93 = .ok (.iconst 1, 1) := by decide +kernel
theorem d14_94 : decode prog_4_method_12_code 94 = .ok (.ishr, 1) := by decide +kernel
theorem d14_95 : decode prog_4_method_12_code 95 = .ok (.iadd, 1) := by decide +kernel
theorem d14_96 : decode prog_4_method_12_code 96 = .ok (.invokestatic 59, 3) := by decide +kernel
theorem d14_99 : decode prog_4_method_12_code 99 = .ok (.invokestatic 64, 3) := by decide +kernel
theorem d14_102 : decode prog_4_method_12_code 102 = .ok (.putfield 11, 3) := by decide +kernel
theorem d14_105 : decode prog_4_method_12_code 105 = .ok (.return_, 1) := by decide +kernel
theorem d15_0 : decode jdk_29_method_65_code 0 = .ok (.iload_n 0, 1) := by decide +kernel
theorem d15_1 : decode jdk_29_method_65_code 1 = .ok (.iload_n 1, 1) := by decide +kernel
theorem d15_2 : decode jdk_29_method_65_code 2 = .ok (.if_icmp .lt 7, 3) := by decide +kernel
theorem d15_5 : decode jdk_29_method_65_code 5 = .ok (.iload_n 0, 1) := by decide +kernel
theorem d15_6 : decode jdk_29_method_65_code 6 = .ok (.goto 4, 3) := by decide +kernel
theorem d15_9 : decode jdk_29_method_65_code 9 = .ok (.iload_n 1, 1) := by decide +kernel
theorem d15_10 : decode jdk_29_method_65_code 10 = .ok (.ireturn, 1) := by decide +kernel
theorem d16_0 : decode jdk_33_method_23_code 0 = .ok (.aload_n 0, 1) := by decide +kernel
theorem d16_1 : decode jdk_33_method_23_code 1 = .ok (.invokespecial 202, 3) := by decide +kernel
theorem d16_4 : decode jdk_33_method_23_code 4 = .ok (.aload_n 0, 1) := by decide +kernel
theorem d16_5 : decode jdk_33_method_23_code 5 = .ok (.iload_n 1, 1) := by decide +kernel
theorem d16_6 : decode jdk_33_method_23_code 6 = .ok (.putfield 205, 3) := by decide +kernel
theorem d16_9 : decode jdk_33_method_23_code 9 = .ok (.return_, 1) := by decide +kernel
theorem d17_0 : decode jdk_18_method_1_code 0 = .ok (.aload_n 0, 1) := by decide +kernel
theorem d17_1 : decode jdk_18_method_1_code 1 = .ok (.invokespecial 1, 3) := by decide +kernel
theorem d17_4 : decode jdk_18_method_1_code 4 = .ok (.return_, 1) := by decide +kernel
theorem pn_java_lang_Number : plainName "java/lang/Number" = true := by first | (simp [plainName, overriddenIn]; done) | decide +kernel
theorem pn_com_example_wiretagg_wiretagg_CompactListClearPinLaw : plainName "com/example/wiretagg/wiretagg/CompactListClearPinLaw" = true := by first | (simp [plainName, overriddenIn]; done) | decide +kernel
theorem pd_IIIII_to_Z : parseMethodDescriptor "(IIIII)Z" = some ⟨[.int, .int, .int, .int, .int], some .boolean⟩ := by decide +kernel
section OwnRefs
variable {K : OwnK} {Z : State} {own name : String} {code : ByteArray} {maxL : Nat} {ret : Option FieldType} {R : Room} {n0 : Nat} {Post : Option Value → Heap → Prop} {h : Heap} {cells slots pc : Nat} {Ls Ls' : List Slot} {st rest : List Value} {a0 : Array Value}
/-- the array of objects at a holds these values -/
def Ao (Z : State) (h : Heap) (a : Addr) (C : String) (vs : List Value) : Prop := ∃ c : Cell, Arr Z h a c (.object C) ∧ Ovr Z c.cls C ∧ c.slots = vs.toArray
theorem Ao.lt {a : Addr} {C : String} {vs : List Value} (A : Ao Z h a C vs) : a < h.size := by obtain ⟨c, A, -⟩ := A; exact A.lt
theorem Ao.keep {h' : Heap} {a : Addr} {C : String} {vs : List Value} {ws : List Addr} (A : Ao Z h a C vs) (K : Keep h h' ws) (q : a ∉ ws) : Ao Z h' a C vs := by
  obtain ⟨c, A, r⟩ := A; exact ⟨c, ⟨K.2.1 a c A.1 q, A.2⟩, r⟩
theorem Ao.ext {h' : Heap} {a : Addr} {C : String} {vs : List Value} (A : Ao Z h a C vs) (E : Ext h h') : Ao Z h' a C vs := by
  obtain ⟨c, A, r⟩ := A; exact ⟨c, A.ext E, r⟩
theorem w_anew (pc' : Nat) (cap : Nat) (k : Nat) {Cn : String} {i : Nat} (C : Cx K Z own name code maxL ret R n0 Post) (hn0 : n0 ≤ h.size) {n : Int32} (hd : decode code pc = .ok (.anewarray i, 3)) (hp : pc + 3 = pc') (w1 : (Cond.classLink own i Cn).before a0 Z = true) (w2 : (Cond.arrayOver (.object Cn)).before a0 Z = true) (hk : n.toInt = (k : Int)) (hcap : k ≤ cap) (hb0 : cap * 8 ≤ 536870912) (hc : cells + 1 ≤ R.cells) (hs : slots + cap ≤ R.slots)
    (g : ∀ h' a, Ext h h' → n0 ≤ a → h.size ≤ a → Ao Z h' a Cn (List.replicate k .null) → n0 ≤ h'.size → Go K h' (cells + 1) (slots + cap) pc' Ls (.ref a :: st)) : Go K h cells slots pc Ls (.int n :: st) := by
  obtain ⟨hx, hby, hml, hown, hnm, hret, hlk, hZ, hR, hn, hPost⟩ := C
  subst hp
  intro T locs X eT N
  have hnn : ¬ n < 0 := by rw [Int32.lt_iff_toInt_lt, hk]; simp only [Int32.reduceToInt]; omega
  have hkn : n.toNatClampNeg = k := by rw [own_clamp, hk]; simp
  obtain ⟨T', h', cA, X', e', E, A, O, st'⟩ := newR X hx hZ hown w1 w2 eT (g := mkF K.m pc Ls.toArray (.int n :: st)) rfl (hb hby hd) rfl hnn (cap := cap) (by omega) hb0 (by rw [hR]; exact hc) (by rw [hR]; exact hs)
  refine OwnDone.of (st' ·) (g h' h.size E hn0 (Nat.le_refl _) ⟨_, A, O, ?_⟩ (Nat.le_trans hn0 E.1) T' locs X' e' N)
  rw [own_newA, hkn]
  simp [own_dnull]
theorem w_alen (pc' : Nat) (z : Int32) (C : Cx K Z own name code maxL ret R n0 Post) {a : Addr} {Cn : String} {vs : List Value} (A : Ao Z h a Cn vs) (hd : decode code pc = .ok (.arraylength, 1)) (hp : pc + 1 = pc') (hz : vs.length.toInt32 = z) (g : Go K h cells slots pc' Ls (.int z :: st)) : Go K h cells slots pc Ls (.ref a :: st) := by
  obtain ⟨c, A, -, hc⟩ := A
  have hn : c.slots.size = vs.length := by rw [hc]; simp
  subst hp hz
  intro T locs X eT N
  refine OwnDone.of (fun t q => X.arraylength C.1 (by rw [eT]; exact A.1) (State.isArrayOf_alike C.2.2.2.2.2.2.2.1.alike A.2.1) (g := mkF K.m pc Ls.toArray (.ref a :: st)) rfl rfl (hb C.2.1 hd) t (by rw [hn]; exact q)) (g T locs X eT N)
theorem w_aaloadC (pc' : Nat) (v : Value) (C : Cx K Z own name code maxL ret R n0 Post) {a : Addr} {Cn : String} {c : Cell} {j : Int32} (A : Arr Z h a c (.object Cn)) (hd : decode code pc = .ok (.aaload, 1)) (hp : pc + 1 = pc') (hj : ¬ (j < 0 ∨ c.slots.size ≤ j.toNatClampNeg)) (hv : c.slots[j.toNatClampNeg]? = some v) (g : Go K h cells slots pc' Ls (v :: st)) : Go K h cells slots pc Ls (.int j :: .ref a :: st) := by
  subst hp
  intro T locs X eT N
  exact OwnDone.of (fun t q => X.aaload C.1 (by rw [eT]; exact A.1) (State.isArrayOf_alike C.2.2.2.2.2.2.2.1.alike A.2.1) rfl A.2.2 hj hv (g := mkF K.m pc Ls.toArray (.int j :: .ref a :: st)) rfl rfl (hb C.2.1 hd) t q) (g T locs X eT N)
theorem w_aaload (pc' : Nat) (i : Nat) (v : Value) (C : Cx K Z own name code maxL ret R n0 Post) {a : Addr} {Cn : String} {vs : List Value} {j : Int32} (A : Ao Z h a Cn vs) (hd : decode code pc = .ok (.aaload, 1)) (hp : pc + 1 = pc') (hj : j.toInt = (i : Int)) (hv : vs[i]? = some v) (g : Go K h cells slots pc' Ls (v :: st)) : Go K h cells slots pc Ls (.int j :: .ref a :: st) := by
  obtain ⟨c, A, -, hc⟩ := A
  have hi : i < vs.length := (List.getElem?_eq_some_iff.mp hv).1
  have hn : c.slots.size = vs.length := by rw [hc]; simp
  obtain ⟨q1, q2⟩ := own_idx (n := c.slots.size) hj (by rw [hn]; exact hi)
  exact w_aaloadC pc' v C A hd hp q1 (by rw [hc, q2]; simpa using hv) g
theorem w_aastore (pc' : Nat) (i : Nat) (C : Cx K Z own name code maxL ret R n0 Post) {a : Addr} {Cn : String} {vs : List Value} {j : Int32} {v : Value} (A : Ao Z h a Cn vs) (ha : n0 ≤ a) (hd : decode code pc = .ok (.aastore, 1)) (hp : pc + 1 = pc') (hj : j.toInt = (i : Int)) (hi : i < vs.length) (hv : v = .null ∨ ∃ y, v = .ref y ∧ Ins Z h y Cn true)
    (g : ∀ h', Keep h h' [a] → Ao Z h' a Cn (vs.set i v) → Go K h' cells slots pc' Ls st) : Go K h cells slots pc Ls (v :: .int j :: .ref a :: st) := by
  obtain ⟨c, A, O, hc⟩ := A
  have hn : c.slots.size = vs.length := by rw [hc]; simp
  obtain ⟨q1, q2⟩ := own_idx (n := c.slots.size) hj (by rw [hn]; exact hi)
  have S : Sto Z h a v := by
    rcases hv with rfl | ⟨y, rfl, I⟩
    · exact Or.inl rfl
    · exact Sto.of A O I
  subst hp
  intro T locs X eT N
  obtain ⟨T', h', X', e', W, st'⟩ := stR X C.1 C.2.2.2.2.2.2.2.1 eT A (j := j) (v := v) q1 rfl S (g := mkF K.m pc Ls.toArray (v :: .int j :: .ref a :: st)) rfl rfl (hb C.2.1 hd)
  rw [q2] at X' W
  refine OwnDone.of (st' ·) (g h' (Keep.of_wr W) ⟨_, A.same W, O, ?_⟩ T' _ X' e' (Fr.snoc X' N (by rw [C.2.2.2.2.2.2.2.2.2.1]; exact ha)))
  rw [own_setSlot, hc]; simp
theorem w_getS (pc' : Nat) {R0 O n d host : String} {i : Nat} (C : Cx K Z own name code maxL ret R n0 Post) {v : Value} (F : Sta Z h O n d v) (hd : decode code pc = .ok (.getstatic i, 3)) (hp : pc + 3 = pc') (w : (Cond.fieldLink own i R0 n d).before a0 Z = true ∨ (Cond.fieldLinkNest own i R0 n d host).before a0 Z = true) (via : Via Z R0 O n d) (g : Go K h cells slots pc' Ls (v :: st)) : Go K h cells slots pc Ls st := by
  subst hp
  intro T locs X eT N
  obtain ⟨T', X', e', st'⟩ := getS2 X C.1 C.2.2.2.2.2.2.2.1 C.2.2.2.1 w via eT F (g := mkF K.m pc Ls.toArray st) rfl (hb C.2.1 hd)
  exact OwnDone.of (st' ·) (g T' locs X' e' N)
theorem w_acmpEq (pc' : Nat) (C : Cx K Z own name code maxL ret R n0 Post) {a : Addr} {o : Int} (hd : decode code pc = .ok (.if_acmp .ne o, 3)) (hp : pc + 3 = pc') (g : Go K h cells slots pc' Ls st) : Go K h cells slots pc Ls (.ref a :: .ref a :: st) := by
  subst hp; exact g.step fun T locs X t k => XS.acmpNo X.here C.1 rfl (hb C.2.1 hd) rfl (by simp [if_acmp.holds]) k
theorem w_nullY (pc' : Nat) (C : Cx K Z own name code maxL ret R n0 Post) {o : Int} (hd : decode code pc = .ok (.ifnull o, 3)) (hp : (pc : Int) + o = (pc' : Nat)) (g : Go K h cells slots pc' Ls st) : Go K h cells slots pc Ls (.null :: st) :=
  g.step fun T locs X t k => XS.ifnullYes X.here C.1 rfl (pc0 := pc) (pc' := pc') rfl (hb C.2.1 hd) rfl (by omega) (by omega) k
theorem w_nonnullN (pc' : Nat) (C : Cx K Z own name code maxL ret R n0 Post) {o : Int} (hd : decode code pc = .ok (.ifnonnull o, 3)) (hp : pc + 3 = pc') (g : Go K h cells slots pc' Ls st) : Go K h cells slots pc Ls (.null :: st) := by
  subst hp; exact g.step fun T locs X t k => XS.ifnonnullNo X.here C.1 rfl (hb C.2.1 hd) rfl k
theorem w_lswHit (pc' : Nat) (C : Cx K Z own name code maxL ret R n0 Post) {k : Int32} {df : Int} {ps : Array (Int × Int)} {len : Nat} {a off : Int} (hd : decode code pc = .ok (.lookupswitch df ps, len)) (hsr : (ps.toList.zip (ps.toList.drop 1)).all (fun (a, next) => a.1 < next.1) = true) (hf : ps.find? (·.1 == k.toInt) = some (a, off)) (hp : (pc : Int) + off = (pc' : Nat)) (g : Go K h cells slots pc' Ls st) : Go K h cells slots pc Ls (.int k :: st) :=
  g.step fun T locs X t q => by
    have e : ((pc : Int) + off).toNat = pc' := by omega
    refine X.lookupswitchHit C.1 (g := mkF K.m pc Ls.toArray (.int k :: st)) rfl rfl (hb C.2.1 hd) hsr hf (by show (0 : Int) ≤ (pc : Int) + off; omega) t ?_
    show Steps _ _ _ (T.setTop (mkF K.m ((pc : Int) + off).toNat Ls.toArray st)) t
    rw [e]; exact q
theorem w_lswMiss (pc' : Nat) (C : Cx K Z own name code maxL ret R n0 Post) {k : Int32} {df : Int} {ps : Array (Int × Int)} {len : Nat} (hd : decode code pc = .ok (.lookupswitch df ps, len)) (hsr : (ps.toList.zip (ps.toList.drop 1)).all (fun (a, next) => a.1 < next.1) = true) (hf : ps.find? (·.1 == k.toInt) = none) (hp : (pc : Int) + df = (pc' : Nat)) (g : Go K h cells slots pc' Ls st) : Go K h cells slots pc Ls (.int k :: st) :=
  g.step fun T locs X t q => by
    have e : ((pc : Int) + df).toNat = pc' := by omega
    refine X.lookupswitchMiss C.1 (g := mkF K.m pc Ls.toArray (.int k :: st)) rfl rfl (hb C.2.1 hd) hsr hf (by show (0 : Int) ≤ (pc : Int) + df; omega) t ?_
    show Steps _ _ _ (T.setTop (mkF K.m ((pc : Int) + df).toNat Ls.toArray st)) t
    rw [e]; exact q
end OwnRefs
theorem own_statics {a0 : Array Value} {Z : State} (h1 : (Cond.initializedFor "java/lang/Integer$IntegerCache" "high" "I").before a0 Z = true) (h2 : (Cond.laysStatic "java/lang/Integer$IntegerCache" "cache" "[Ljava/lang/Integer;").before a0 Z = true) (hb3 : (Cond.eq (Term.static "java/lang/Integer$IntegerCache" "high" "I") (Term.int 127)).before a0 Z = true) (hb4 : (Cond.arrayOf (Term.static "java/lang/Integer$IntegerCache" "cache" "[Ljava/lang/Integer;") (.object "java/lang/Integer")).before a0 Z = true) (h6 : (Cond.eq (Term.length (Term.static "java/lang/Integer$IntegerCache" "cache" "[Ljava/lang/Integer;")) (Term.int 256)).before a0 Z = true)
    (h7 : (Cond.all (Term.static "java/lang/Integer$IntegerCache" "cache" "[Ljava/lang/Integer;") (Cond.and (Cond.exactly (Term.elem (Term.static "java/lang/Integer$IntegerCache" "cache" "[Ljava/lang/Integer;") (Term.index 0)) "java/lang/Integer") (Cond.eq (Term.field (Term.elem (Term.static "java/lang/Integer$IntegerCache" "cache" "[Ljava/lang/Integer;") (Term.index 0)) "java/lang/Integer" "value" "I") (Term.sub (Term.index 0) (Term.int 128))))).before a0 Z = true) (hi : (Cond.initialized "java/lang/Integer$IntegerCache").before a0 Z = true) :
    ∃ (ca : Addr) (cc : Cell) (vl : Int32 → Value), Sta Z Z.heap "java/lang/Integer$IntegerCache" "high" "I" (.int 127) ∧ Sta Z Z.heap "java/lang/Integer$IntegerCache" "cache" "[Ljava/lang/Integer;" (.ref ca) ∧ Bxs Z ca cc "java/lang/Integer" "I" 256 vl := by
  have SH := Sta.start (eqv_i (Term.int_eval 127) (Cond.before_iff.mp hb3)) (Or.inl h1)
  obtain ⟨ca, hca⟩ := arr_v (Cond.before_iff.mp hb4)
  have SC := Sta.start hca (Or.inr ⟨hi, h2⟩)
  obtain ⟨cc, A⟩ := Arr.start hca (Cond.before_iff.mp hb4)
  have hl := eqv_i (Term.int_eval 256) (Cond.before_iff.mp h6)
  have A2 := A.fin (Vm.Alike.refl _)
  have hsz : cc.slots.size < 2147483648 ∧ cc.slots.size.toInt32 = (256 : Int32) := by
    simp only [Term.eval, Option.bind_eq_bind] at hl
    have hca' : (Term.static "java/lang/Integer$IntegerCache" "cache" "[Ljava/lang/Integer;").eval a0 Z none [] Z = some (.ref ca) := hca
    simp only [Term.eval, Option.bind_eq_bind] at hca'
    rw [hca'] at hl
    simp only [Option.bind_some, A2] at hl
    split at hl
    · rename_i q
      simp at hl
      exact ⟨q, hl⟩
    · simp at hl
  refine ⟨ca, cc, fun j => .int (j - 128), SH, SC, Bxs.start (fun idx => hca) A hsz.1 hsz.2 (by decide) (Cond.before_iff.mp h7) (fun X j hj h => ?_)⟩
  refine eqv_i ?_ h
  simp only [Term.eval, Option.bind_eq_bind]
  simp
  exact (back32 hj).1
theorem own_keep_more {h0 h h' : Heap} {ws ws' : List Addr} (K : Keep h0 h ws) (K' : Keep h h' ws') : Keep h0 h' (ws ++ ws') := by
  refine Keep.trans ⟨K.1, fun x c q r => K.2.1 x c q fun g => r (List.mem_append.mpr (Or.inl g)), K.2.2⟩ K' fun x hx => Or.inl (List.mem_append.mpr (Or.inr hx))
/-- the list at s holds the boxes L -/
def own_cl (Z : State) (n0 : Nat) (h : Heap) (s : Addr) (L : List Addr) : Prop :=
  Exa Z h s "com/example/wiretagg/wiretagg/CompactList" ∧ ∃ (mc sz : Int32) (f1 f2 f3 sp : Value), Fld Z h s "java/util/AbstractList" "modCount" "I" (.int mc) ∧ Fld Z h s "com/example/wiretagg/wiretagg/CompactList" "first" "Ljava/lang/Object;" f1 ∧ Fld Z h s "com/example/wiretagg/wiretagg/CompactList" "second" "Ljava/lang/Object;" f2 ∧ Fld Z h s "com/example/wiretagg/wiretagg/CompactList" "third" "Ljava/lang/Object;" f3 ∧ Fld Z h s "com/example/wiretagg/wiretagg/CompactList" "spilled" "[Ljava/lang/Object;" sp ∧ Fld Z h s "com/example/wiretagg/wiretagg/CompactList" "size" "I" (.int sz) ∧ sz.toInt = ((L.length : Nat) : Int) ∧ L.length ≤ 4 ∧
    ((sp = .null ∧ L.length ≤ 3 ∧ (∀ a, L[0]? = some a → f1 = .ref a) ∧ (∀ a, L[1]? = some a → f2 = .ref a) ∧ (∀ a, L[2]? = some a → f3 = .ref a)) ∨
     (∃ (t : Addr) (vs : List Value), sp = .ref t ∧ Ao Z h t "java/lang/Object" vs ∧ n0 ≤ t ∧ 4 ≤ vs.length ∧ vs.length ≤ 15 ∧ ∀ (i : Nat) (a : Addr), L[i]? = some a → vs[i]? = some (Value.ref a)))
theorem own_cl_in {Z : State} {a0 : Array Value} {h : Heap} {y : Addr} (wc : (Cond.castable "java/lang/Integer" "java/lang/Object").before a0 Z = true) (E : Exa Z h y "java/lang/Integer") : ∃ z, (Value.ref y) = .ref z ∧ Ins Z h z "java/lang/Object" true := ⟨y, rfl, Ins.of_exa E wc⟩
set_option maxRecDepth 65536 in
set_option maxHeartbeats 40000000 in
theorem rm_ac (l : Launch) (Z : State) (a0 : Array Value) (hw : ∀ d ∈ tables_1, d.before a0 Z = true) (ws : List Jvm.Cond) (a1 : Addr) (h0 : Heap) (n0 : Nat) (hz : n0 ≤ h0.size) :
    OwnMet l (⟨"java/util/AbstractCollection", "<init>", "()V"⟩ : MethodName) jdk_22_method_1_code 1 none ws ({ frames := 1, cells := 0, slots := 0, locals := 12 } : Room) Z h0 n0 #[.ref a1] (fun v h => v = none ∧ h0 = h) := by
  refine OwnMet.of (own := "java/util/AbstractCollection") (name := "<init>") (desc := "()V") (Ls := [.val (.ref a1)]) (plainFor_of_name pn_java_util_AbstractCollection) (fun m => by first | (simp [entryFrame, mkF, argsToLocals, Value.category]; done) | rfl) ?_
  intro K hK C
  refine w_aloadN 1 C d3_0 rfl rfl rfl ?_
  refine w_initO 4 0 C d3_1 rfl (hw _ (List.mem_of_getElem? (i := 17) rfl)) (hw _ (List.mem_of_getElem? (i := 18) rfl)) (hw _ (List.mem_of_getElem? (i := 19) rfl)) rfl (by decide) (Nat.le_of_eq rfl) (by decide) ?_
  refine w_ret C d3_4 (by decide) (by decide) ?_
  exact ⟨rfl, rfl⟩
set_option maxRecDepth 65536 in
set_option maxHeartbeats 40000000 in
theorem rm_al (l : Launch) (Z : State) (a0 : Array Value) (hw : ∀ d ∈ tables_1, d.before a0 Z = true) (ws : List Jvm.Cond) (a1 : Addr) (u0 u1 u2 u3 u4 u5 : Value) (h0 : Heap) (n0 : Nat) (hz : n0 ≤ h0.size) (E_a1 : Exa Z h0 a1 "com/example/wiretagg/wiretagg/CompactList") (g_a1 : n0 ≤ a1) (F_modCount_a1 : Fld Z h0 a1 "java/util/AbstractList" "modCount" "I" u0) (F_first_a1 : Fld Z h0 a1 "com/example/wiretagg/wiretagg/CompactList" "first" "Ljava/lang/Object;" u1) (F_second_a1 : Fld Z h0 a1 "com/example/wiretagg/wiretagg/CompactList" "second" "Ljava/lang/Object;" u2) (F_third_a1 : Fld Z h0 a1 "com/example/wiretagg/wiretagg/CompactList" "third" "Ljava/lang/Object;" u3) (F_spilled_a1 : Fld Z h0 a1 "com/example/wiretagg/wiretagg/CompactList" "spilled" "[Ljava/lang/Object;" u4) (F_size_a1 : Fld Z h0 a1 "com/example/wiretagg/wiretagg/CompactList" "size" "I" u5) :
    OwnMet l (⟨"java/util/AbstractList", "<init>", "()V"⟩ : MethodName) jdk_39_method_1_code 1 none ws ({ frames := 2, cells := 0, slots := 0, locals := 24 } : Room) Z h0 n0 #[.ref a1] (fun v h => v = none ∧ Keep h0 h [a1] ∧ Exa Z h a1 "com/example/wiretagg/wiretagg/CompactList" ∧ Fld Z h a1 "java/util/AbstractList" "modCount" "I" (.int 0) ∧ Fld Z h a1 "com/example/wiretagg/wiretagg/CompactList" "first" "Ljava/lang/Object;" u1 ∧ Fld Z h a1 "com/example/wiretagg/wiretagg/CompactList" "second" "Ljava/lang/Object;" u2 ∧ Fld Z h a1 "com/example/wiretagg/wiretagg/CompactList" "third" "Ljava/lang/Object;" u3 ∧ Fld Z h a1 "com/example/wiretagg/wiretagg/CompactList" "spilled" "[Ljava/lang/Object;" u4 ∧ Fld Z h a1 "com/example/wiretagg/wiretagg/CompactList" "size" "I" u5) := by
  refine OwnMet.of (own := "java/util/AbstractList") (name := "<init>") (desc := "()V") (Ls := [.val (.ref a1)]) (plainFor_of_name pn_java_util_AbstractList) (fun m => by first | (simp [entryFrame, mkF, argsToLocals, Value.category]; done) | rfl) ?_
  intro K hK C
  have KK : Keep h0 h0 [a1] := Keep.refl _ _
  refine w_aloadN 1 C d2_0 rfl rfl rfl ?_
  refine w_callI (y := (⟨"java/util/AbstractCollection", "<init>", "()V"⟩ : MethodName)) (a := a1) 4 0 [] C d2_1 rfl rfl (hw _ (List.mem_of_getElem? (i := 11) rfl)) (hw _ (List.mem_of_getElem? (i := 12) rfl)) (hw _ (List.mem_of_getElem? (i := 15) rfl)) (hw _ (List.mem_of_getElem? (i := 16) rfl)) (by decide) (rm_ac K.l Z a0 hw [] a1 h0 n0 hz) pd__to_V rfl (rest := []) rfl rfl (Nat.le_of_eq rfl) (by decide) (by decide) (by decide) (by decide) ?_
  rintro v2 h1 ⟨rfl, rfl⟩
  show Go K h0 0 0 4 [.val (.ref a1)] []
  refine w_aloadN 5 C d2_4 rfl rfl rfl ?_
  refine w_iconst 6 (0 : Int32) C d2_5 rfl rfl ?_
  refine w_putF (host := "") (ty := .int) 9 C F_modCount_a1 E_a1 g_a1 d2_6 rfl (Or.inl (hw _ (List.mem_of_getElem? (i := 20) rfl))) Via.refl (Or.inl (hw _ (List.mem_of_getElem? (i := 21) rfl))) (hw _ (List.mem_of_getElem? (i := 1) rfl)) (by decide) rfl rfl ?_
  intro h3 K_h3 W_h3 Fn_ En_
  replace F_first_a1 := F_first_a1.other W_h3 (Or.inr (slot_ne (Or.inl (hw _ (List.mem_of_getElem? (i := 46) rfl))) (Or.inl (hw _ (List.mem_of_getElem? (i := 21) rfl))) (by decide) (t := (.object "java/lang/Object")) (t' := .int) (by decide) (by decide)))
  replace F_second_a1 := F_second_a1.other W_h3 (Or.inr (slot_ne (Or.inl (hw _ (List.mem_of_getElem? (i := 48) rfl))) (Or.inl (hw _ (List.mem_of_getElem? (i := 21) rfl))) (by decide) (t := (.object "java/lang/Object")) (t' := .int) (by decide) (by decide)))
  replace F_third_a1 := F_third_a1.other W_h3 (Or.inr (slot_ne (Or.inl (hw _ (List.mem_of_getElem? (i := 50) rfl))) (Or.inl (hw _ (List.mem_of_getElem? (i := 21) rfl))) (by decide) (t := (.object "java/lang/Object")) (t' := .int) (by decide) (by decide)))
  replace F_spilled_a1 := F_spilled_a1.other W_h3 (Or.inr (slot_ne (Or.inl (hw _ (List.mem_of_getElem? (i := 38) rfl))) (Or.inl (hw _ (List.mem_of_getElem? (i := 21) rfl))) (by decide) (t := (.array (.object "java/lang/Object"))) (t' := .int) (by decide) (by decide)))
  replace F_size_a1 := F_size_a1.other W_h3 (Or.inr (slot_ne (Or.inl (hw _ (List.mem_of_getElem? (i := 40) rfl))) (Or.inl (hw _ (List.mem_of_getElem? (i := 21) rfl))) (by decide) (t := .int) (t' := .int) (by decide) (by decide)))
  replace F_modCount_a1 := Fn_
  replace E_a1 := En_
  replace hz := Nat.le_trans hz K_h3.1
  replace KK := KK.trans K_h3 (allS (Or.inl (by simp)) all0)
  refine w_ret C d2_9 (by decide) (by decide) ?_
  exact ⟨rfl, KK, E_a1, F_modCount_a1, F_first_a1, F_second_a1, F_third_a1, F_spilled_a1, F_size_a1⟩
set_option maxRecDepth 65536 in
set_option maxHeartbeats 40000000 in
theorem rm_ini (l : Launch) (Z : State) (a0 : Array Value) (hw : ∀ d ∈ tables_1, d.before a0 Z = true) (ws : List Jvm.Cond) (a1 : Addr) (q : Int32) (h0 : Heap) (n0 : Nat) (hz : n0 ≤ h0.size) (E_a1 : Exa Z h0 a1 "com/example/wiretagg/wiretagg/CompactList") (g_a1 : n0 ≤ a1) (F_modCount_a1 : Fld Z h0 a1 "java/util/AbstractList" "modCount" "I" (.int 0)) (F_first_a1 : Fld Z h0 a1 "com/example/wiretagg/wiretagg/CompactList" "first" "Ljava/lang/Object;" .null) (F_second_a1 : Fld Z h0 a1 "com/example/wiretagg/wiretagg/CompactList" "second" "Ljava/lang/Object;" .null) (F_third_a1 : Fld Z h0 a1 "com/example/wiretagg/wiretagg/CompactList" "third" "Ljava/lang/Object;" .null) (F_spilled_a1 : Fld Z h0 a1 "com/example/wiretagg/wiretagg/CompactList" "spilled" "[Ljava/lang/Object;" .null) (F_size_a1 : Fld Z h0 a1 "com/example/wiretagg/wiretagg/CompactList" "size" "I" (.int 0)) (hq : q.toInt ≤ 15) :
    OwnMet l (⟨"com/example/wiretagg/wiretagg/CompactList", "<init>", "(I)V"⟩ : MethodName) prog_4_method_1_code 2 none ws ({ frames := 3, cells := 1, slots := 15, locals := 36 } : Room) Z h0 n0 #[.ref a1, .int q] (fun v h => v = none ∧ (∃ ws, Keep h0 h ws ∧ ∀ x ∈ ws, n0 ≤ x) ∧ own_cl Z n0 h a1 []) := by
  refine OwnMet.of (own := "com/example/wiretagg/wiretagg/CompactList") (name := "<init>") (desc := "(I)V") (Ls := [.val (.ref a1), .val (.int q)]) (plainFor_of_name pn_com_example_wiretagg_wiretagg_CompactList) (fun m => by first | (simp [entryFrame, mkF, argsToLocals, Value.category]; done) | rfl) ?_
  intro K hK C
  have KK : Keep h0 h0 [a1] := Keep.refl _ _
  refine w_aloadN 1 C d1_0 rfl rfl rfl ?_
  refine w_callI (y := (⟨"java/util/AbstractList", "<init>", "()V"⟩ : MethodName)) (a := a1) 4 0 [] C d1_1 rfl rfl (hw _ (List.mem_of_getElem? (i := 6) rfl)) (hw _ (List.mem_of_getElem? (i := 7) rfl)) (hw _ (List.mem_of_getElem? (i := 9) rfl)) (hw _ (List.mem_of_getElem? (i := 10) rfl)) (by decide) (rm_al K.l Z a0 hw [] a1 (.int 0) .null .null .null .null (.int 0) h0 n0 hz E_a1 g_a1 F_modCount_a1 F_first_a1 F_second_a1 F_third_a1 F_spilled_a1 F_size_a1) pd__to_V rfl (rest := []) rfl rfl (Nat.le_of_eq rfl) (by decide) (by decide) (by decide) (by decide) ?_
  rintro v1 hA ⟨rfl, K1, E_a1, F_modCount_a1, F_first_a1, F_second_a1, F_third_a1, F_spilled_a1, F_size_a1⟩
  show Go K hA 0 0 4 [.val (.ref a1), .val (.int q)] []
  replace hz := Nat.le_trans hz K1.1
  replace KK := KK.trans K1 (allS (Or.inl (by simp)) all0)
  refine w_iloadN 5 C d1_4 rfl rfl ?_
  refine w_iconst 6 (3 : Int32) C d1_5 rfl rfl ?_
  refine w_icmp 17 9 C d1_6 rfl rfl (fun (hc6 : q.toInt ≤ (3 : Int32).toInt) => ?_) (fun (hc6 : ¬ (q.toInt ≤ (3 : Int32).toInt)) => ?_)
  · refine w_ret C d1_17 (by decide) (by decide) ?_
    exact ⟨rfl, ⟨_, KK, allS g_a1 all0⟩, E_a1, _, _, _, _, _, _, F_modCount_a1, F_first_a1, F_second_a1, F_third_a1, F_spilled_a1, F_size_a1, by decide, by simp, Or.inl ⟨rfl, by simp, by simp, by simp, by simp⟩⟩
  · simp only [Int32.reduceToInt] at hc6
    obtain ⟨k, hk⟩ : ∃ k : Nat, q.toInt = (k : Int) := ⟨q.toInt.toNat, by omega⟩
    refine w_aloadN 10 C d1_9 rfl rfl rfl ?_
    refine w_iloadN 11 C d1_10 rfl rfl ?_
    refine w_anew 14 15 (k) C hz d1_11 rfl (hw _ (List.mem_of_getElem? (i := 86) rfl)) (hw _ (List.mem_of_getElem? (i := 87) rfl)) hk (by omega) (by decide) (by decide) (by decide) ?_
    intro h2 b3 X_b3 g_b3 sz0_b3 A_b3 hz_
    replace hz := hz_
    have ne_a1_b3 : a1 ≠ b3 := Nat.ne_of_lt (Nat.lt_of_lt_of_le E_a1.lt sz0_b3)
    have sz_b3 : h0.size ≤ b3 := Nat.le_trans KK.1 sz0_b3
    replace E_a1 := E_a1.ext X_b3
    replace F_modCount_a1 := F_modCount_a1.ext X_b3
    replace F_first_a1 := F_first_a1.ext X_b3
    replace F_second_a1 := F_second_a1.ext X_b3
    replace F_third_a1 := F_third_a1.ext X_b3
    replace F_spilled_a1 := F_spilled_a1.ext X_b3
    replace F_size_a1 := F_size_a1.ext X_b3
    replace KK := KK.ext X_b3
    show Go K h2 1 15 14 [.val (.ref a1), .val (.int q)] [.ref b3, .ref a1]
    refine w_putF (host := "") (ty := (.array (.object "java/lang/Object"))) 17 C F_spilled_a1 E_a1 g_a1 d1_14 rfl (Or.inl (hw _ (List.mem_of_getElem? (i := 37) rfl))) Via.refl (Or.inl (hw _ (List.mem_of_getElem? (i := 38) rfl))) (hw _ (List.mem_of_getElem? (i := 1) rfl)) (by decide) rfl rfl ?_
    intro h4 K_h4 W_h4 Fn_ En_
    replace F_modCount_a1 := F_modCount_a1.other W_h4 (Or.inr (slot_ne (Or.inl (hw _ (List.mem_of_getElem? (i := 21) rfl))) (Or.inl (hw _ (List.mem_of_getElem? (i := 38) rfl))) (by decide) (t := .int) (t' := (.array (.object "java/lang/Object"))) (by decide) (by decide)))
    replace F_first_a1 := F_first_a1.other W_h4 (Or.inr (slot_ne (Or.inl (hw _ (List.mem_of_getElem? (i := 46) rfl))) (Or.inl (hw _ (List.mem_of_getElem? (i := 38) rfl))) (by decide) (t := (.object "java/lang/Object")) (t' := (.array (.object "java/lang/Object"))) (by decide) (by decide)))
    replace F_second_a1 := F_second_a1.other W_h4 (Or.inr (slot_ne (Or.inl (hw _ (List.mem_of_getElem? (i := 48) rfl))) (Or.inl (hw _ (List.mem_of_getElem? (i := 38) rfl))) (by decide) (t := (.object "java/lang/Object")) (t' := (.array (.object "java/lang/Object"))) (by decide) (by decide)))
    replace F_third_a1 := F_third_a1.other W_h4 (Or.inr (slot_ne (Or.inl (hw _ (List.mem_of_getElem? (i := 50) rfl))) (Or.inl (hw _ (List.mem_of_getElem? (i := 38) rfl))) (by decide) (t := (.object "java/lang/Object")) (t' := (.array (.object "java/lang/Object"))) (by decide) (by decide)))
    replace F_size_a1 := F_size_a1.other W_h4 (Or.inr (slot_ne (Or.inl (hw _ (List.mem_of_getElem? (i := 40) rfl))) (Or.inl (hw _ (List.mem_of_getElem? (i := 38) rfl))) (by decide) (t := .int) (t' := (.array (.object "java/lang/Object"))) (by decide) (by decide)))
    replace F_spilled_a1 := Fn_
    replace E_a1 := En_
    replace A_b3 := A_b3.keep K_h4 (ninS (Ne.symm ne_a1_b3) nin0)
    replace hz := Nat.le_trans hz K_h4.1
    replace KK := KK.trans K_h4 (allS (Or.inl (by simp)) all0)
    refine w_ret C d1_17 (by decide) (by decide) ?_
    exact ⟨rfl, ⟨_, KK, allS g_a1 all0⟩, E_a1, _, _, _, _, _, _, F_modCount_a1, F_first_a1, F_second_a1, F_third_a1, F_spilled_a1, F_size_a1, by decide, by simp, Or.inr ⟨b3, _, rfl, A_b3, g_b3, by simp; omega, by simp; omega, by simp⟩⟩
set_option maxRecDepth 65536 in
set_option maxHeartbeats 40000000 in
theorem rm_max (l : Launch) (Z : State) (a0 : Array Value) (hw : ∀ d ∈ tables_1, d.before a0 Z = true) (ws : List Jvm.Cond) (x y : Int32) (h0 : Heap) (n0 : Nat) (hz : n0 ≤ h0.size) :
    OwnMet l (⟨"java/lang/Math", "max", "(II)I"⟩ : MethodName) jdk_29_method_65_code 2 (some .int) ws ({ frames := 0, cells := 0, slots := 0, locals := 0 } : Room) Z h0 n0 #[.int x, .int y] (fun v h => (∃ z, v = some (.int z) ∧ z.toInt = max x.toInt y.toInt) ∧ h0 = h) := by
  refine OwnMet.of (own := "java/lang/Math") (name := "max") (desc := "(II)I") (Ls := [.val (.int x), .val (.int y)]) (Jvm.Free.JP.mathPlain rfl (by decide +kernel)) (fun m => by first | (simp [entryFrame, mkF, argsToLocals, Value.category]; done) | rfl) ?_
  intro K hK C
  refine w_iloadN 1 C d15_0 rfl rfl ?_
  refine w_iloadN 2 C d15_1 rfl rfl ?_
  refine w_icmp 9 5 C d15_2 rfl rfl (fun (hc2 : x.toInt < y.toInt) => ?_) (fun (hc2 : ¬ (x.toInt < y.toInt)) => ?_)
  · refine w_iloadN 10 C d15_9 rfl rfl ?_
    refine w_retI C d15_10 (by decide) (by decide) ?_
    exact ⟨⟨_, rfl, by omega⟩, rfl⟩
  · refine w_iloadN 6 C d15_5 rfl rfl ?_
    refine w_goto 10 C d15_6 rfl ?_
    refine w_retI C d15_10 (by decide) (by decide) ?_
    exact ⟨⟨_, rfl, by omega⟩, rfl⟩
set_option maxRecDepth 65536 in
set_option maxHeartbeats 40000000 in
theorem rm_pl0 (l : Launch) (Z : State) (a0 : Array Value) (hw : ∀ d ∈ tables_1, d.before a0 Z = true) (ws : List Jvm.Cond) (a1 x : Addr) (mc sz : Int32) (f1 f2 f3 : Value) (h0 : Heap) (n0 : Nat) (hz : n0 ≤ h0.size) (E_a1 : Exa Z h0 a1 "com/example/wiretagg/wiretagg/CompactList") (g_a1 : n0 ≤ a1) (F_modCount_a1 : Fld Z h0 a1 "java/util/AbstractList" "modCount" "I" (.int mc)) (F_first_a1 : Fld Z h0 a1 "com/example/wiretagg/wiretagg/CompactList" "first" "Ljava/lang/Object;" f1) (F_second_a1 : Fld Z h0 a1 "com/example/wiretagg/wiretagg/CompactList" "second" "Ljava/lang/Object;" f2) (F_third_a1 : Fld Z h0 a1 "com/example/wiretagg/wiretagg/CompactList" "third" "Ljava/lang/Object;" f3) (F_spilled_a1 : Fld Z h0 a1 "com/example/wiretagg/wiretagg/CompactList" "spilled" "[Ljava/lang/Object;" .null) (F_size_a1 : Fld Z h0 a1 "com/example/wiretagg/wiretagg/CompactList" "size" "I" (.int sz)) :
    OwnMet l (⟨"com/example/wiretagg/wiretagg/CompactList", "place", "(ILjava/lang/Object;)V"⟩ : MethodName) prog_4_method_11_code 3 none ws ({ frames := 0, cells := 0, slots := 0, locals := 0 } : Room) Z h0 n0 #[.ref a1, .int (0 : Int32), .ref x] (fun v h => v = none ∧ Keep h0 h [a1] ∧ Exa Z h a1 "com/example/wiretagg/wiretagg/CompactList" ∧ Fld Z h a1 "java/util/AbstractList" "modCount" "I" (.int mc) ∧ Fld Z h a1 "com/example/wiretagg/wiretagg/CompactList" "first" "Ljava/lang/Object;" (.ref x) ∧ Fld Z h a1 "com/example/wiretagg/wiretagg/CompactList" "second" "Ljava/lang/Object;" f2 ∧ Fld Z h a1 "com/example/wiretagg/wiretagg/CompactList" "third" "Ljava/lang/Object;" f3 ∧ Fld Z h a1 "com/example/wiretagg/wiretagg/CompactList" "spilled" "[Ljava/lang/Object;" .null ∧ Fld Z h a1 "com/example/wiretagg/wiretagg/CompactList" "size" "I" (.int sz)) := by
  refine OwnMet.of (own := "com/example/wiretagg/wiretagg/CompactList") (name := "place") (desc := "(ILjava/lang/Object;)V") (Ls := [.val (.ref a1), .val (.int (0 : Int32)), .val (.ref x)]) (plainFor_of_name pn_com_example_wiretagg_wiretagg_CompactList) (fun m => by first | (simp [entryFrame, mkF, argsToLocals, Value.category]; done) | rfl) ?_
  intro K hK C
  have KK : Keep h0 h0 [a1] := Keep.refl _ _
  refine w_aloadN 1 C d7_0 rfl rfl rfl ?_
  refine w_getF (host := "") 4 C F_spilled_a1 d7_1 rfl (Or.inl (hw _ (List.mem_of_getElem? (i := 37) rfl))) Via.refl ?_
  refine w_nullY 17 C d7_4 rfl ?_
  refine w_iloadN 18 C d7_17 rfl rfl ?_
  refine w_ifN 21 C d7_18 rfl (show ¬ (¬ ((0 : Int32) = (0 : Int32))) from (by decide)) ?_
  refine w_aloadN 22 C d7_21 rfl rfl rfl ?_
  refine w_aloadN 23 C d7_22 rfl rfl rfl ?_
  refine w_putF (host := "") (ty := (.object "java/lang/Object")) 26 C F_first_a1 E_a1 g_a1 d7_23 rfl (Or.inl (hw _ (List.mem_of_getElem? (i := 45) rfl))) Via.refl (Or.inl (hw _ (List.mem_of_getElem? (i := 46) rfl))) (hw _ (List.mem_of_getElem? (i := 1) rfl)) (by decide) rfl rfl ?_
  intro h1 K_h1 W_h1 Fn_ En_
  replace F_modCount_a1 := F_modCount_a1.other W_h1 (Or.inr (slot_ne (Or.inl (hw _ (List.mem_of_getElem? (i := 21) rfl))) (Or.inl (hw _ (List.mem_of_getElem? (i := 46) rfl))) (by decide) (t := .int) (t' := (.object "java/lang/Object")) (by decide) (by decide)))
  replace F_second_a1 := F_second_a1.other W_h1 (Or.inr (slot_ne (Or.inl (hw _ (List.mem_of_getElem? (i := 48) rfl))) (Or.inl (hw _ (List.mem_of_getElem? (i := 46) rfl))) (by decide) (t := (.object "java/lang/Object")) (t' := (.object "java/lang/Object")) (by decide) (by decide)))
  replace F_third_a1 := F_third_a1.other W_h1 (Or.inr (slot_ne (Or.inl (hw _ (List.mem_of_getElem? (i := 50) rfl))) (Or.inl (hw _ (List.mem_of_getElem? (i := 46) rfl))) (by decide) (t := (.object "java/lang/Object")) (t' := (.object "java/lang/Object")) (by decide) (by decide)))
  replace F_spilled_a1 := F_spilled_a1.other W_h1 (Or.inr (slot_ne (Or.inl (hw _ (List.mem_of_getElem? (i := 38) rfl))) (Or.inl (hw _ (List.mem_of_getElem? (i := 46) rfl))) (by decide) (t := (.array (.object "java/lang/Object"))) (t' := (.object "java/lang/Object")) (by decide) (by decide)))
  replace F_size_a1 := F_size_a1.other W_h1 (Or.inr (slot_ne (Or.inl (hw _ (List.mem_of_getElem? (i := 40) rfl))) (Or.inl (hw _ (List.mem_of_getElem? (i := 46) rfl))) (by decide) (t := .int) (t' := (.object "java/lang/Object")) (by decide) (by decide)))
  replace F_first_a1 := Fn_
  replace E_a1 := En_
  replace hz := Nat.le_trans hz K_h1.1
  replace KK := KK.trans K_h1 (allS (Or.inl (by simp)) all0)
  refine w_goto 47 C d7_26 rfl ?_
  refine w_ret C d7_47 (by decide) (by decide) ?_
  exact ⟨rfl, KK, E_a1, F_modCount_a1, F_first_a1, F_second_a1, F_third_a1, F_spilled_a1, F_size_a1⟩
set_option maxRecDepth 65536 in
set_option maxHeartbeats 40000000 in
theorem rm_pl1 (l : Launch) (Z : State) (a0 : Array Value) (hw : ∀ d ∈ tables_1, d.before a0 Z = true) (ws : List Jvm.Cond) (a1 x : Addr) (mc sz : Int32) (f1 f2 f3 : Value) (h0 : Heap) (n0 : Nat) (hz : n0 ≤ h0.size) (E_a1 : Exa Z h0 a1 "com/example/wiretagg/wiretagg/CompactList") (g_a1 : n0 ≤ a1) (F_modCount_a1 : Fld Z h0 a1 "java/util/AbstractList" "modCount" "I" (.int mc)) (F_first_a1 : Fld Z h0 a1 "com/example/wiretagg/wiretagg/CompactList" "first" "Ljava/lang/Object;" f1) (F_second_a1 : Fld Z h0 a1 "com/example/wiretagg/wiretagg/CompactList" "second" "Ljava/lang/Object;" f2) (F_third_a1 : Fld Z h0 a1 "com/example/wiretagg/wiretagg/CompactList" "third" "Ljava/lang/Object;" f3) (F_spilled_a1 : Fld Z h0 a1 "com/example/wiretagg/wiretagg/CompactList" "spilled" "[Ljava/lang/Object;" .null) (F_size_a1 : Fld Z h0 a1 "com/example/wiretagg/wiretagg/CompactList" "size" "I" (.int sz)) :
    OwnMet l (⟨"com/example/wiretagg/wiretagg/CompactList", "place", "(ILjava/lang/Object;)V"⟩ : MethodName) prog_4_method_11_code 3 none ws ({ frames := 0, cells := 0, slots := 0, locals := 0 } : Room) Z h0 n0 #[.ref a1, .int (1 : Int32), .ref x] (fun v h => v = none ∧ Keep h0 h [a1] ∧ Exa Z h a1 "com/example/wiretagg/wiretagg/CompactList" ∧ Fld Z h a1 "java/util/AbstractList" "modCount" "I" (.int mc) ∧ Fld Z h a1 "com/example/wiretagg/wiretagg/CompactList" "first" "Ljava/lang/Object;" f1 ∧ Fld Z h a1 "com/example/wiretagg/wiretagg/CompactList" "second" "Ljava/lang/Object;" (.ref x) ∧ Fld Z h a1 "com/example/wiretagg/wiretagg/CompactList" "third" "Ljava/lang/Object;" f3 ∧ Fld Z h a1 "com/example/wiretagg/wiretagg/CompactList" "spilled" "[Ljava/lang/Object;" .null ∧ Fld Z h a1 "com/example/wiretagg/wiretagg/CompactList" "size" "I" (.int sz)) := by
  refine OwnMet.of (own := "com/example/wiretagg/wiretagg/CompactList") (name := "place") (desc := "(ILjava/lang/Object;)V") (Ls := [.val (.ref a1), .val (.int (1 : Int32)), .val (.ref x)]) (plainFor_of_name pn_com_example_wiretagg_wiretagg_CompactList) (fun m => by first | (simp [entryFrame, mkF, argsToLocals, Value.category]; done) | rfl) ?_
  intro K hK C
  have KK : Keep h0 h0 [a1] := Keep.refl _ _
  refine w_aloadN 1 C d7_0 rfl rfl rfl ?_
  refine w_getF (host := "") 4 C F_spilled_a1 d7_1 rfl (Or.inl (hw _ (List.mem_of_getElem? (i := 37) rfl))) Via.refl ?_
  refine w_nullY 17 C d7_4 rfl ?_
  refine w_iloadN 18 C d7_17 rfl rfl ?_
  refine w_ifY 29 C d7_18 rfl (show ¬ ((1 : Int32) = (0 : Int32)) from (by decide)) ?_
  refine w_iloadN 30 C d7_29 rfl rfl ?_
  refine w_iconst 31 (1 : Int32) C d7_30 rfl rfl ?_
  refine w_icmpN 34 C d7_31 rfl (show ¬ (¬ ((1 : Int32) = (1 : Int32))) from (by decide)) ?_
  refine w_aloadN 35 C d7_34 rfl rfl rfl ?_
  refine w_aloadN 36 C d7_35 rfl rfl rfl ?_
  refine w_putF (host := "") (ty := (.object "java/lang/Object")) 39 C F_second_a1 E_a1 g_a1 d7_36 rfl (Or.inl (hw _ (List.mem_of_getElem? (i := 47) rfl))) Via.refl (Or.inl (hw _ (List.mem_of_getElem? (i := 48) rfl))) (hw _ (List.mem_of_getElem? (i := 1) rfl)) (by decide) rfl rfl ?_
  intro h1 K_h1 W_h1 Fn_ En_
  replace F_modCount_a1 := F_modCount_a1.other W_h1 (Or.inr (slot_ne (Or.inl (hw _ (List.mem_of_getElem? (i := 21) rfl))) (Or.inl (hw _ (List.mem_of_getElem? (i := 48) rfl))) (by decide) (t := .int) (t' := (.object "java/lang/Object")) (by decide) (by decide)))
  replace F_first_a1 := F_first_a1.other W_h1 (Or.inr (slot_ne (Or.inl (hw _ (List.mem_of_getElem? (i := 46) rfl))) (Or.inl (hw _ (List.mem_of_getElem? (i := 48) rfl))) (by decide) (t := (.object "java/lang/Object")) (t' := (.object "java/lang/Object")) (by decide) (by decide)))
  replace F_third_a1 := F_third_a1.other W_h1 (Or.inr (slot_ne (Or.inl (hw _ (List.mem_of_getElem? (i := 50) rfl))) (Or.inl (hw _ (List.mem_of_getElem? (i := 48) rfl))) (by decide) (t := (.object "java/lang/Object")) (t' := (.object "java/lang/Object")) (by decide) (by decide)))
  replace F_spilled_a1 := F_spilled_a1.other W_h1 (Or.inr (slot_ne (Or.inl (hw _ (List.mem_of_getElem? (i := 38) rfl))) (Or.inl (hw _ (List.mem_of_getElem? (i := 48) rfl))) (by decide) (t := (.array (.object "java/lang/Object"))) (t' := (.object "java/lang/Object")) (by decide) (by decide)))
  replace F_size_a1 := F_size_a1.other W_h1 (Or.inr (slot_ne (Or.inl (hw _ (List.mem_of_getElem? (i := 40) rfl))) (Or.inl (hw _ (List.mem_of_getElem? (i := 48) rfl))) (by decide) (t := .int) (t' := (.object "java/lang/Object")) (by decide) (by decide)))
  replace F_second_a1 := Fn_
  replace E_a1 := En_
  replace hz := Nat.le_trans hz K_h1.1
  replace KK := KK.trans K_h1 (allS (Or.inl (by simp)) all0)
  refine w_goto 47 C d7_39 rfl ?_
  refine w_ret C d7_47 (by decide) (by decide) ?_
  exact ⟨rfl, KK, E_a1, F_modCount_a1, F_first_a1, F_second_a1, F_third_a1, F_spilled_a1, F_size_a1⟩
set_option maxRecDepth 65536 in
set_option maxHeartbeats 40000000 in
theorem rm_pl2 (l : Launch) (Z : State) (a0 : Array Value) (hw : ∀ d ∈ tables_1, d.before a0 Z = true) (ws : List Jvm.Cond) (a1 x : Addr) (mc sz : Int32) (f1 f2 f3 : Value) (h0 : Heap) (n0 : Nat) (hz : n0 ≤ h0.size) (E_a1 : Exa Z h0 a1 "com/example/wiretagg/wiretagg/CompactList") (g_a1 : n0 ≤ a1) (F_modCount_a1 : Fld Z h0 a1 "java/util/AbstractList" "modCount" "I" (.int mc)) (F_first_a1 : Fld Z h0 a1 "com/example/wiretagg/wiretagg/CompactList" "first" "Ljava/lang/Object;" f1) (F_second_a1 : Fld Z h0 a1 "com/example/wiretagg/wiretagg/CompactList" "second" "Ljava/lang/Object;" f2) (F_third_a1 : Fld Z h0 a1 "com/example/wiretagg/wiretagg/CompactList" "third" "Ljava/lang/Object;" f3) (F_spilled_a1 : Fld Z h0 a1 "com/example/wiretagg/wiretagg/CompactList" "spilled" "[Ljava/lang/Object;" .null) (F_size_a1 : Fld Z h0 a1 "com/example/wiretagg/wiretagg/CompactList" "size" "I" (.int sz)) :
    OwnMet l (⟨"com/example/wiretagg/wiretagg/CompactList", "place", "(ILjava/lang/Object;)V"⟩ : MethodName) prog_4_method_11_code 3 none ws ({ frames := 0, cells := 0, slots := 0, locals := 0 } : Room) Z h0 n0 #[.ref a1, .int (2 : Int32), .ref x] (fun v h => v = none ∧ Keep h0 h [a1] ∧ Exa Z h a1 "com/example/wiretagg/wiretagg/CompactList" ∧ Fld Z h a1 "java/util/AbstractList" "modCount" "I" (.int mc) ∧ Fld Z h a1 "com/example/wiretagg/wiretagg/CompactList" "first" "Ljava/lang/Object;" f1 ∧ Fld Z h a1 "com/example/wiretagg/wiretagg/CompactList" "second" "Ljava/lang/Object;" f2 ∧ Fld Z h a1 "com/example/wiretagg/wiretagg/CompactList" "third" "Ljava/lang/Object;" (.ref x) ∧ Fld Z h a1 "com/example/wiretagg/wiretagg/CompactList" "spilled" "[Ljava/lang/Object;" .null ∧ Fld Z h a1 "com/example/wiretagg/wiretagg/CompactList" "size" "I" (.int sz)) := by
  refine OwnMet.of (own := "com/example/wiretagg/wiretagg/CompactList") (name := "place") (desc := "(ILjava/lang/Object;)V") (Ls := [.val (.ref a1), .val (.int (2 : Int32)), .val (.ref x)]) (plainFor_of_name pn_com_example_wiretagg_wiretagg_CompactList) (fun m => by first | (simp [entryFrame, mkF, argsToLocals, Value.category]; done) | rfl) ?_
  intro K hK C
  have KK : Keep h0 h0 [a1] := Keep.refl _ _
  refine w_aloadN 1 C d7_0 rfl rfl rfl ?_
  refine w_getF (host := "") 4 C F_spilled_a1 d7_1 rfl (Or.inl (hw _ (List.mem_of_getElem? (i := 37) rfl))) Via.refl ?_
  refine w_nullY 17 C d7_4 rfl ?_
  refine w_iloadN 18 C d7_17 rfl rfl ?_
  refine w_ifY 29 C d7_18 rfl (show ¬ ((2 : Int32) = (0 : Int32)) from (by decide)) ?_
  refine w_iloadN 30 C d7_29 rfl rfl ?_
  refine w_iconst 31 (1 : Int32) C d7_30 rfl rfl ?_
  refine w_icmpY 42 C d7_31 rfl (show ¬ ((2 : Int32) = (1 : Int32)) from (by decide)) ?_
  refine w_aloadN 43 C d7_42 rfl rfl rfl ?_
  refine w_aloadN 44 C d7_43 rfl rfl rfl ?_
  refine w_putF (host := "") (ty := (.object "java/lang/Object")) 47 C F_third_a1 E_a1 g_a1 d7_44 rfl (Or.inl (hw _ (List.mem_of_getElem? (i := 49) rfl))) Via.refl (Or.inl (hw _ (List.mem_of_getElem? (i := 50) rfl))) (hw _ (List.mem_of_getElem? (i := 1) rfl)) (by decide) rfl rfl ?_
  intro h1 K_h1 W_h1 Fn_ En_
  replace F_modCount_a1 := F_modCount_a1.other W_h1 (Or.inr (slot_ne (Or.inl (hw _ (List.mem_of_getElem? (i := 21) rfl))) (Or.inl (hw _ (List.mem_of_getElem? (i := 50) rfl))) (by decide) (t := .int) (t' := (.object "java/lang/Object")) (by decide) (by decide)))
  replace F_first_a1 := F_first_a1.other W_h1 (Or.inr (slot_ne (Or.inl (hw _ (List.mem_of_getElem? (i := 46) rfl))) (Or.inl (hw _ (List.mem_of_getElem? (i := 50) rfl))) (by decide) (t := (.object "java/lang/Object")) (t' := (.object "java/lang/Object")) (by decide) (by decide)))
  replace F_second_a1 := F_second_a1.other W_h1 (Or.inr (slot_ne (Or.inl (hw _ (List.mem_of_getElem? (i := 48) rfl))) (Or.inl (hw _ (List.mem_of_getElem? (i := 50) rfl))) (by decide) (t := (.object "java/lang/Object")) (t' := (.object "java/lang/Object")) (by decide) (by decide)))
  replace F_spilled_a1 := F_spilled_a1.other W_h1 (Or.inr (slot_ne (Or.inl (hw _ (List.mem_of_getElem? (i := 38) rfl))) (Or.inl (hw _ (List.mem_of_getElem? (i := 50) rfl))) (by decide) (t := (.array (.object "java/lang/Object"))) (t' := (.object "java/lang/Object")) (by decide) (by decide)))
  replace F_size_a1 := F_size_a1.other W_h1 (Or.inr (slot_ne (Or.inl (hw _ (List.mem_of_getElem? (i := 40) rfl))) (Or.inl (hw _ (List.mem_of_getElem? (i := 50) rfl))) (by decide) (t := .int) (t' := (.object "java/lang/Object")) (by decide) (by decide)))
  replace F_third_a1 := Fn_
  replace E_a1 := En_
  replace hz := Nat.le_trans hz K_h1.1
  replace KK := KK.trans K_h1 (allS (Or.inl (by simp)) all0)
  refine w_ret C d7_47 (by decide) (by decide) ?_
  exact ⟨rfl, KK, E_a1, F_modCount_a1, F_first_a1, F_second_a1, F_third_a1, F_spilled_a1, F_size_a1⟩
set_option maxRecDepth 65536 in
set_option maxHeartbeats 40000000 in
theorem rm_ro (l : Launch) (Z : State) (a0 : Array Value) (hw : ∀ d ∈ tables_1, d.before a0 Z = true) (ws : List Jvm.Cond) (a1 x0 x1 x2 : Addr) (mc sz : Int32) (h0 : Heap) (n0 : Nat) (hz : n0 ≤ h0.size) (E_a1 : Exa Z h0 a1 "com/example/wiretagg/wiretagg/CompactList") (g_a1 : n0 ≤ a1) (F_modCount_a1 : Fld Z h0 a1 "java/util/AbstractList" "modCount" "I" (.int mc)) (F_first_a1 : Fld Z h0 a1 "com/example/wiretagg/wiretagg/CompactList" "first" "Ljava/lang/Object;" (.ref x0)) (F_second_a1 : Fld Z h0 a1 "com/example/wiretagg/wiretagg/CompactList" "second" "Ljava/lang/Object;" (.ref x1)) (F_third_a1 : Fld Z h0 a1 "com/example/wiretagg/wiretagg/CompactList" "third" "Ljava/lang/Object;" (.ref x2)) (F_spilled_a1 : Fld Z h0 a1 "com/example/wiretagg/wiretagg/CompactList" "spilled" "[Ljava/lang/Object;" .null) (F_size_a1 : Fld Z h0 a1 "com/example/wiretagg/wiretagg/CompactList" "size" "I" (.int sz)) (I0 : Exa Z h0 x0 "java/lang/Integer") (I1 : Exa Z h0 x1 "java/lang/Integer") (I2 : Exa Z h0 x2 "java/lang/Integer") :
    OwnMet l (⟨"com/example/wiretagg/wiretagg/CompactList", "room", "(I)V"⟩ : MethodName) prog_4_method_12_code 2 none ws ({ frames := 1, cells := 1, slots := 10, locals := 14 } : Room) Z h0 n0 #[.ref a1, .int (4 : Int32)] (fun v h => ∃ t : Addr, v = none ∧ (∃ ws, Keep h0 h ws ∧ ∀ x ∈ ws, n0 ≤ x) ∧ Exa Z h a1 "com/example/wiretagg/wiretagg/CompactList" ∧ Fld Z h a1 "java/util/AbstractList" "modCount" "I" (.int mc) ∧ Fld Z h a1 "com/example/wiretagg/wiretagg/CompactList" "first" "Ljava/lang/Object;" .null ∧ Fld Z h a1 "com/example/wiretagg/wiretagg/CompactList" "second" "Ljava/lang/Object;" .null ∧ Fld Z h a1 "com/example/wiretagg/wiretagg/CompactList" "third" "Ljava/lang/Object;" .null ∧ Fld Z h a1 "com/example/wiretagg/wiretagg/CompactList" "spilled" "[Ljava/lang/Object;" (.ref t) ∧ Fld Z h a1 "com/example/wiretagg/wiretagg/CompactList" "size" "I" (.int sz) ∧ n0 ≤ t ∧ Ao Z h t "java/lang/Object" [.ref x0, .ref x1, .ref x2, .null, .null, .null, .null, .null, .null, .null]) := by
  refine OwnMet.of (own := "com/example/wiretagg/wiretagg/CompactList") (name := "room") (desc := "(I)V") (Ls := [.val (.ref a1), .val (.int (4 : Int32))]) (plainFor_of_name pn_com_example_wiretagg_wiretagg_CompactList) (fun m => by first | (simp [entryFrame, mkF, argsToLocals, Value.category]; done) | rfl) ?_
  intro K hK C
  have KK : Keep h0 h0 [a1] := Keep.refl _ _
  refine w_aloadN 1 C d14_0 rfl rfl rfl ?_
  refine w_getF (host := "") 4 C F_spilled_a1 d14_1 rfl (Or.inl (hw _ (List.mem_of_getElem? (i := 37) rfl))) Via.refl ?_
  refine w_nonnullN 7 C d14_4 rfl ?_
  refine w_aloadN 8 C d14_7 rfl rfl rfl ?_
  refine w_bipush 10 (10 : Int32) C d14_8 rfl rfl ?_
  refine w_iloadN 11 C d14_10 rfl rfl ?_
  refine w_callS (y := (⟨"java/lang/Math", "max", "(II)I"⟩ : MethodName)) 14 1 [.int (10 : Int32), .int (4 : Int32)] C d14_11 rfl (hw _ (List.mem_of_getElem? (i := 82) rfl)) (hw _ (List.mem_of_getElem? (i := 83) rfl)) (hw _ (List.mem_of_getElem? (i := 84) rfl)) (hw _ (List.mem_of_getElem? (i := 85) rfl)) (by decide) (rm_max K.l Z a0 hw [] (10 : Int32) (4 : Int32) h0 n0 hz) pd_II_to_I rfl (rest := [.ref a1]) rfl rfl (Nat.le_of_eq rfl) (by decide) (by decide) (by decide) (by decide) ?_
  rintro v2 h1 ⟨⟨k, rfl, hk⟩, rfl⟩
  show Go K h0 0 0 14 [.val (.ref a1), .val (.int (4 : Int32))] [.int k, .ref a1]
  obtain rfl : k = (10 : Int32) := own_eq (by rw [hk]; decide)
  show Go K h0 0 0 14 [.val (.ref a1), .val (.int (4 : Int32))] [.int (10 : Int32), .ref a1]
  refine w_anew 17 10 (10) C hz d14_14 rfl (hw _ (List.mem_of_getElem? (i := 86) rfl)) (hw _ (List.mem_of_getElem? (i := 87) rfl)) (by decide) (by decide) (by decide) (by decide) (by decide) ?_
  intro h3 b4 X_b4 g_b4 sz0_b4 A_b4 hz_
  replace hz := hz_
  have ne_a1_b4 : a1 ≠ b4 := Nat.ne_of_lt (Nat.lt_of_lt_of_le E_a1.lt sz0_b4)
  have ne_x0_b4 : x0 ≠ b4 := Nat.ne_of_lt (Nat.lt_of_lt_of_le I0.lt sz0_b4)
  have ne_x1_b4 : x1 ≠ b4 := Nat.ne_of_lt (Nat.lt_of_lt_of_le I1.lt sz0_b4)
  have ne_x2_b4 : x2 ≠ b4 := Nat.ne_of_lt (Nat.lt_of_lt_of_le I2.lt sz0_b4)
  have sz_b4 : h0.size ≤ b4 := Nat.le_trans KK.1 sz0_b4
  replace E_a1 := E_a1.ext X_b4
  replace F_modCount_a1 := F_modCount_a1.ext X_b4
  replace F_first_a1 := F_first_a1.ext X_b4
  replace F_second_a1 := F_second_a1.ext X_b4
  replace F_third_a1 := F_third_a1.ext X_b4
  replace F_spilled_a1 := F_spilled_a1.ext X_b4
  replace F_size_a1 := F_size_a1.ext X_b4
  replace I0 := I0.ext X_b4
  replace I1 := I1.ext X_b4
  replace I2 := I2.ext X_b4
  replace KK := KK.ext X_b4
  show Go K h3 1 10 17 [.val (.ref a1), .val (.int (4 : Int32))] [.ref b4, .ref a1]
  replace A_b4 : Ao Z h3 b4 "java/lang/Object" [.null, .null, .null, .null, .null, .null, .null, .null, .null, .null] := A_b4
  refine w_putF (host := "") (ty := (.array (.object "java/lang/Object"))) 20 C F_spilled_a1 E_a1 g_a1 d14_17 rfl (Or.inl (hw _ (List.mem_of_getElem? (i := 37) rfl))) Via.refl (Or.inl (hw _ (List.mem_of_getElem? (i := 38) rfl))) (hw _ (List.mem_of_getElem? (i := 1) rfl)) (by decide) rfl rfl ?_
  intro h5 K_h5 W_h5 Fn_ En_
  replace F_modCount_a1 := F_modCount_a1.other W_h5 (Or.inr (slot_ne (Or.inl (hw _ (List.mem_of_getElem? (i := 21) rfl))) (Or.inl (hw _ (List.mem_of_getElem? (i := 38) rfl))) (by decide) (t := .int) (t' := (.array (.object "java/lang/Object"))) (by decide) (by decide)))
  replace F_first_a1 := F_first_a1.other W_h5 (Or.inr (slot_ne (Or.inl (hw _ (List.mem_of_getElem? (i := 46) rfl))) (Or.inl (hw _ (List.mem_of_getElem? (i := 38) rfl))) (by decide) (t := (.object "java/lang/Object")) (t' := (.array (.object "java/lang/Object"))) (by decide) (by decide)))
  replace F_second_a1 := F_second_a1.other W_h5 (Or.inr (slot_ne (Or.inl (hw _ (List.mem_of_getElem? (i := 48) rfl))) (Or.inl (hw _ (List.mem_of_getElem? (i := 38) rfl))) (by decide) (t := (.object "java/lang/Object")) (t' := (.array (.object "java/lang/Object"))) (by decide) (by decide)))
  replace F_third_a1 := F_third_a1.other W_h5 (Or.inr (slot_ne (Or.inl (hw _ (List.mem_of_getElem? (i := 50) rfl))) (Or.inl (hw _ (List.mem_of_getElem? (i := 38) rfl))) (by decide) (t := (.object "java/lang/Object")) (t' := (.array (.object "java/lang/Object"))) (by decide) (by decide)))
  replace F_size_a1 := F_size_a1.other W_h5 (Or.inr (slot_ne (Or.inl (hw _ (List.mem_of_getElem? (i := 40) rfl))) (Or.inl (hw _ (List.mem_of_getElem? (i := 38) rfl))) (by decide) (t := .int) (t' := (.array (.object "java/lang/Object"))) (by decide) (by decide)))
  replace F_spilled_a1 := Fn_
  replace E_a1 := En_
  replace I0 := I0.keep K_h5
  replace I1 := I1.keep K_h5
  replace I2 := I2.keep K_h5
  replace A_b4 := A_b4.keep K_h5 (ninS (Ne.symm ne_a1_b4) nin0)
  replace hz := Nat.le_trans hz K_h5.1
  replace KK := KK.trans K_h5 (allS (Or.inl (by simp)) all0)
  refine w_aloadN 21 C d14_20 rfl rfl rfl ?_
  refine w_getF (host := "") 24 C F_spilled_a1 d14_21 rfl (Or.inl (hw _ (List.mem_of_getElem? (i := 37) rfl))) Via.refl ?_
  refine w_iconst 25 (0 : Int32) C d14_24 rfl rfl ?_
  refine w_aloadN 26 C d14_25 rfl rfl rfl ?_
  refine w_getF (host := "") 29 C F_first_a1 d14_26 rfl (Or.inl (hw _ (List.mem_of_getElem? (i := 45) rfl))) Via.refl ?_
  refine w_aastore 30 (0) C A_b4 g_b4 d14_29 rfl (by decide) (Nat.le_of_ble_eq_true rfl) (Or.inr (own_cl_in (hw _ (List.mem_of_getElem? (i := 88) rfl)) I0)) ?_
  intro h6 K_h6 A_b4'
  replace A_b4 : Ao Z h6 b4 "java/lang/Object" ([.ref x0, .null, .null, .null, .null, .null, .null, .null, .null, .null]) := A_b4'
  replace E_a1 := E_a1.keep K_h6
  replace F_modCount_a1 := F_modCount_a1.keep K_h6 (ninS ne_a1_b4 nin0)
  replace F_first_a1 := F_first_a1.keep K_h6 (ninS ne_a1_b4 nin0)
  replace F_second_a1 := F_second_a1.keep K_h6 (ninS ne_a1_b4 nin0)
  replace F_third_a1 := F_third_a1.keep K_h6 (ninS ne_a1_b4 nin0)
  replace F_spilled_a1 := F_spilled_a1.keep K_h6 (ninS ne_a1_b4 nin0)
  replace F_size_a1 := F_size_a1.keep K_h6 (ninS ne_a1_b4 nin0)
  replace I0 := I0.keep K_h6
  replace I1 := I1.keep K_h6
  replace I2 := I2.keep K_h6
  replace hz := Nat.le_trans hz K_h6.1
  replace KK := KK.trans K_h6 (allS (Or.inr sz_b4) all0)
  refine w_aloadN 31 C d14_30 rfl rfl rfl ?_
  refine w_getF (host := "") 34 C F_spilled_a1 d14_31 rfl (Or.inl (hw _ (List.mem_of_getElem? (i := 37) rfl))) Via.refl ?_
  refine w_iconst 35 (1 : Int32) C d14_34 rfl rfl ?_
  refine w_aloadN 36 C d14_35 rfl rfl rfl ?_
  refine w_getF (host := "") 39 C F_second_a1 d14_36 rfl (Or.inl (hw _ (List.mem_of_getElem? (i := 47) rfl))) Via.refl ?_
  refine w_aastore 40 (1) C A_b4 g_b4 d14_39 rfl (by decide) (Nat.le_of_ble_eq_true rfl) (Or.inr (own_cl_in (hw _ (List.mem_of_getElem? (i := 88) rfl)) I1)) ?_
  intro h7 K_h7 A_b4'
  replace A_b4 : Ao Z h7 b4 "java/lang/Object" ([.ref x0, .ref x1, .null, .null, .null, .null, .null, .null, .null, .null]) := A_b4'
  replace E_a1 := E_a1.keep K_h7
  replace F_modCount_a1 := F_modCount_a1.keep K_h7 (ninS ne_a1_b4 nin0)
  replace F_first_a1 := F_first_a1.keep K_h7 (ninS ne_a1_b4 nin0)
  replace F_second_a1 := F_second_a1.keep K_h7 (ninS ne_a1_b4 nin0)
  replace F_third_a1 := F_third_a1.keep K_h7 (ninS ne_a1_b4 nin0)
  replace F_spilled_a1 := F_spilled_a1.keep K_h7 (ninS ne_a1_b4 nin0)
  replace F_size_a1 := F_size_a1.keep K_h7 (ninS ne_a1_b4 nin0)
  replace I0 := I0.keep K_h7
  replace I1 := I1.keep K_h7
  replace I2 := I2.keep K_h7
  replace hz := Nat.le_trans hz K_h7.1
  replace KK := KK.trans K_h7 (allS (Or.inr sz_b4) all0)
  refine w_aloadN 41 C d14_40 rfl rfl rfl ?_
  refine w_getF (host := "") 44 C F_spilled_a1 d14_41 rfl (Or.inl (hw _ (List.mem_of_getElem? (i := 37) rfl))) Via.refl ?_
  refine w_iconst 45 (2 : Int32) C d14_44 rfl rfl ?_
  refine w_aloadN 46 C d14_45 rfl rfl rfl ?_
  refine w_getF (host := "") 49 C F_third_a1 d14_46 rfl (Or.inl (hw _ (List.mem_of_getElem? (i := 49) rfl))) Via.refl ?_
  refine w_aastore 50 (2) C A_b4 g_b4 d14_49 rfl (by decide) (Nat.le_of_ble_eq_true rfl) (Or.inr (own_cl_in (hw _ (List.mem_of_getElem? (i := 88) rfl)) I2)) ?_
  intro h8 K_h8 A_b4'
  replace A_b4 : Ao Z h8 b4 "java/lang/Object" ([.ref x0, .ref x1, .ref x2, .null, .null, .null, .null, .null, .null, .null]) := A_b4'
  replace E_a1 := E_a1.keep K_h8
  replace F_modCount_a1 := F_modCount_a1.keep K_h8 (ninS ne_a1_b4 nin0)
  replace F_first_a1 := F_first_a1.keep K_h8 (ninS ne_a1_b4 nin0)
  replace F_second_a1 := F_second_a1.keep K_h8 (ninS ne_a1_b4 nin0)
  replace F_third_a1 := F_third_a1.keep K_h8 (ninS ne_a1_b4 nin0)
  replace F_spilled_a1 := F_spilled_a1.keep K_h8 (ninS ne_a1_b4 nin0)
  replace F_size_a1 := F_size_a1.keep K_h8 (ninS ne_a1_b4 nin0)
  replace I0 := I0.keep K_h8
  replace I1 := I1.keep K_h8
  replace I2 := I2.keep K_h8
  replace hz := Nat.le_trans hz K_h8.1
  replace KK := KK.trans K_h8 (allS (Or.inr sz_b4) all0)
  refine w_aloadN 51 C d14_50 rfl rfl rfl ?_
  refine w_null 52 C d14_51 rfl ?_
  refine w_putF (host := "") (ty := (.object "java/lang/Object")) 55 C F_first_a1 E_a1 g_a1 d14_52 rfl (Or.inl (hw _ (List.mem_of_getElem? (i := 45) rfl))) Via.refl (Or.inl (hw _ (List.mem_of_getElem? (i := 46) rfl))) (hw _ (List.mem_of_getElem? (i := 1) rfl)) (by decide) rfl rfl ?_
  intro h9 K_h9 W_h9 Fn_ En_
  replace F_modCount_a1 := F_modCount_a1.other W_h9 (Or.inr (slot_ne (Or.inl (hw _ (List.mem_of_getElem? (i := 21) rfl))) (Or.inl (hw _ (List.mem_of_getElem? (i := 46) rfl))) (by decide) (t := .int) (t' := (.object "java/lang/Object")) (by decide) (by decide)))
  replace F_second_a1 := F_second_a1.other W_h9 (Or.inr (slot_ne (Or.inl (hw _ (List.mem_of_getElem? (i := 48) rfl))) (Or.inl (hw _ (List.mem_of_getElem? (i := 46) rfl))) (by decide) (t := (.object "java/lang/Object")) (t' := (.object "java/lang/Object")) (by decide) (by decide)))
  replace F_third_a1 := F_third_a1.other W_h9 (Or.inr (slot_ne (Or.inl (hw _ (List.mem_of_getElem? (i := 50) rfl))) (Or.inl (hw _ (List.mem_of_getElem? (i := 46) rfl))) (by decide) (t := (.object "java/lang/Object")) (t' := (.object "java/lang/Object")) (by decide) (by decide)))
  replace F_spilled_a1 := F_spilled_a1.other W_h9 (Or.inr (slot_ne (Or.inl (hw _ (List.mem_of_getElem? (i := 38) rfl))) (Or.inl (hw _ (List.mem_of_getElem? (i := 46) rfl))) (by decide) (t := (.array (.object "java/lang/Object"))) (t' := (.object "java/lang/Object")) (by decide) (by decide)))
  replace F_size_a1 := F_size_a1.other W_h9 (Or.inr (slot_ne (Or.inl (hw _ (List.mem_of_getElem? (i := 40) rfl))) (Or.inl (hw _ (List.mem_of_getElem? (i := 46) rfl))) (by decide) (t := .int) (t' := (.object "java/lang/Object")) (by decide) (by decide)))
  replace F_first_a1 := Fn_
  replace E_a1 := En_
  replace I0 := I0.keep K_h9
  replace I1 := I1.keep K_h9
  replace I2 := I2.keep K_h9
  replace A_b4 := A_b4.keep K_h9 (ninS (Ne.symm ne_a1_b4) nin0)
  replace hz := Nat.le_trans hz K_h9.1
  replace KK := KK.trans K_h9 (allS (Or.inl (by simp)) all0)
  refine w_aloadN 56 C d14_55 rfl rfl rfl ?_
  refine w_null 57 C d14_56 rfl ?_
  refine w_putF (host := "") (ty := (.object "java/lang/Object")) 60 C F_second_a1 E_a1 g_a1 d14_57 rfl (Or.inl (hw _ (List.mem_of_getElem? (i := 47) rfl))) Via.refl (Or.inl (hw _ (List.mem_of_getElem? (i := 48) rfl))) (hw _ (List.mem_of_getElem? (i := 1) rfl)) (by decide) rfl rfl ?_
  intro h10 K_h10 W_h10 Fn_ En_
  replace F_modCount_a1 := F_modCount_a1.other W_h10 (Or.inr (slot_ne (Or.inl (hw _ (List.mem_of_getElem? (i := 21) rfl))) (Or.inl (hw _ (List.mem_of_getElem? (i := 48) rfl))) (by decide) (t := .int) (t' := (.object "java/lang/Object")) (by decide) (by decide)))
  replace F_first_a1 := F_first_a1.other W_h10 (Or.inr (slot_ne (Or.inl (hw _ (List.mem_of_getElem? (i := 46) rfl))) (Or.inl (hw _ (List.mem_of_getElem? (i := 48) rfl))) (by decide) (t := (.object "java/lang/Object")) (t' := (.object "java/lang/Object")) (by decide) (by decide)))
  replace F_third_a1 := F_third_a1.other W_h10 (Or.inr (slot_ne (Or.inl (hw _ (List.mem_of_getElem? (i := 50) rfl))) (Or.inl (hw _ (List.mem_of_getElem? (i := 48) rfl))) (by decide) (t := (.object "java/lang/Object")) (t' := (.object "java/lang/Object")) (by decide) (by decide)))
  replace F_spilled_a1 := F_spilled_a1.other W_h10 (Or.inr (slot_ne (Or.inl (hw _ (List.mem_of_getElem? (i := 38) rfl))) (Or.inl (hw _ (List.mem_of_getElem? (i := 48) rfl))) (by decide) (t := (.array (.object "java/lang/Object"))) (t' := (.object "java/lang/Object")) (by decide) (by decide)))
  replace F_size_a1 := F_size_a1.other W_h10 (Or.inr (slot_ne (Or.inl (hw _ (List.mem_of_getElem? (i := 40) rfl))) (Or.inl (hw _ (List.mem_of_getElem? (i := 48) rfl))) (by decide) (t := .int) (t' := (.object "java/lang/Object")) (by decide) (by decide)))
  replace F_second_a1 := Fn_
  replace E_a1 := En_
  replace I0 := I0.keep K_h10
  replace I1 := I1.keep K_h10
  replace I2 := I2.keep K_h10
  replace A_b4 := A_b4.keep K_h10 (ninS (Ne.symm ne_a1_b4) nin0)
  replace hz := Nat.le_trans hz K_h10.1
  replace KK := KK.trans K_h10 (allS (Or.inl (by simp)) all0)
  refine w_aloadN 61 C d14_60 rfl rfl rfl ?_
  refine w_null 62 C d14_61 rfl ?_
  refine w_putF (host := "") (ty := (.object "java/lang/Object")) 65 C F_third_a1 E_a1 g_a1 d14_62 rfl (Or.inl (hw _ (List.mem_of_getElem? (i := 49) rfl))) Via.refl (Or.inl (hw _ (List.mem_of_getElem? (i := 50) rfl))) (hw _ (List.mem_of_getElem? (i := 1) rfl)) (by decide) rfl rfl ?_
  intro h11 K_h11 W_h11 Fn_ En_
  replace F_modCount_a1 := F_modCount_a1.other W_h11 (Or.inr (slot_ne (Or.inl (hw _ (List.mem_of_getElem? (i := 21) rfl))) (Or.inl (hw _ (List.mem_of_getElem? (i := 50) rfl))) (by decide) (t := .int) (t' := (.object "java/lang/Object")) (by decide) (by decide)))
  replace F_first_a1 := F_first_a1.other W_h11 (Or.inr (slot_ne (Or.inl (hw _ (List.mem_of_getElem? (i := 46) rfl))) (Or.inl (hw _ (List.mem_of_getElem? (i := 50) rfl))) (by decide) (t := (.object "java/lang/Object")) (t' := (.object "java/lang/Object")) (by decide) (by decide)))
  replace F_second_a1 := F_second_a1.other W_h11 (Or.inr (slot_ne (Or.inl (hw _ (List.mem_of_getElem? (i := 48) rfl))) (Or.inl (hw _ (List.mem_of_getElem? (i := 50) rfl))) (by decide) (t := (.object "java/lang/Object")) (t' := (.object "java/lang/Object")) (by decide) (by decide)))
  replace F_spilled_a1 := F_spilled_a1.other W_h11 (Or.inr (slot_ne (Or.inl (hw _ (List.mem_of_getElem? (i := 38) rfl))) (Or.inl (hw _ (List.mem_of_getElem? (i := 50) rfl))) (by decide) (t := (.array (.object "java/lang/Object"))) (t' := (.object "java/lang/Object")) (by decide) (by decide)))
  replace F_size_a1 := F_size_a1.other W_h11 (Or.inr (slot_ne (Or.inl (hw _ (List.mem_of_getElem? (i := 40) rfl))) (Or.inl (hw _ (List.mem_of_getElem? (i := 50) rfl))) (by decide) (t := .int) (t' := (.object "java/lang/Object")) (by decide) (by decide)))
  replace F_third_a1 := Fn_
  replace E_a1 := En_
  replace I0 := I0.keep K_h11
  replace I1 := I1.keep K_h11
  replace I2 := I2.keep K_h11
  replace A_b4 := A_b4.keep K_h11 (ninS (Ne.symm ne_a1_b4) nin0)
  replace hz := Nat.le_trans hz K_h11.1
  replace KK := KK.trans K_h11 (allS (Or.inl (by simp)) all0)
  refine w_goto 105 C d14_65 rfl ?_
  refine w_ret C d14_105 (by decide) (by decide) ?_
  exact ⟨b4, rfl, ⟨_, KK, allS g_a1 all0⟩, E_a1, F_modCount_a1, F_first_a1, F_second_a1, F_third_a1, F_spilled_a1, F_size_a1, g_b4, A_b4⟩
set_option maxRecDepth 65536 in
set_option maxHeartbeats 40000000 in
theorem rm_rs (l : Launch) (Z : State) (a0 : Array Value) (hw : ∀ d ∈ tables_1, d.before a0 Z = true) (ws : List Jvm.Cond) (a1 t : Addr) (q mc sz : Int32) (f1 f2 f3 : Value) (vs : List Value) (h0 : Heap) (n0 : Nat) (hz : n0 ≤ h0.size) (E_a1 : Exa Z h0 a1 "com/example/wiretagg/wiretagg/CompactList") (g_a1 : n0 ≤ a1) (F_modCount_a1 : Fld Z h0 a1 "java/util/AbstractList" "modCount" "I" (.int mc)) (F_first_a1 : Fld Z h0 a1 "com/example/wiretagg/wiretagg/CompactList" "first" "Ljava/lang/Object;" f1) (F_second_a1 : Fld Z h0 a1 "com/example/wiretagg/wiretagg/CompactList" "second" "Ljava/lang/Object;" f2) (F_third_a1 : Fld Z h0 a1 "com/example/wiretagg/wiretagg/CompactList" "third" "Ljava/lang/Object;" f3) (F_spilled_a1 : Fld Z h0 a1 "com/example/wiretagg/wiretagg/CompactList" "spilled" "[Ljava/lang/Object;" (.ref t)) (F_size_a1 : Fld Z h0 a1 "com/example/wiretagg/wiretagg/CompactList" "size" "I" (.int sz)) (A_t : Ao Z h0 t "java/lang/Object" vs) (hq : q.toInt ≤ ((vs.length : Nat) : Int)) (hb15 : vs.length ≤ 15) :
    OwnMet l (⟨"com/example/wiretagg/wiretagg/CompactList", "room", "(I)V"⟩ : MethodName) prog_4_method_12_code 2 none ws ({ frames := 0, cells := 0, slots := 0, locals := 0 } : Room) Z h0 n0 #[.ref a1, .int q] (fun v h => v = none ∧ h0 = h) := by
  refine OwnMet.of (own := "com/example/wiretagg/wiretagg/CompactList") (name := "room") (desc := "(I)V") (Ls := [.val (.ref a1), .val (.int q)]) (plainFor_of_name pn_com_example_wiretagg_wiretagg_CompactList) (fun m => by first | (simp [entryFrame, mkF, argsToLocals, Value.category]; done) | rfl) ?_
  intro K hK C
  refine w_aloadN 1 C d14_0 rfl rfl rfl ?_
  refine w_getF (host := "") 4 C F_spilled_a1 d14_1 rfl (Or.inl (hw _ (List.mem_of_getElem? (i := 37) rfl))) Via.refl ?_
  refine w_nonnullY 68 C d14_4 rfl ?_
  refine w_iloadN 69 C d14_68 rfl rfl ?_
  refine w_aloadN 70 C d14_69 rfl rfl rfl ?_
  refine w_getF (host := "") 73 C F_spilled_a1 d14_70 rfl (Or.inl (hw _ (List.mem_of_getElem? (i := 37) rfl))) Via.refl ?_
  refine w_alen 74 vs.length.toInt32 C A_t d14_73 rfl rfl ?_
  refine w_icmpY 105 C d14_74 rfl (show q.toInt ≤ vs.length.toInt32.toInt from (by rw [len_toInt (by omega)]; exact hq)) ?_
  refine w_ret C d14_105 (by decide) (by decide) ?_
  exact ⟨rfl, rfl⟩
set_option maxRecDepth 65536 in
set_option maxHeartbeats 40000000 in
theorem rm_add (l : Launch) (Z : State) (a0 : Array Value) (hw : ∀ d ∈ tables_1, d.before a0 Z = true) (ws : List Jvm.Cond) (a1 x : Addr) (L : List Addr) (h0 : Heap) (n0 : Nat) (hz : n0 ≤ h0.size) (g_a1 : n0 ≤ a1) (CLS : own_cl Z n0 h0 a1 L) (hL : L.length ≤ 3) (Ix : Exa Z h0 x "java/lang/Integer") (IL : ∀ a ∈ L, Exa Z h0 a "java/lang/Integer") :
    OwnMet l (⟨"com/example/wiretagg/wiretagg/CompactList", "add", "(Ljava/lang/Object;)Z"⟩ : MethodName) prog_4_method_6_code 2 (some .boolean) ws ({ frames := 2, cells := 1, slots := 10, locals := 27 } : Room) Z h0 n0 #[.ref a1, .ref x] (fun v h => v = some (.int 1) ∧ (∃ ws, Keep h0 h ws ∧ ∀ x ∈ ws, n0 ≤ x) ∧ own_cl Z n0 h a1 (L ++ [x])) := by
  refine OwnMet.of (own := "com/example/wiretagg/wiretagg/CompactList") (name := "add") (desc := "(Ljava/lang/Object;)Z") (Ls := [.val (.ref a1), .val (.ref x)]) (plainFor_of_name pn_com_example_wiretagg_wiretagg_CompactList) (fun m => by first | (simp [entryFrame, mkF, argsToLocals, Value.category]; done) | rfl) ?_
  intro K hK C
  obtain ⟨E_a1, mc, sz, f1, f2, f3, sp, F_modCount_a1, F_first_a1, F_second_a1, F_third_a1, F_spilled_a1, F_size_a1, hsz, hL4, hcase⟩ := CLS
  have e1 : (1 : Int32).toInt = 1 := by decide
  have e3 : (3 : Int32).toInt = 3 := by decide
  have hs1 : (sz + (1 : Int32)).toInt = (((L ++ [x]).length : Nat) : Int) := by rw [own_iadd, hsz, e1]; simp; omega
  rcases hcase with ⟨rfl, hb3, q1, q2, q3⟩ | ⟨t, vs, rfl, A_t, g_t, hb4, hb15, hvs⟩
  · have KK : Keep h0 h0 [a1] := Keep.refl _ _
    refine w_aloadN 1 C d6_0 rfl rfl rfl ?_
    refine w_dup 2 C d6_1 rfl rfl ?_
    refine w_getF (host := "") 5 C F_modCount_a1 d6_2 rfl (Or.inl (hw _ (List.mem_of_getElem? (i := 35) rfl))) (Via.of (hw _ (List.mem_of_getElem? (i := 36) rfl))) ?_
    refine w_iconst 6 (1 : Int32) C d6_5 rfl rfl ?_
    refine w_iadd 7 C d6_6 rfl ?_
    refine w_putF (host := "") (ty := .int) 10 C F_modCount_a1 E_a1 g_a1 d6_7 rfl (Or.inl (hw _ (List.mem_of_getElem? (i := 35) rfl))) (Via.of (hw _ (List.mem_of_getElem? (i := 36) rfl))) (Or.inl (hw _ (List.mem_of_getElem? (i := 21) rfl))) (hw _ (List.mem_of_getElem? (i := 1) rfl)) (by decide) rfl rfl ?_
    intro h1 K_h1 W_h1 Fn_ En_
    replace F_first_a1 := F_first_a1.other W_h1 (Or.inr (slot_ne (Or.inl (hw _ (List.mem_of_getElem? (i := 46) rfl))) (Or.inl (hw _ (List.mem_of_getElem? (i := 21) rfl))) (by decide) (t := (.object "java/lang/Object")) (t' := .int) (by decide) (by decide)))
    replace F_second_a1 := F_second_a1.other W_h1 (Or.inr (slot_ne (Or.inl (hw _ (List.mem_of_getElem? (i := 48) rfl))) (Or.inl (hw _ (List.mem_of_getElem? (i := 21) rfl))) (by decide) (t := (.object "java/lang/Object")) (t' := .int) (by decide) (by decide)))
    replace F_third_a1 := F_third_a1.other W_h1 (Or.inr (slot_ne (Or.inl (hw _ (List.mem_of_getElem? (i := 50) rfl))) (Or.inl (hw _ (List.mem_of_getElem? (i := 21) rfl))) (by decide) (t := (.object "java/lang/Object")) (t' := .int) (by decide) (by decide)))
    replace F_spilled_a1 := F_spilled_a1.other W_h1 (Or.inr (slot_ne (Or.inl (hw _ (List.mem_of_getElem? (i := 38) rfl))) (Or.inl (hw _ (List.mem_of_getElem? (i := 21) rfl))) (by decide) (t := (.array (.object "java/lang/Object"))) (t' := .int) (by decide) (by decide)))
    replace F_size_a1 := F_size_a1.other W_h1 (Or.inr (slot_ne (Or.inl (hw _ (List.mem_of_getElem? (i := 40) rfl))) (Or.inl (hw _ (List.mem_of_getElem? (i := 21) rfl))) (by decide) (t := .int) (t' := .int) (by decide) (by decide)))
    replace F_modCount_a1 := Fn_
    replace E_a1 := En_
    replace Ix := Ix.keep K_h1
    replace hz := Nat.le_trans hz K_h1.1
    replace KK := KK.trans K_h1 (allS (Or.inl (by simp)) all0)
    refine w_aloadN 11 C d6_10 rfl rfl rfl ?_
    refine w_getF (host := "") 14 C F_spilled_a1 d6_11 rfl (Or.inl (hw _ (List.mem_of_getElem? (i := 37) rfl))) Via.refl ?_
    refine w_nonnullN 17 C d6_14 rfl ?_
    refine w_aloadN 18 C d6_17 rfl rfl rfl ?_
    refine w_getF (host := "") 21 C F_size_a1 d6_18 rfl (Or.inl (hw _ (List.mem_of_getElem? (i := 39) rfl))) Via.refl ?_
    refine w_iconst 22 (3 : Int32) C d6_21 rfl rfl ?_
    refine w_icmp 37 25 C d6_22 rfl rfl (fun (hc22 : (3 : Int32).toInt ≤ sz.toInt) => ?_) (fun (hc22 : ¬ ((3 : Int32).toInt ≤ sz.toInt)) => ?_)
    · have hl3 : L.length = 3 := by omega
      obtain ⟨x0, x1, x2, rfl⟩ : ∃ x0 x1 x2, L = [x0, x1, x2] := by
        match L, hl3 with
        | [x0, x1, x2], _ => exact ⟨x0, x1, x2, rfl⟩
      obtain rfl := q1 x0 rfl
      obtain rfl := q2 x1 rfl
      obtain rfl := q3 x2 rfl
      have I0 := IL x0 (by simp)
      have I1 := IL x1 (by simp)
      have I2 := IL x2 (by simp)
      refine w_aloadN 38 C d6_37 rfl rfl rfl ?_
      refine w_aloadN 39 C d6_38 rfl rfl rfl ?_
      refine w_getF (host := "") 42 C F_size_a1 d6_39 rfl (Or.inl (hw _ (List.mem_of_getElem? (i := 39) rfl))) Via.refl ?_
      refine w_iconst 43 (1 : Int32) C d6_42 rfl rfl ?_
      refine w_iadd 44 C d6_43 rfl ?_
      obtain rfl : sz = (3 : Int32) := own_eq (by rw [hsz]; show ((3 : Nat) : Int) = (3 : Int32).toInt; decide)
      rw [show ((3 : Int32) + (1 : Int32)) = (4 : Int32) from by decide]
      show Go K h1 0 0 44 [.val (.ref a1), .val (.ref x)] [.int (4 : Int32), .ref a1]
      replace I0 := I0.keep K_h1
      replace I1 := I1.keep K_h1
      replace I2 := I2.keep K_h1
      refine w_callP (y := (⟨"com/example/wiretagg/wiretagg/CompactList", "room", "(I)V"⟩ : MethodName)) (z := (⟨"com/example/wiretagg/wiretagg/CompactList", "add", "(Ljava/lang/Object;)Z"⟩ : MethodName)) (a := a1) 47 0 [.int (4 : Int32)] C E_a1 d6_44 rfl (hw _ (List.mem_of_getElem? (i := 78) rfl)) (hw _ (List.mem_of_getElem? (i := 80) rfl)) (hw _ (List.mem_of_getElem? (i := 33) rfl)) rfl (hw _ (List.mem_of_getElem? (i := 79) rfl)) (hw _ (List.mem_of_getElem? (i := 2) rfl)) (hw _ (List.mem_of_getElem? (i := 81) rfl)) (by decide) (rm_ro K.l Z a0 hw [] a1 x0 x1 x2 (mc + (1 : Int32)) (3 : Int32) h1 n0 hz E_a1 g_a1 F_modCount_a1 F_first_a1 F_second_a1 F_third_a1 F_spilled_a1 F_size_a1 I0 I1 I2) pd_I_to_V rfl (rest := []) rfl rfl (Nat.le_of_eq rfl) (by decide) (by decide) (by decide) (by decide) ?_
      rintro v2 hR ⟨t, rfl, ⟨ws, K9, hws⟩, E_a1, F_modCount_a1, F_first_a1, F_second_a1, F_third_a1, F_spilled_a1, F_size_a1, g_t, A_t⟩
      show Go K hR 1 10 47 [.val (.ref a1), .val (.ref x)] []
      replace Ix := Ix.keep K9
      replace hz := Nat.le_trans hz K9.1
      have KA : ∃ ws, Keep h0 hR ws ∧ ∀ x ∈ ws, n0 ≤ x := ⟨a1 :: ws, own_keep_more KK K9, fun y hy => by rcases List.mem_cons.mp hy with rfl | q; exact g_a1; exact hws y q⟩
      have ne_a1_t : a1 ≠ t := by obtain ⟨ct, At, -⟩ := A_t; exact ne_arr E_a1 (hw _ (List.mem_of_getElem? (i := 1) rfl)) At
      refine w_aloadN 48 C d6_47 rfl rfl rfl ?_
      refine w_getF (host := "") 51 C F_spilled_a1 d6_48 rfl (Or.inl (hw _ (List.mem_of_getElem? (i := 37) rfl))) Via.refl ?_
      refine w_aloadN 52 C d6_51 rfl rfl rfl ?_
      refine w_getF (host := "") 55 C F_size_a1 d6_52 rfl (Or.inl (hw _ (List.mem_of_getElem? (i := 39) rfl))) Via.refl ?_
      refine w_aloadN 56 C d6_55 rfl rfl rfl ?_
      obtain ⟨ws, KA, hws⟩ := KA
      refine w_aastore 57 (3) C A_t g_t d6_56 rfl (by decide) (Nat.le_of_ble_eq_true rfl) (Or.inr (own_cl_in (hw _ (List.mem_of_getElem? (i := 88) rfl)) Ix)) ?_
      intro h3 K_h3 A_t'
      replace A_t : Ao Z h3 t "java/lang/Object" ([.ref x0, .ref x1, .ref x2, .ref x, .null, .null, .null, .null, .null, .null]) := A_t'
      replace E_a1 := E_a1.keep K_h3
      replace F_modCount_a1 := F_modCount_a1.keep K_h3 (ninS ne_a1_t nin0)
      replace F_first_a1 := F_first_a1.keep K_h3 (ninS ne_a1_t nin0)
      replace F_second_a1 := F_second_a1.keep K_h3 (ninS ne_a1_t nin0)
      replace F_third_a1 := F_third_a1.keep K_h3 (ninS ne_a1_t nin0)
      replace F_spilled_a1 := F_spilled_a1.keep K_h3 (ninS ne_a1_t nin0)
      replace F_size_a1 := F_size_a1.keep K_h3 (ninS ne_a1_t nin0)
      replace Ix := Ix.keep K_h3
      replace hz := Nat.le_trans hz K_h3.1
      replace KA := own_keep_more KA K_h3
      refine w_aloadN 58 C d6_57 rfl rfl rfl ?_
      refine w_dup 59 C d6_58 rfl rfl ?_
      refine w_getF (host := "") 62 C F_size_a1 d6_59 rfl (Or.inl (hw _ (List.mem_of_getElem? (i := 39) rfl))) Via.refl ?_
      refine w_iconst 63 (1 : Int32) C d6_62 rfl rfl ?_
      refine w_iadd 64 C d6_63 rfl ?_
      refine w_putF (host := "") (ty := .int) 67 C F_size_a1 E_a1 g_a1 d6_64 rfl (Or.inl (hw _ (List.mem_of_getElem? (i := 39) rfl))) Via.refl (Or.inl (hw _ (List.mem_of_getElem? (i := 40) rfl))) (hw _ (List.mem_of_getElem? (i := 1) rfl)) (by decide) rfl rfl ?_
      intro h4 K_h4 W_h4 Fn_ En_
      replace F_modCount_a1 := F_modCount_a1.other W_h4 (Or.inr (slot_ne (Or.inl (hw _ (List.mem_of_getElem? (i := 21) rfl))) (Or.inl (hw _ (List.mem_of_getElem? (i := 40) rfl))) (by decide) (t := .int) (t' := .int) (by decide) (by decide)))
      replace F_first_a1 := F_first_a1.other W_h4 (Or.inr (slot_ne (Or.inl (hw _ (List.mem_of_getElem? (i := 46) rfl))) (Or.inl (hw _ (List.mem_of_getElem? (i := 40) rfl))) (by decide) (t := (.object "java/lang/Object")) (t' := .int) (by decide) (by decide)))
      replace F_second_a1 := F_second_a1.other W_h4 (Or.inr (slot_ne (Or.inl (hw _ (List.mem_of_getElem? (i := 48) rfl))) (Or.inl (hw _ (List.mem_of_getElem? (i := 40) rfl))) (by decide) (t := (.object "java/lang/Object")) (t' := .int) (by decide) (by decide)))
      replace F_third_a1 := F_third_a1.other W_h4 (Or.inr (slot_ne (Or.inl (hw _ (List.mem_of_getElem? (i := 50) rfl))) (Or.inl (hw _ (List.mem_of_getElem? (i := 40) rfl))) (by decide) (t := (.object "java/lang/Object")) (t' := .int) (by decide) (by decide)))
      replace F_spilled_a1 := F_spilled_a1.other W_h4 (Or.inr (slot_ne (Or.inl (hw _ (List.mem_of_getElem? (i := 38) rfl))) (Or.inl (hw _ (List.mem_of_getElem? (i := 40) rfl))) (by decide) (t := (.array (.object "java/lang/Object"))) (t' := .int) (by decide) (by decide)))
      replace F_size_a1 := Fn_
      replace E_a1 := En_
      replace Ix := Ix.keep K_h4
      replace A_t := A_t.keep K_h4 (ninS (Ne.symm ne_a1_t) nin0)
      replace hz := Nat.le_trans hz K_h4.1
      refine w_iconst 68 (1 : Int32) C d6_67 rfl rfl ?_
      replace KA := own_keep_more KA K_h4
      refine w_retN C (by simp) d6_68 rfl (by decide) (by decide) ?_
      exact ⟨rfl, ⟨_, KA, fun y hy => by simp only [List.mem_append, List.mem_cons, List.not_mem_nil, or_false] at hy; rcases hy with (hy | rfl) | rfl; exact hws y hy; exact g_t; exact g_a1⟩, E_a1, _, _, _, _, _, _, F_modCount_a1, F_first_a1, F_second_a1, F_third_a1, F_spilled_a1, F_size_a1, by show ((3 : Int32) + 1).toInt = ((4 : Nat) : Int); decide, by simp, Or.inr ⟨t, _, rfl, A_t, g_t, by simp, by simp, fun i a hi => by match i, hi with | 0, hi => simpa using hi | 1, hi => simpa using hi | 2, hi => simpa using hi | 3, hi => simpa using hi | (n + 4), hi => simp at hi⟩⟩
    · have hlt : L.length ≤ 2 := by omega
      have hcs : L.length = 0 ∨ L.length = 1 ∨ L.length = 2 := by omega
      rcases hcs with g | g | g
      · obtain rfl : sz = (0 : Int32) := own_eq (by rw [hsz, g]; decide)
        refine w_aloadN 26 C d6_25 rfl rfl rfl ?_
        refine w_aloadN 27 C d6_26 rfl rfl rfl ?_
        refine w_getF (host := "") 30 C F_size_a1 d6_27 rfl (Or.inl (hw _ (List.mem_of_getElem? (i := 39) rfl))) Via.refl ?_
        refine w_aloadN 31 C d6_30 rfl rfl rfl ?_
        refine w_callP (y := (⟨"com/example/wiretagg/wiretagg/CompactList", "place", "(ILjava/lang/Object;)V"⟩ : MethodName)) (z := (⟨"com/example/wiretagg/wiretagg/CompactList", "add", "(Ljava/lang/Object;)Z"⟩ : MethodName)) (a := a1) 34 0 [.int (0 : Int32), .ref x] C E_a1 d6_31 rfl (hw _ (List.mem_of_getElem? (i := 41) rfl)) (hw _ (List.mem_of_getElem? (i := 43) rfl)) (hw _ (List.mem_of_getElem? (i := 33) rfl)) rfl (hw _ (List.mem_of_getElem? (i := 42) rfl)) (hw _ (List.mem_of_getElem? (i := 2) rfl)) (hw _ (List.mem_of_getElem? (i := 44) rfl)) (by decide) (rm_pl0 K.l Z a0 hw [] a1 x (mc + (1 : Int32)) (0 : Int32) f1 f2 f3 h1 n0 hz E_a1 g_a1 F_modCount_a1 F_first_a1 F_second_a1 F_third_a1 F_spilled_a1 F_size_a1) pd_ILjava_lang_Object_to_V rfl (rest := []) rfl rfl (Nat.le_of_eq rfl) (by decide) (by decide) (by decide) (by decide) ?_
        rintro v5 hP ⟨rfl, K9, E_a1, F_modCount_a1, F_first_a1, F_second_a1, F_third_a1, F_spilled_a1, F_size_a1⟩
        show Go K hP 0 0 34 [.val (.ref a1), .val (.ref x)] []
        replace Ix := Ix.keep K9
        replace hz := Nat.le_trans hz K9.1
        replace KK := KK.trans K9 (allS (Or.inl (by simp)) all0)
        refine w_goto 57 C d6_34 rfl ?_
        refine w_aloadN 58 C d6_57 rfl rfl rfl ?_
        refine w_dup 59 C d6_58 rfl rfl ?_
        refine w_getF (host := "") 62 C F_size_a1 d6_59 rfl (Or.inl (hw _ (List.mem_of_getElem? (i := 39) rfl))) Via.refl ?_
        refine w_iconst 63 (1 : Int32) C d6_62 rfl rfl ?_
        refine w_iadd 64 C d6_63 rfl ?_
        refine w_putF (host := "") (ty := .int) 67 C F_size_a1 E_a1 g_a1 d6_64 rfl (Or.inl (hw _ (List.mem_of_getElem? (i := 39) rfl))) Via.refl (Or.inl (hw _ (List.mem_of_getElem? (i := 40) rfl))) (hw _ (List.mem_of_getElem? (i := 1) rfl)) (by decide) rfl rfl ?_
        intro h6 K_h6 W_h6 Fn_ En_
        replace F_modCount_a1 := F_modCount_a1.other W_h6 (Or.inr (slot_ne (Or.inl (hw _ (List.mem_of_getElem? (i := 21) rfl))) (Or.inl (hw _ (List.mem_of_getElem? (i := 40) rfl))) (by decide) (t := .int) (t' := .int) (by decide) (by decide)))
        replace F_first_a1 := F_first_a1.other W_h6 (Or.inr (slot_ne (Or.inl (hw _ (List.mem_of_getElem? (i := 46) rfl))) (Or.inl (hw _ (List.mem_of_getElem? (i := 40) rfl))) (by decide) (t := (.object "java/lang/Object")) (t' := .int) (by decide) (by decide)))
        replace F_second_a1 := F_second_a1.other W_h6 (Or.inr (slot_ne (Or.inl (hw _ (List.mem_of_getElem? (i := 48) rfl))) (Or.inl (hw _ (List.mem_of_getElem? (i := 40) rfl))) (by decide) (t := (.object "java/lang/Object")) (t' := .int) (by decide) (by decide)))
        replace F_third_a1 := F_third_a1.other W_h6 (Or.inr (slot_ne (Or.inl (hw _ (List.mem_of_getElem? (i := 50) rfl))) (Or.inl (hw _ (List.mem_of_getElem? (i := 40) rfl))) (by decide) (t := (.object "java/lang/Object")) (t' := .int) (by decide) (by decide)))
        replace F_spilled_a1 := F_spilled_a1.other W_h6 (Or.inr (slot_ne (Or.inl (hw _ (List.mem_of_getElem? (i := 38) rfl))) (Or.inl (hw _ (List.mem_of_getElem? (i := 40) rfl))) (by decide) (t := (.array (.object "java/lang/Object"))) (t' := .int) (by decide) (by decide)))
        replace F_size_a1 := Fn_
        replace E_a1 := En_
        replace Ix := Ix.keep K_h6
        replace hz := Nat.le_trans hz K_h6.1
        replace KK := KK.trans K_h6 (allS (Or.inl (by simp)) all0)
        refine w_iconst 68 (1 : Int32) C d6_67 rfl rfl ?_
        obtain rfl : L = [] := List.length_eq_zero_iff.mp g
        refine w_retN C (by simp) d6_68 rfl (by decide) (by decide) ?_
        exact ⟨rfl, ⟨_, KK, allS g_a1 all0⟩, E_a1, _, _, _, _, _, _, F_modCount_a1, F_first_a1, F_second_a1, F_third_a1, F_spilled_a1, F_size_a1, hs1, by simp, Or.inl ⟨rfl, by simp, by simp, by simp, by simp⟩⟩
      · obtain rfl : sz = (1 : Int32) := own_eq (by rw [hsz, g]; decide)
        refine w_aloadN 26 C d6_25 rfl rfl rfl ?_
        refine w_aloadN 27 C d6_26 rfl rfl rfl ?_
        refine w_getF (host := "") 30 C F_size_a1 d6_27 rfl (Or.inl (hw _ (List.mem_of_getElem? (i := 39) rfl))) Via.refl ?_
        refine w_aloadN 31 C d6_30 rfl rfl rfl ?_
        refine w_callP (y := (⟨"com/example/wiretagg/wiretagg/CompactList", "place", "(ILjava/lang/Object;)V"⟩ : MethodName)) (z := (⟨"com/example/wiretagg/wiretagg/CompactList", "add", "(Ljava/lang/Object;)Z"⟩ : MethodName)) (a := a1) 34 0 [.int (1 : Int32), .ref x] C E_a1 d6_31 rfl (hw _ (List.mem_of_getElem? (i := 41) rfl)) (hw _ (List.mem_of_getElem? (i := 43) rfl)) (hw _ (List.mem_of_getElem? (i := 33) rfl)) rfl (hw _ (List.mem_of_getElem? (i := 42) rfl)) (hw _ (List.mem_of_getElem? (i := 2) rfl)) (hw _ (List.mem_of_getElem? (i := 44) rfl)) (by decide) (rm_pl1 K.l Z a0 hw [] a1 x (mc + (1 : Int32)) (1 : Int32) f1 f2 f3 h1 n0 hz E_a1 g_a1 F_modCount_a1 F_first_a1 F_second_a1 F_third_a1 F_spilled_a1 F_size_a1) pd_ILjava_lang_Object_to_V rfl (rest := []) rfl rfl (Nat.le_of_eq rfl) (by decide) (by decide) (by decide) (by decide) ?_
        rintro v7 hP ⟨rfl, K9, E_a1, F_modCount_a1, F_first_a1, F_second_a1, F_third_a1, F_spilled_a1, F_size_a1⟩
        show Go K hP 0 0 34 [.val (.ref a1), .val (.ref x)] []
        replace Ix := Ix.keep K9
        replace hz := Nat.le_trans hz K9.1
        replace KK := KK.trans K9 (allS (Or.inl (by simp)) all0)
        refine w_goto 57 C d6_34 rfl ?_
        refine w_aloadN 58 C d6_57 rfl rfl rfl ?_
        refine w_dup 59 C d6_58 rfl rfl ?_
        refine w_getF (host := "") 62 C F_size_a1 d6_59 rfl (Or.inl (hw _ (List.mem_of_getElem? (i := 39) rfl))) Via.refl ?_
        refine w_iconst 63 (1 : Int32) C d6_62 rfl rfl ?_
        refine w_iadd 64 C d6_63 rfl ?_
        refine w_putF (host := "") (ty := .int) 67 C F_size_a1 E_a1 g_a1 d6_64 rfl (Or.inl (hw _ (List.mem_of_getElem? (i := 39) rfl))) Via.refl (Or.inl (hw _ (List.mem_of_getElem? (i := 40) rfl))) (hw _ (List.mem_of_getElem? (i := 1) rfl)) (by decide) rfl rfl ?_
        intro h8 K_h8 W_h8 Fn_ En_
        replace F_modCount_a1 := F_modCount_a1.other W_h8 (Or.inr (slot_ne (Or.inl (hw _ (List.mem_of_getElem? (i := 21) rfl))) (Or.inl (hw _ (List.mem_of_getElem? (i := 40) rfl))) (by decide) (t := .int) (t' := .int) (by decide) (by decide)))
        replace F_first_a1 := F_first_a1.other W_h8 (Or.inr (slot_ne (Or.inl (hw _ (List.mem_of_getElem? (i := 46) rfl))) (Or.inl (hw _ (List.mem_of_getElem? (i := 40) rfl))) (by decide) (t := (.object "java/lang/Object")) (t' := .int) (by decide) (by decide)))
        replace F_second_a1 := F_second_a1.other W_h8 (Or.inr (slot_ne (Or.inl (hw _ (List.mem_of_getElem? (i := 48) rfl))) (Or.inl (hw _ (List.mem_of_getElem? (i := 40) rfl))) (by decide) (t := (.object "java/lang/Object")) (t' := .int) (by decide) (by decide)))
        replace F_third_a1 := F_third_a1.other W_h8 (Or.inr (slot_ne (Or.inl (hw _ (List.mem_of_getElem? (i := 50) rfl))) (Or.inl (hw _ (List.mem_of_getElem? (i := 40) rfl))) (by decide) (t := (.object "java/lang/Object")) (t' := .int) (by decide) (by decide)))
        replace F_spilled_a1 := F_spilled_a1.other W_h8 (Or.inr (slot_ne (Or.inl (hw _ (List.mem_of_getElem? (i := 38) rfl))) (Or.inl (hw _ (List.mem_of_getElem? (i := 40) rfl))) (by decide) (t := (.array (.object "java/lang/Object"))) (t' := .int) (by decide) (by decide)))
        replace F_size_a1 := Fn_
        replace E_a1 := En_
        replace Ix := Ix.keep K_h8
        replace hz := Nat.le_trans hz K_h8.1
        replace KK := KK.trans K_h8 (allS (Or.inl (by simp)) all0)
        refine w_iconst 68 (1 : Int32) C d6_67 rfl rfl ?_
        obtain ⟨x0, rfl⟩ : ∃ x0, L = [x0] := by match L, g with | [x0], _ => exact ⟨x0, rfl⟩
        refine w_retN C (by simp) d6_68 rfl (by decide) (by decide) ?_
        exact ⟨rfl, ⟨_, KK, allS g_a1 all0⟩, E_a1, _, _, _, _, _, _, F_modCount_a1, F_first_a1, F_second_a1, F_third_a1, F_spilled_a1, F_size_a1, hs1, by simp, Or.inl ⟨rfl, by simp, by simpa using q1, by simp, by simp⟩⟩
      · obtain rfl : sz = (2 : Int32) := own_eq (by rw [hsz, g]; decide)
        refine w_aloadN 26 C d6_25 rfl rfl rfl ?_
        refine w_aloadN 27 C d6_26 rfl rfl rfl ?_
        refine w_getF (host := "") 30 C F_size_a1 d6_27 rfl (Or.inl (hw _ (List.mem_of_getElem? (i := 39) rfl))) Via.refl ?_
        refine w_aloadN 31 C d6_30 rfl rfl rfl ?_
        refine w_callP (y := (⟨"com/example/wiretagg/wiretagg/CompactList", "place", "(ILjava/lang/Object;)V"⟩ : MethodName)) (z := (⟨"com/example/wiretagg/wiretagg/CompactList", "add", "(Ljava/lang/Object;)Z"⟩ : MethodName)) (a := a1) 34 0 [.int (2 : Int32), .ref x] C E_a1 d6_31 rfl (hw _ (List.mem_of_getElem? (i := 41) rfl)) (hw _ (List.mem_of_getElem? (i := 43) rfl)) (hw _ (List.mem_of_getElem? (i := 33) rfl)) rfl (hw _ (List.mem_of_getElem? (i := 42) rfl)) (hw _ (List.mem_of_getElem? (i := 2) rfl)) (hw _ (List.mem_of_getElem? (i := 44) rfl)) (by decide) (rm_pl2 K.l Z a0 hw [] a1 x (mc + (1 : Int32)) (2 : Int32) f1 f2 f3 h1 n0 hz E_a1 g_a1 F_modCount_a1 F_first_a1 F_second_a1 F_third_a1 F_spilled_a1 F_size_a1) pd_ILjava_lang_Object_to_V rfl (rest := []) rfl rfl (Nat.le_of_eq rfl) (by decide) (by decide) (by decide) (by decide) ?_
        rintro v9 hP ⟨rfl, K9, E_a1, F_modCount_a1, F_first_a1, F_second_a1, F_third_a1, F_spilled_a1, F_size_a1⟩
        show Go K hP 0 0 34 [.val (.ref a1), .val (.ref x)] []
        replace Ix := Ix.keep K9
        replace hz := Nat.le_trans hz K9.1
        replace KK := KK.trans K9 (allS (Or.inl (by simp)) all0)
        refine w_goto 57 C d6_34 rfl ?_
        refine w_aloadN 58 C d6_57 rfl rfl rfl ?_
        refine w_dup 59 C d6_58 rfl rfl ?_
        refine w_getF (host := "") 62 C F_size_a1 d6_59 rfl (Or.inl (hw _ (List.mem_of_getElem? (i := 39) rfl))) Via.refl ?_
        refine w_iconst 63 (1 : Int32) C d6_62 rfl rfl ?_
        refine w_iadd 64 C d6_63 rfl ?_
        refine w_putF (host := "") (ty := .int) 67 C F_size_a1 E_a1 g_a1 d6_64 rfl (Or.inl (hw _ (List.mem_of_getElem? (i := 39) rfl))) Via.refl (Or.inl (hw _ (List.mem_of_getElem? (i := 40) rfl))) (hw _ (List.mem_of_getElem? (i := 1) rfl)) (by decide) rfl rfl ?_
        intro h10 K_h10 W_h10 Fn_ En_
        replace F_modCount_a1 := F_modCount_a1.other W_h10 (Or.inr (slot_ne (Or.inl (hw _ (List.mem_of_getElem? (i := 21) rfl))) (Or.inl (hw _ (List.mem_of_getElem? (i := 40) rfl))) (by decide) (t := .int) (t' := .int) (by decide) (by decide)))
        replace F_first_a1 := F_first_a1.other W_h10 (Or.inr (slot_ne (Or.inl (hw _ (List.mem_of_getElem? (i := 46) rfl))) (Or.inl (hw _ (List.mem_of_getElem? (i := 40) rfl))) (by decide) (t := (.object "java/lang/Object")) (t' := .int) (by decide) (by decide)))
        replace F_second_a1 := F_second_a1.other W_h10 (Or.inr (slot_ne (Or.inl (hw _ (List.mem_of_getElem? (i := 48) rfl))) (Or.inl (hw _ (List.mem_of_getElem? (i := 40) rfl))) (by decide) (t := (.object "java/lang/Object")) (t' := .int) (by decide) (by decide)))
        replace F_third_a1 := F_third_a1.other W_h10 (Or.inr (slot_ne (Or.inl (hw _ (List.mem_of_getElem? (i := 50) rfl))) (Or.inl (hw _ (List.mem_of_getElem? (i := 40) rfl))) (by decide) (t := (.object "java/lang/Object")) (t' := .int) (by decide) (by decide)))
        replace F_spilled_a1 := F_spilled_a1.other W_h10 (Or.inr (slot_ne (Or.inl (hw _ (List.mem_of_getElem? (i := 38) rfl))) (Or.inl (hw _ (List.mem_of_getElem? (i := 40) rfl))) (by decide) (t := (.array (.object "java/lang/Object"))) (t' := .int) (by decide) (by decide)))
        replace F_size_a1 := Fn_
        replace E_a1 := En_
        replace Ix := Ix.keep K_h10
        replace hz := Nat.le_trans hz K_h10.1
        replace KK := KK.trans K_h10 (allS (Or.inl (by simp)) all0)
        refine w_iconst 68 (1 : Int32) C d6_67 rfl rfl ?_
        obtain ⟨x0, x1, rfl⟩ : ∃ x0 x1, L = [x0, x1] := by match L, g with | [x0, x1], _ => exact ⟨x0, x1, rfl⟩
        refine w_retN C (by simp) d6_68 rfl (by decide) (by decide) ?_
        exact ⟨rfl, ⟨_, KK, allS g_a1 all0⟩, E_a1, _, _, _, _, _, _, F_modCount_a1, F_first_a1, F_second_a1, F_third_a1, F_spilled_a1, F_size_a1, hs1, by simp, Or.inl ⟨rfl, by simp, by simpa using q1, by simpa using q2, by simp⟩⟩
  · have KK : Keep h0 h0 [a1] := Keep.refl _ _
    have ne_a1_t : a1 ≠ t := by obtain ⟨ct, At, -⟩ := A_t; exact ne_arr E_a1 (hw _ (List.mem_of_getElem? (i := 1) rfl)) At
    refine w_aloadN 1 C d6_0 rfl rfl rfl ?_
    refine w_dup 2 C d6_1 rfl rfl ?_
    refine w_getF (host := "") 5 C F_modCount_a1 d6_2 rfl (Or.inl (hw _ (List.mem_of_getElem? (i := 35) rfl))) (Via.of (hw _ (List.mem_of_getElem? (i := 36) rfl))) ?_
    refine w_iconst 6 (1 : Int32) C d6_5 rfl rfl ?_
    refine w_iadd 7 C d6_6 rfl ?_
    refine w_putF (host := "") (ty := .int) 10 C F_modCount_a1 E_a1 g_a1 d6_7 rfl (Or.inl (hw _ (List.mem_of_getElem? (i := 35) rfl))) (Via.of (hw _ (List.mem_of_getElem? (i := 36) rfl))) (Or.inl (hw _ (List.mem_of_getElem? (i := 21) rfl))) (hw _ (List.mem_of_getElem? (i := 1) rfl)) (by decide) rfl rfl ?_
    intro h11 K_h11 W_h11 Fn_ En_
    replace F_first_a1 := F_first_a1.other W_h11 (Or.inr (slot_ne (Or.inl (hw _ (List.mem_of_getElem? (i := 46) rfl))) (Or.inl (hw _ (List.mem_of_getElem? (i := 21) rfl))) (by decide) (t := (.object "java/lang/Object")) (t' := .int) (by decide) (by decide)))
    replace F_second_a1 := F_second_a1.other W_h11 (Or.inr (slot_ne (Or.inl (hw _ (List.mem_of_getElem? (i := 48) rfl))) (Or.inl (hw _ (List.mem_of_getElem? (i := 21) rfl))) (by decide) (t := (.object "java/lang/Object")) (t' := .int) (by decide) (by decide)))
    replace F_third_a1 := F_third_a1.other W_h11 (Or.inr (slot_ne (Or.inl (hw _ (List.mem_of_getElem? (i := 50) rfl))) (Or.inl (hw _ (List.mem_of_getElem? (i := 21) rfl))) (by decide) (t := (.object "java/lang/Object")) (t' := .int) (by decide) (by decide)))
    replace F_spilled_a1 := F_spilled_a1.other W_h11 (Or.inr (slot_ne (Or.inl (hw _ (List.mem_of_getElem? (i := 38) rfl))) (Or.inl (hw _ (List.mem_of_getElem? (i := 21) rfl))) (by decide) (t := (.array (.object "java/lang/Object"))) (t' := .int) (by decide) (by decide)))
    replace F_size_a1 := F_size_a1.other W_h11 (Or.inr (slot_ne (Or.inl (hw _ (List.mem_of_getElem? (i := 40) rfl))) (Or.inl (hw _ (List.mem_of_getElem? (i := 21) rfl))) (by decide) (t := .int) (t' := .int) (by decide) (by decide)))
    replace F_modCount_a1 := Fn_
    replace E_a1 := En_
    replace Ix := Ix.keep K_h11
    replace A_t := A_t.keep K_h11 (ninS (Ne.symm ne_a1_t) nin0)
    replace hz := Nat.le_trans hz K_h11.1
    replace KK := KK.trans K_h11 (allS (Or.inl (by simp)) all0)
    refine w_aloadN 11 C d6_10 rfl rfl rfl ?_
    refine w_getF (host := "") 14 C F_spilled_a1 d6_11 rfl (Or.inl (hw _ (List.mem_of_getElem? (i := 37) rfl))) Via.refl ?_
    refine w_nonnullY 37 C d6_14 rfl ?_
    refine w_aloadN 38 C d6_37 rfl rfl rfl ?_
    refine w_aloadN 39 C d6_38 rfl rfl rfl ?_
    refine w_getF (host := "") 42 C F_size_a1 d6_39 rfl (Or.inl (hw _ (List.mem_of_getElem? (i := 39) rfl))) Via.refl ?_
    refine w_iconst 43 (1 : Int32) C d6_42 rfl rfl ?_
    refine w_iadd 44 C d6_43 rfl ?_
    refine w_callP (y := (⟨"com/example/wiretagg/wiretagg/CompactList", "room", "(I)V"⟩ : MethodName)) (z := (⟨"com/example/wiretagg/wiretagg/CompactList", "add", "(Ljava/lang/Object;)Z"⟩ : MethodName)) (a := a1) 47 0 [.int (sz + (1 : Int32))] C E_a1 d6_44 rfl (hw _ (List.mem_of_getElem? (i := 78) rfl)) (hw _ (List.mem_of_getElem? (i := 80) rfl)) (hw _ (List.mem_of_getElem? (i := 33) rfl)) rfl (hw _ (List.mem_of_getElem? (i := 79) rfl)) (hw _ (List.mem_of_getElem? (i := 2) rfl)) (hw _ (List.mem_of_getElem? (i := 81) rfl)) (by decide) (rm_rs K.l Z a0 hw [] a1 t (sz + (1 : Int32)) (mc + (1 : Int32)) sz f1 f2 f3 vs h11 n0 hz E_a1 g_a1 F_modCount_a1 F_first_a1 F_second_a1 F_third_a1 F_spilled_a1 F_size_a1 A_t (by rw [hs1]; simp; omega) hb15) pd_I_to_V rfl (rest := []) rfl rfl (Nat.le_of_eq rfl) (by decide) (by decide) (by decide) (by decide) ?_
    rintro v13 h12 ⟨rfl, rfl⟩
    show Go K h11 0 0 47 [.val (.ref a1), .val (.ref x)] []
    refine w_aloadN 48 C d6_47 rfl rfl rfl ?_
    refine w_getF (host := "") 51 C F_spilled_a1 d6_48 rfl (Or.inl (hw _ (List.mem_of_getElem? (i := 37) rfl))) Via.refl ?_
    refine w_aloadN 52 C d6_51 rfl rfl rfl ?_
    refine w_getF (host := "") 55 C F_size_a1 d6_52 rfl (Or.inl (hw _ (List.mem_of_getElem? (i := 39) rfl))) Via.refl ?_
    refine w_aloadN 56 C d6_55 rfl rfl rfl ?_
    have KK2 : Keep h0 h11 [a1, t] := (Keep.refl h0 [a1, t]).trans KK (allS (Or.inl (by simp)) all0)
    replace KK := KK2
    refine w_aastore 57 (L.length) C A_t g_t d6_56 rfl hsz (by omega) (Or.inr (own_cl_in (hw _ (List.mem_of_getElem? (i := 88) rfl)) Ix)) ?_
    intro h14 K_h14 A_t'
    replace A_t : Ao Z h14 t "java/lang/Object" (vs.set L.length (.ref x)) := A_t'
    replace E_a1 := E_a1.keep K_h14
    replace F_modCount_a1 := F_modCount_a1.keep K_h14 (ninS ne_a1_t nin0)
    replace F_first_a1 := F_first_a1.keep K_h14 (ninS ne_a1_t nin0)
    replace F_second_a1 := F_second_a1.keep K_h14 (ninS ne_a1_t nin0)
    replace F_third_a1 := F_third_a1.keep K_h14 (ninS ne_a1_t nin0)
    replace F_spilled_a1 := F_spilled_a1.keep K_h14 (ninS ne_a1_t nin0)
    replace F_size_a1 := F_size_a1.keep K_h14 (ninS ne_a1_t nin0)
    replace Ix := Ix.keep K_h14
    replace hz := Nat.le_trans hz K_h14.1
    replace KK := KK.trans K_h14 (allS (Or.inl (by simp)) all0)
    refine w_aloadN 58 C d6_57 rfl rfl rfl ?_
    refine w_dup 59 C d6_58 rfl rfl ?_
    refine w_getF (host := "") 62 C F_size_a1 d6_59 rfl (Or.inl (hw _ (List.mem_of_getElem? (i := 39) rfl))) Via.refl ?_
    refine w_iconst 63 (1 : Int32) C d6_62 rfl rfl ?_
    refine w_iadd 64 C d6_63 rfl ?_
    refine w_putF (host := "") (ty := .int) 67 C F_size_a1 E_a1 g_a1 d6_64 rfl (Or.inl (hw _ (List.mem_of_getElem? (i := 39) rfl))) Via.refl (Or.inl (hw _ (List.mem_of_getElem? (i := 40) rfl))) (hw _ (List.mem_of_getElem? (i := 1) rfl)) (by decide) rfl rfl ?_
    intro h15 K_h15 W_h15 Fn_ En_
    replace F_modCount_a1 := F_modCount_a1.other W_h15 (Or.inr (slot_ne (Or.inl (hw _ (List.mem_of_getElem? (i := 21) rfl))) (Or.inl (hw _ (List.mem_of_getElem? (i := 40) rfl))) (by decide) (t := .int) (t' := .int) (by decide) (by decide)))
    replace F_first_a1 := F_first_a1.other W_h15 (Or.inr (slot_ne (Or.inl (hw _ (List.mem_of_getElem? (i := 46) rfl))) (Or.inl (hw _ (List.mem_of_getElem? (i := 40) rfl))) (by decide) (t := (.object "java/lang/Object")) (t' := .int) (by decide) (by decide)))
    replace F_second_a1 := F_second_a1.other W_h15 (Or.inr (slot_ne (Or.inl (hw _ (List.mem_of_getElem? (i := 48) rfl))) (Or.inl (hw _ (List.mem_of_getElem? (i := 40) rfl))) (by decide) (t := (.object "java/lang/Object")) (t' := .int) (by decide) (by decide)))
    replace F_third_a1 := F_third_a1.other W_h15 (Or.inr (slot_ne (Or.inl (hw _ (List.mem_of_getElem? (i := 50) rfl))) (Or.inl (hw _ (List.mem_of_getElem? (i := 40) rfl))) (by decide) (t := (.object "java/lang/Object")) (t' := .int) (by decide) (by decide)))
    replace F_spilled_a1 := F_spilled_a1.other W_h15 (Or.inr (slot_ne (Or.inl (hw _ (List.mem_of_getElem? (i := 38) rfl))) (Or.inl (hw _ (List.mem_of_getElem? (i := 40) rfl))) (by decide) (t := (.array (.object "java/lang/Object"))) (t' := .int) (by decide) (by decide)))
    replace F_size_a1 := Fn_
    replace E_a1 := En_
    replace Ix := Ix.keep K_h15
    replace A_t := A_t.keep K_h15 (ninS (Ne.symm ne_a1_t) nin0)
    replace hz := Nat.le_trans hz K_h15.1
    replace KK := KK.trans K_h15 (allS (Or.inl (by simp)) all0)
    refine w_iconst 68 (1 : Int32) C d6_67 rfl rfl ?_
    refine w_retN C (by simp) d6_68 rfl (by decide) (by decide) ?_
    refine ⟨rfl, ⟨_, KK, allS g_a1 (allS g_t all0)⟩, E_a1, _, _, _, _, _, _, F_modCount_a1, F_first_a1, F_second_a1, F_third_a1, F_spilled_a1, F_size_a1, hs1, by simp; omega, Or.inr ⟨t, _, rfl, A_t, g_t, by simpa using hb4, by simpa using hb15, fun i a hi => ?_⟩⟩
    by_cases q : i = L.length
    · subst q; rw [List.getElem?_set_self (by omega)]; simp at hi; rw [hi]
    · rw [List.getElem?_set_ne (fun t => q t.symm)]
      refine hvs i a ?_
      by_cases q2 : i < L.length
      · rw [List.getElem?_append_left q2] at hi; exact hi
      · rw [List.getElem?_eq_none (by simp; omega)] at hi; simp at hi
set_option maxRecDepth 65536 in
set_option maxHeartbeats 40000000 in
theorem rm_cl (l : Launch) (Z : State) (a0 : Array Value) (hw : ∀ d ∈ tables_1, d.before a0 Z = true) (ws : List Jvm.Cond) (a1 : Addr) (L : List Addr) (h0 : Heap) (n0 : Nat) (hz : n0 ≤ h0.size) (g_a1 : n0 ≤ a1) (CLS : own_cl Z n0 h0 a1 L) :
    OwnMet l (⟨"com/example/wiretagg/wiretagg/CompactList", "clear", "()V"⟩ : MethodName) prog_4_method_9_code 1 none ws ({ frames := 0, cells := 0, slots := 0, locals := 0 } : Room) Z h0 n0 #[.ref a1] (fun v h => v = none ∧ (∃ ws, Keep h0 h ws ∧ ∀ x ∈ ws, n0 ≤ x) ∧ own_cl Z n0 h a1 []) := by
  refine OwnMet.of (own := "com/example/wiretagg/wiretagg/CompactList") (name := "clear") (desc := "()V") (Ls := [.val (.ref a1)]) (plainFor_of_name pn_com_example_wiretagg_wiretagg_CompactList) (fun m => by first | (simp [entryFrame, mkF, argsToLocals, Value.category]; done) | rfl) ?_
  intro K hK C
  obtain ⟨E_a1, mc, sz, f1, f2, f3, sp, F_modCount_a1, F_first_a1, F_second_a1, F_third_a1, F_spilled_a1, F_size_a1, hsz, hL4, hcase⟩ := CLS
  have KK : Keep h0 h0 [a1] := Keep.refl _ _
  refine w_aloadN 1 C d8_0 rfl rfl rfl ?_
  refine w_dup 2 C d8_1 rfl rfl ?_
  refine w_getF (host := "") 5 C F_modCount_a1 d8_2 rfl (Or.inl (hw _ (List.mem_of_getElem? (i := 35) rfl))) (Via.of (hw _ (List.mem_of_getElem? (i := 36) rfl))) ?_
  refine w_iconst 6 (1 : Int32) C d8_5 rfl rfl ?_
  refine w_iadd 7 C d8_6 rfl ?_
  refine w_putF (host := "") (ty := .int) 10 C F_modCount_a1 E_a1 g_a1 d8_7 rfl (Or.inl (hw _ (List.mem_of_getElem? (i := 35) rfl))) (Via.of (hw _ (List.mem_of_getElem? (i := 36) rfl))) (Or.inl (hw _ (List.mem_of_getElem? (i := 21) rfl))) (hw _ (List.mem_of_getElem? (i := 1) rfl)) (by decide) rfl rfl ?_
  intro h1 K_h1 W_h1 Fn_ En_
  replace F_first_a1 := F_first_a1.other W_h1 (Or.inr (slot_ne (Or.inl (hw _ (List.mem_of_getElem? (i := 46) rfl))) (Or.inl (hw _ (List.mem_of_getElem? (i := 21) rfl))) (by decide) (t := (.object "java/lang/Object")) (t' := .int) (by decide) (by decide)))
  replace F_second_a1 := F_second_a1.other W_h1 (Or.inr (slot_ne (Or.inl (hw _ (List.mem_of_getElem? (i := 48) rfl))) (Or.inl (hw _ (List.mem_of_getElem? (i := 21) rfl))) (by decide) (t := (.object "java/lang/Object")) (t' := .int) (by decide) (by decide)))
  replace F_third_a1 := F_third_a1.other W_h1 (Or.inr (slot_ne (Or.inl (hw _ (List.mem_of_getElem? (i := 50) rfl))) (Or.inl (hw _ (List.mem_of_getElem? (i := 21) rfl))) (by decide) (t := (.object "java/lang/Object")) (t' := .int) (by decide) (by decide)))
  replace F_spilled_a1 := F_spilled_a1.other W_h1 (Or.inr (slot_ne (Or.inl (hw _ (List.mem_of_getElem? (i := 38) rfl))) (Or.inl (hw _ (List.mem_of_getElem? (i := 21) rfl))) (by decide) (t := (.array (.object "java/lang/Object"))) (t' := .int) (by decide) (by decide)))
  replace F_size_a1 := F_size_a1.other W_h1 (Or.inr (slot_ne (Or.inl (hw _ (List.mem_of_getElem? (i := 40) rfl))) (Or.inl (hw _ (List.mem_of_getElem? (i := 21) rfl))) (by decide) (t := .int) (t' := .int) (by decide) (by decide)))
  replace F_modCount_a1 := Fn_
  replace E_a1 := En_
  replace hz := Nat.le_trans hz K_h1.1
  replace KK := KK.trans K_h1 (allS (Or.inl (by simp)) all0)
  refine w_aloadN 11 C d8_10 rfl rfl rfl ?_
  refine w_null 12 C d8_11 rfl ?_
  refine w_putF (host := "") (ty := (.object "java/lang/Object")) 15 C F_first_a1 E_a1 g_a1 d8_12 rfl (Or.inl (hw _ (List.mem_of_getElem? (i := 45) rfl))) Via.refl (Or.inl (hw _ (List.mem_of_getElem? (i := 46) rfl))) (hw _ (List.mem_of_getElem? (i := 1) rfl)) (by decide) rfl rfl ?_
  intro h2 K_h2 W_h2 Fn_ En_
  replace F_modCount_a1 := F_modCount_a1.other W_h2 (Or.inr (slot_ne (Or.inl (hw _ (List.mem_of_getElem? (i := 21) rfl))) (Or.inl (hw _ (List.mem_of_getElem? (i := 46) rfl))) (by decide) (t := .int) (t' := (.object "java/lang/Object")) (by decide) (by decide)))
  replace F_second_a1 := F_second_a1.other W_h2 (Or.inr (slot_ne (Or.inl (hw _ (List.mem_of_getElem? (i := 48) rfl))) (Or.inl (hw _ (List.mem_of_getElem? (i := 46) rfl))) (by decide) (t := (.object "java/lang/Object")) (t' := (.object "java/lang/Object")) (by decide) (by decide)))
  replace F_third_a1 := F_third_a1.other W_h2 (Or.inr (slot_ne (Or.inl (hw _ (List.mem_of_getElem? (i := 50) rfl))) (Or.inl (hw _ (List.mem_of_getElem? (i := 46) rfl))) (by decide) (t := (.object "java/lang/Object")) (t' := (.object "java/lang/Object")) (by decide) (by decide)))
  replace F_spilled_a1 := F_spilled_a1.other W_h2 (Or.inr (slot_ne (Or.inl (hw _ (List.mem_of_getElem? (i := 38) rfl))) (Or.inl (hw _ (List.mem_of_getElem? (i := 46) rfl))) (by decide) (t := (.array (.object "java/lang/Object"))) (t' := (.object "java/lang/Object")) (by decide) (by decide)))
  replace F_size_a1 := F_size_a1.other W_h2 (Or.inr (slot_ne (Or.inl (hw _ (List.mem_of_getElem? (i := 40) rfl))) (Or.inl (hw _ (List.mem_of_getElem? (i := 46) rfl))) (by decide) (t := .int) (t' := (.object "java/lang/Object")) (by decide) (by decide)))
  replace F_first_a1 := Fn_
  replace E_a1 := En_
  replace hz := Nat.le_trans hz K_h2.1
  replace KK := KK.trans K_h2 (allS (Or.inl (by simp)) all0)
  refine w_aloadN 16 C d8_15 rfl rfl rfl ?_
  refine w_null 17 C d8_16 rfl ?_
  refine w_putF (host := "") (ty := (.object "java/lang/Object")) 20 C F_second_a1 E_a1 g_a1 d8_17 rfl (Or.inl (hw _ (List.mem_of_getElem? (i := 47) rfl))) Via.refl (Or.inl (hw _ (List.mem_of_getElem? (i := 48) rfl))) (hw _ (List.mem_of_getElem? (i := 1) rfl)) (by decide) rfl rfl ?_
  intro h3 K_h3 W_h3 Fn_ En_
  replace F_modCount_a1 := F_modCount_a1.other W_h3 (Or.inr (slot_ne (Or.inl (hw _ (List.mem_of_getElem? (i := 21) rfl))) (Or.inl (hw _ (List.mem_of_getElem? (i := 48) rfl))) (by decide) (t := .int) (t' := (.object "java/lang/Object")) (by decide) (by decide)))
  replace F_first_a1 := F_first_a1.other W_h3 (Or.inr (slot_ne (Or.inl (hw _ (List.mem_of_getElem? (i := 46) rfl))) (Or.inl (hw _ (List.mem_of_getElem? (i := 48) rfl))) (by decide) (t := (.object "java/lang/Object")) (t' := (.object "java/lang/Object")) (by decide) (by decide)))
  replace F_third_a1 := F_third_a1.other W_h3 (Or.inr (slot_ne (Or.inl (hw _ (List.mem_of_getElem? (i := 50) rfl))) (Or.inl (hw _ (List.mem_of_getElem? (i := 48) rfl))) (by decide) (t := (.object "java/lang/Object")) (t' := (.object "java/lang/Object")) (by decide) (by decide)))
  replace F_spilled_a1 := F_spilled_a1.other W_h3 (Or.inr (slot_ne (Or.inl (hw _ (List.mem_of_getElem? (i := 38) rfl))) (Or.inl (hw _ (List.mem_of_getElem? (i := 48) rfl))) (by decide) (t := (.array (.object "java/lang/Object"))) (t' := (.object "java/lang/Object")) (by decide) (by decide)))
  replace F_size_a1 := F_size_a1.other W_h3 (Or.inr (slot_ne (Or.inl (hw _ (List.mem_of_getElem? (i := 40) rfl))) (Or.inl (hw _ (List.mem_of_getElem? (i := 48) rfl))) (by decide) (t := .int) (t' := (.object "java/lang/Object")) (by decide) (by decide)))
  replace F_second_a1 := Fn_
  replace E_a1 := En_
  replace hz := Nat.le_trans hz K_h3.1
  replace KK := KK.trans K_h3 (allS (Or.inl (by simp)) all0)
  refine w_aloadN 21 C d8_20 rfl rfl rfl ?_
  refine w_null 22 C d8_21 rfl ?_
  refine w_putF (host := "") (ty := (.object "java/lang/Object")) 25 C F_third_a1 E_a1 g_a1 d8_22 rfl (Or.inl (hw _ (List.mem_of_getElem? (i := 49) rfl))) Via.refl (Or.inl (hw _ (List.mem_of_getElem? (i := 50) rfl))) (hw _ (List.mem_of_getElem? (i := 1) rfl)) (by decide) rfl rfl ?_
  intro h4 K_h4 W_h4 Fn_ En_
  replace F_modCount_a1 := F_modCount_a1.other W_h4 (Or.inr (slot_ne (Or.inl (hw _ (List.mem_of_getElem? (i := 21) rfl))) (Or.inl (hw _ (List.mem_of_getElem? (i := 50) rfl))) (by decide) (t := .int) (t' := (.object "java/lang/Object")) (by decide) (by decide)))
  replace F_first_a1 := F_first_a1.other W_h4 (Or.inr (slot_ne (Or.inl (hw _ (List.mem_of_getElem? (i := 46) rfl))) (Or.inl (hw _ (List.mem_of_getElem? (i := 50) rfl))) (by decide) (t := (.object "java/lang/Object")) (t' := (.object "java/lang/Object")) (by decide) (by decide)))
  replace F_second_a1 := F_second_a1.other W_h4 (Or.inr (slot_ne (Or.inl (hw _ (List.mem_of_getElem? (i := 48) rfl))) (Or.inl (hw _ (List.mem_of_getElem? (i := 50) rfl))) (by decide) (t := (.object "java/lang/Object")) (t' := (.object "java/lang/Object")) (by decide) (by decide)))
  replace F_spilled_a1 := F_spilled_a1.other W_h4 (Or.inr (slot_ne (Or.inl (hw _ (List.mem_of_getElem? (i := 38) rfl))) (Or.inl (hw _ (List.mem_of_getElem? (i := 50) rfl))) (by decide) (t := (.array (.object "java/lang/Object"))) (t' := (.object "java/lang/Object")) (by decide) (by decide)))
  replace F_size_a1 := F_size_a1.other W_h4 (Or.inr (slot_ne (Or.inl (hw _ (List.mem_of_getElem? (i := 40) rfl))) (Or.inl (hw _ (List.mem_of_getElem? (i := 50) rfl))) (by decide) (t := .int) (t' := (.object "java/lang/Object")) (by decide) (by decide)))
  replace F_third_a1 := Fn_
  replace E_a1 := En_
  replace hz := Nat.le_trans hz K_h4.1
  replace KK := KK.trans K_h4 (allS (Or.inl (by simp)) all0)
  refine w_aloadN 26 C d8_25 rfl rfl rfl ?_
  refine w_null 27 C d8_26 rfl ?_
  refine w_putF (host := "") (ty := (.array (.object "java/lang/Object"))) 30 C F_spilled_a1 E_a1 g_a1 d8_27 rfl (Or.inl (hw _ (List.mem_of_getElem? (i := 37) rfl))) Via.refl (Or.inl (hw _ (List.mem_of_getElem? (i := 38) rfl))) (hw _ (List.mem_of_getElem? (i := 1) rfl)) (by decide) rfl rfl ?_
  intro h5 K_h5 W_h5 Fn_ En_
  replace F_modCount_a1 := F_modCount_a1.other W_h5 (Or.inr (slot_ne (Or.inl (hw _ (List.mem_of_getElem? (i := 21) rfl))) (Or.inl (hw _ (List.mem_of_getElem? (i := 38) rfl))) (by decide) (t := .int) (t' := (.array (.object "java/lang/Object"))) (by decide) (by decide)))
  replace F_first_a1 := F_first_a1.other W_h5 (Or.inr (slot_ne (Or.inl (hw _ (List.mem_of_getElem? (i := 46) rfl))) (Or.inl (hw _ (List.mem_of_getElem? (i := 38) rfl))) (by decide) (t := (.object "java/lang/Object")) (t' := (.array (.object "java/lang/Object"))) (by decide) (by decide)))
  replace F_second_a1 := F_second_a1.other W_h5 (Or.inr (slot_ne (Or.inl (hw _ (List.mem_of_getElem? (i := 48) rfl))) (Or.inl (hw _ (List.mem_of_getElem? (i := 38) rfl))) (by decide) (t := (.object "java/lang/Object")) (t' := (.array (.object "java/lang/Object"))) (by decide) (by decide)))
  replace F_third_a1 := F_third_a1.other W_h5 (Or.inr (slot_ne (Or.inl (hw _ (List.mem_of_getElem? (i := 50) rfl))) (Or.inl (hw _ (List.mem_of_getElem? (i := 38) rfl))) (by decide) (t := (.object "java/lang/Object")) (t' := (.array (.object "java/lang/Object"))) (by decide) (by decide)))
  replace F_size_a1 := F_size_a1.other W_h5 (Or.inr (slot_ne (Or.inl (hw _ (List.mem_of_getElem? (i := 40) rfl))) (Or.inl (hw _ (List.mem_of_getElem? (i := 38) rfl))) (by decide) (t := .int) (t' := (.array (.object "java/lang/Object"))) (by decide) (by decide)))
  replace F_spilled_a1 := Fn_
  replace E_a1 := En_
  replace hz := Nat.le_trans hz K_h5.1
  replace KK := KK.trans K_h5 (allS (Or.inl (by simp)) all0)
  refine w_aloadN 31 C d8_30 rfl rfl rfl ?_
  refine w_iconst 32 (0 : Int32) C d8_31 rfl rfl ?_
  refine w_putF (host := "") (ty := .int) 35 C F_size_a1 E_a1 g_a1 d8_32 rfl (Or.inl (hw _ (List.mem_of_getElem? (i := 39) rfl))) Via.refl (Or.inl (hw _ (List.mem_of_getElem? (i := 40) rfl))) (hw _ (List.mem_of_getElem? (i := 1) rfl)) (by decide) rfl rfl ?_
  intro h6 K_h6 W_h6 Fn_ En_
  replace F_modCount_a1 := F_modCount_a1.other W_h6 (Or.inr (slot_ne (Or.inl (hw _ (List.mem_of_getElem? (i := 21) rfl))) (Or.inl (hw _ (List.mem_of_getElem? (i := 40) rfl))) (by decide) (t := .int) (t' := .int) (by decide) (by decide)))
  replace F_first_a1 := F_first_a1.other W_h6 (Or.inr (slot_ne (Or.inl (hw _ (List.mem_of_getElem? (i := 46) rfl))) (Or.inl (hw _ (List.mem_of_getElem? (i := 40) rfl))) (by decide) (t := (.object "java/lang/Object")) (t' := .int) (by decide) (by decide)))
  replace F_second_a1 := F_second_a1.other W_h6 (Or.inr (slot_ne (Or.inl (hw _ (List.mem_of_getElem? (i := 48) rfl))) (Or.inl (hw _ (List.mem_of_getElem? (i := 40) rfl))) (by decide) (t := (.object "java/lang/Object")) (t' := .int) (by decide) (by decide)))
  replace F_third_a1 := F_third_a1.other W_h6 (Or.inr (slot_ne (Or.inl (hw _ (List.mem_of_getElem? (i := 50) rfl))) (Or.inl (hw _ (List.mem_of_getElem? (i := 40) rfl))) (by decide) (t := (.object "java/lang/Object")) (t' := .int) (by decide) (by decide)))
  replace F_spilled_a1 := F_spilled_a1.other W_h6 (Or.inr (slot_ne (Or.inl (hw _ (List.mem_of_getElem? (i := 38) rfl))) (Or.inl (hw _ (List.mem_of_getElem? (i := 40) rfl))) (by decide) (t := (.array (.object "java/lang/Object"))) (t' := .int) (by decide) (by decide)))
  replace F_size_a1 := Fn_
  replace E_a1 := En_
  replace hz := Nat.le_trans hz K_h6.1
  replace KK := KK.trans K_h6 (allS (Or.inl (by simp)) all0)
  refine w_ret C d8_35 (by decide) (by decide) ?_
  exact ⟨rfl, ⟨_, KK, allS g_a1 all0⟩, E_a1, _, _, _, _, _, _, F_modCount_a1, F_first_a1, F_second_a1, F_third_a1, F_spilled_a1, F_size_a1, by decide, by simp, Or.inl ⟨rfl, by simp, by simp, by simp, by simp⟩⟩
set_option maxRecDepth 65536 in
set_option maxHeartbeats 40000000 in
theorem rm_sz (l : Launch) (Z : State) (a0 : Array Value) (hw : ∀ d ∈ tables_1, d.before a0 Z = true) (ws : List Jvm.Cond) (a1 : Addr) (L : List Addr) (h0 : Heap) (n0 : Nat) (hz : n0 ≤ h0.size) (CLS : own_cl Z n0 h0 a1 L) :
    OwnMet l (⟨"com/example/wiretagg/wiretagg/CompactList", "size", "()I"⟩ : MethodName) prog_4_method_3_code 1 (some .int) ws ({ frames := 0, cells := 0, slots := 0, locals := 0 } : Room) Z h0 n0 #[.ref a1] (fun v h => (∃ z : Int32, v = some (.int z) ∧ z.toInt = ((L.length : Nat) : Int)) ∧ h0 = h) := by
  refine OwnMet.of (own := "com/example/wiretagg/wiretagg/CompactList") (name := "size") (desc := "()I") (Ls := [.val (.ref a1)]) (plainFor_of_name pn_com_example_wiretagg_wiretagg_CompactList) (fun m => by first | (simp [entryFrame, mkF, argsToLocals, Value.category]; done) | rfl) ?_
  intro K hK C
  obtain ⟨E_a1, mc, sz, f1, f2, f3, sp, F_modCount_a1, F_first_a1, F_second_a1, F_third_a1, F_spilled_a1, F_size_a1, hsz, hL4, hcase⟩ := CLS
  refine w_aloadN 1 C d9_0 rfl rfl rfl ?_
  refine w_getF (host := "") 4 C F_size_a1 d9_1 rfl (Or.inl (hw _ (List.mem_of_getElem? (i := 39) rfl))) Via.refl ?_
  refine w_retI C d9_4 (by decide) (by decide) ?_
  exact ⟨⟨_, rfl, hsz⟩, rfl⟩
set_option maxRecDepth 65536 in
set_option maxHeartbeats 40000000 in
theorem rm_pi (l : Launch) (Z : State) (a0 : Array Value) (hw : ∀ d ∈ tables_1, d.before a0 Z = true) (ws : List Jvm.Cond) (i n : Int32) (h0 : Heap) (n0 : Nat) (hz : n0 ≤ h0.size) (h1 : 0 ≤ i.toInt) (h2 : i.toInt < n.toInt) :
    OwnMet l (⟨"jdk/internal/util/Preconditions", "checkIndex", "(IILjava/util/function/BiFunction;)I"⟩ : MethodName) jdk_41_method_11_code 3 (some .int) ws ({ frames := 0, cells := 0, slots := 0, locals := 0 } : Room) Z h0 n0 #[.int i, .int n, .null] (fun v h => v = some (.int i) ∧ h0 = h) := by
  refine OwnMet.of (own := "jdk/internal/util/Preconditions") (name := "checkIndex") (desc := "(IILjava/util/function/BiFunction;)I") (Ls := [.val (.int i), .val (.int n), .val (.null)]) (plainFor_of_name pn_jdk_internal_util_Preconditions) (fun m => by first | (simp [entryFrame, mkF, argsToLocals, Value.category]; done) | rfl) ?_
  intro K hK C
  have e0 : (0 : Int32).toInt = 0 := by decide
  refine w_iloadN 1 C d12_0 rfl rfl ?_
  refine w_ifN 4 C d12_1 rfl (show ¬ (i.toInt < (0 : Int32).toInt) from (by omega)) ?_
  refine w_iloadN 5 C d12_4 rfl rfl ?_
  refine w_iloadN 6 C d12_5 rfl rfl ?_
  refine w_icmpY 16 C d12_6 rfl (show i.toInt < n.toInt from (by omega)) ?_
  refine w_iloadN 17 C d12_16 rfl rfl ?_
  refine w_retI C d12_17 (by decide) (by decide) ?_
  exact ⟨rfl, rfl⟩
set_option maxRecDepth 65536 in
set_option maxHeartbeats 40000000 in
theorem rm_ci (l : Launch) (Z : State) (a0 : Array Value) (hw : ∀ d ∈ tables_1, d.before a0 Z = true) (ws : List Jvm.Cond) (i n : Int32) (h0 : Heap) (n0 : Nat) (hz : n0 ≤ h0.size) (h1 : 0 ≤ i.toInt) (h2 : i.toInt < n.toInt) :
    OwnMet l (⟨"java/util/Objects", "checkIndex", "(II)I"⟩ : MethodName) jdk_31_method_17_code 2 (some .int) ws ({ frames := 1, cells := 0, slots := 0, locals := 14 } : Room) Z h0 n0 #[.int i, .int n] (fun v h => v = some (.int i) ∧ h0 = h) := by
  refine OwnMet.of (own := "java/util/Objects") (name := "checkIndex") (desc := "(II)I") (Ls := [.val (.int i), .val (.int n)]) (plainFor_of_name pn_java_util_Objects) (fun m => by first | (simp [entryFrame, mkF, argsToLocals, Value.category]; done) | rfl) ?_
  intro K hK C
  refine w_iloadN 1 C d11_0 rfl rfl ?_
  refine w_iloadN 2 C d11_1 rfl rfl ?_
  refine w_null 3 C d11_2 rfl ?_
  refine w_callS (y := (⟨"jdk/internal/util/Preconditions", "checkIndex", "(IILjava/util/function/BiFunction;)I"⟩ : MethodName)) 6 0 [.int i, .int n, .null] C d11_3 rfl (hw _ (List.mem_of_getElem? (i := 70) rfl)) (hw _ (List.mem_of_getElem? (i := 71) rfl)) (hw _ (List.mem_of_getElem? (i := 72) rfl)) (hw _ (List.mem_of_getElem? (i := 73) rfl)) (by decide) (rm_pi K.l Z a0 hw [] i n h0 n0 hz h1 h2) pd_IILjava_util_function_BiFunction_to_I rfl (rest := []) rfl rfl (Nat.le_of_eq rfl) (by decide) (by decide) (by decide) (by decide) ?_
  rintro v2 h1 ⟨rfl, rfl⟩
  show Go K h0 0 0 6 [.val (.int i), .val (.int n)] [.int i]
  refine w_retI C d11_6 (by decide) (by decide) ?_
  exact ⟨rfl, rfl⟩
set_option maxRecDepth 65536 in
set_option maxHeartbeats 40000000 in
theorem rm_il0 (l : Launch) (Z : State) (a0 : Array Value) (hw : ∀ d ∈ tables_1, d.before a0 Z = true) (ws : List Jvm.Cond) (a1 x : Addr) (h0 : Heap) (n0 : Nat) (hz : n0 ≤ h0.size) (F_first_a1 : Fld Z h0 a1 "com/example/wiretagg/wiretagg/CompactList" "first" "Ljava/lang/Object;" (.ref x)) :
    OwnMet l (⟨"com/example/wiretagg/wiretagg/CompactList", "inline", "(I)Ljava/lang/Object;"⟩ : MethodName) prog_4_method_10_code 3 (some (.object "java/lang/Object")) ws ({ frames := 0, cells := 0, slots := 0, locals := 0 } : Room) Z h0 n0 #[.ref a1, .int (0 : Int32)] (fun v h => v = some (.ref x) ∧ h0 = h) := by
  refine OwnMet.of (own := "com/example/wiretagg/wiretagg/CompactList") (name := "inline") (desc := "(I)Ljava/lang/Object;") (Ls := [.val (.ref a1), .val (.int (0 : Int32)), .unset]) (plainFor_of_name pn_com_example_wiretagg_wiretagg_CompactList) (fun m => by first | (simp [entryFrame, mkF, argsToLocals, Value.category]; done) | rfl) ?_
  intro K hK C
  refine w_iloadN 1 C d13_0 rfl rfl ?_
  refine w_lswHit (a := 0) (off := 27) 28 C d13_1 (by decide) (by decide) rfl ?_
  refine w_aloadN 29 C d13_28 rfl rfl rfl ?_
  refine w_getF (host := "") 32 C F_first_a1 d13_29 rfl (Or.inl (hw _ (List.mem_of_getElem? (i := 45) rfl))) Via.refl ?_
  refine w_astoreN 33 [.val (.ref a1), .val (.int (0 : Int32)), .val (.ref x)] C d13_32 rfl rfl rfl ?_
  refine w_goto 49 C d13_33 rfl ?_
  refine w_aloadN 50 C d13_49 rfl rfl rfl ?_
  refine w_retA C rfl rfl rfl d13_50 (by decide) (by decide) ?_
  exact ⟨rfl, rfl⟩
set_option maxRecDepth 65536 in
set_option maxHeartbeats 40000000 in
theorem rm_il1 (l : Launch) (Z : State) (a0 : Array Value) (hw : ∀ d ∈ tables_1, d.before a0 Z = true) (ws : List Jvm.Cond) (a1 x : Addr) (h0 : Heap) (n0 : Nat) (hz : n0 ≤ h0.size) (F_second_a1 : Fld Z h0 a1 "com/example/wiretagg/wiretagg/CompactList" "second" "Ljava/lang/Object;" (.ref x)) :
    OwnMet l (⟨"com/example/wiretagg/wiretagg/CompactList", "inline", "(I)Ljava/lang/Object;"⟩ : MethodName) prog_4_method_10_code 3 (some (.object "java/lang/Object")) ws ({ frames := 0, cells := 0, slots := 0, locals := 0 } : Room) Z h0 n0 #[.ref a1, .int (1 : Int32)] (fun v h => v = some (.ref x) ∧ h0 = h) := by
  refine OwnMet.of (own := "com/example/wiretagg/wiretagg/CompactList") (name := "inline") (desc := "(I)Ljava/lang/Object;") (Ls := [.val (.ref a1), .val (.int (1 : Int32)), .unset]) (plainFor_of_name pn_com_example_wiretagg_wiretagg_CompactList) (fun m => by first | (simp [entryFrame, mkF, argsToLocals, Value.category]; done) | rfl) ?_
  intro K hK C
  refine w_iloadN 1 C d13_0 rfl rfl ?_
  refine w_lswHit (a := 1) (off := 35) 36 C d13_1 (by decide) (by decide) rfl ?_
  refine w_aloadN 37 C d13_36 rfl rfl rfl ?_
  refine w_getF (host := "") 40 C F_second_a1 d13_37 rfl (Or.inl (hw _ (List.mem_of_getElem? (i := 47) rfl))) Via.refl ?_
  refine w_astoreN 41 [.val (.ref a1), .val (.int (1 : Int32)), .val (.ref x)] C d13_40 rfl rfl rfl ?_
  refine w_goto 49 C d13_41 rfl ?_
  refine w_aloadN 50 C d13_49 rfl rfl rfl ?_
  refine w_retA C rfl rfl rfl d13_50 (by decide) (by decide) ?_
  exact ⟨rfl, rfl⟩
set_option maxRecDepth 65536 in
set_option maxHeartbeats 40000000 in
theorem rm_il2 (l : Launch) (Z : State) (a0 : Array Value) (hw : ∀ d ∈ tables_1, d.before a0 Z = true) (ws : List Jvm.Cond) (a1 x : Addr) (h0 : Heap) (n0 : Nat) (hz : n0 ≤ h0.size) (F_third_a1 : Fld Z h0 a1 "com/example/wiretagg/wiretagg/CompactList" "third" "Ljava/lang/Object;" (.ref x)) :
    OwnMet l (⟨"com/example/wiretagg/wiretagg/CompactList", "inline", "(I)Ljava/lang/Object;"⟩ : MethodName) prog_4_method_10_code 3 (some (.object "java/lang/Object")) ws ({ frames := 0, cells := 0, slots := 0, locals := 0 } : Room) Z h0 n0 #[.ref a1, .int (2 : Int32)] (fun v h => v = some (.ref x) ∧ h0 = h) := by
  refine OwnMet.of (own := "com/example/wiretagg/wiretagg/CompactList") (name := "inline") (desc := "(I)Ljava/lang/Object;") (Ls := [.val (.ref a1), .val (.int (2 : Int32)), .unset]) (plainFor_of_name pn_com_example_wiretagg_wiretagg_CompactList) (fun m => by first | (simp [entryFrame, mkF, argsToLocals, Value.category]; done) | rfl) ?_
  intro K hK C
  refine w_iloadN 1 C d13_0 rfl rfl ?_
  refine w_lswMiss 44 C d13_1 (by decide) (by decide) rfl ?_
  refine w_aloadN 45 C d13_44 rfl rfl rfl ?_
  refine w_getF (host := "") 48 C F_third_a1 d13_45 rfl (Or.inl (hw _ (List.mem_of_getElem? (i := 49) rfl))) Via.refl ?_
  refine w_astoreN 49 [.val (.ref a1), .val (.int (2 : Int32)), .val (.ref x)] C d13_48 rfl rfl rfl ?_
  refine w_aloadN 50 C d13_49 rfl rfl rfl ?_
  refine w_retA C rfl rfl rfl d13_50 (by decide) (by decide) ?_
  exact ⟨rfl, rfl⟩
set_option maxRecDepth 65536 in
set_option maxHeartbeats 40000000 in
theorem rm_get (l : Launch) (Z : State) (a0 : Array Value) (hw : ∀ d ∈ tables_1, d.before a0 Z = true) (ws : List Jvm.Cond) (a1 x : Addr) (i : Int32) (ni : Nat) (L : List Addr) (h0 : Heap) (n0 : Nat) (hz : n0 ≤ h0.size) (CLS : own_cl Z n0 h0 a1 L) (hi : i.toInt = (ni : Int)) (hx : L[ni]? = some x) :
    OwnMet l (⟨"com/example/wiretagg/wiretagg/CompactList", "get", "(I)Ljava/lang/Object;"⟩ : MethodName) prog_4_method_4_code 2 (some (.object "java/lang/Object")) ws ({ frames := 2, cells := 0, slots := 0, locals := 28 } : Room) Z h0 n0 #[.ref a1, .int i] (fun v h => v = some (.ref x) ∧ h0 = h) := by
  refine OwnMet.of (own := "com/example/wiretagg/wiretagg/CompactList") (name := "get") (desc := "(I)Ljava/lang/Object;") (Ls := [.val (.ref a1), .val (.int i)]) (plainFor_of_name pn_com_example_wiretagg_wiretagg_CompactList) (fun m => by first | (simp [entryFrame, mkF, argsToLocals, Value.category]; done) | rfl) ?_
  intro K hK C
  obtain ⟨E_a1, mc, sz, f1, f2, f3, sp, F_modCount_a1, F_first_a1, F_second_a1, F_third_a1, F_spilled_a1, F_size_a1, hsz, hL4, hcase⟩ := CLS
  have hlt : ni < L.length := (List.getElem?_eq_some_iff.mp hx).1
  refine w_iloadN 1 C d10_0 rfl rfl ?_
  refine w_aloadN 2 C d10_1 rfl rfl rfl ?_
  refine w_getF (host := "") 5 C F_size_a1 d10_2 rfl (Or.inl (hw _ (List.mem_of_getElem? (i := 39) rfl))) Via.refl ?_
  refine w_callS (y := (⟨"java/util/Objects", "checkIndex", "(II)I"⟩ : MethodName)) 8 0 [.int i, .int sz] C d10_5 rfl (hw _ (List.mem_of_getElem? (i := 66) rfl)) (hw _ (List.mem_of_getElem? (i := 67) rfl)) (hw _ (List.mem_of_getElem? (i := 68) rfl)) (hw _ (List.mem_of_getElem? (i := 69) rfl)) (by decide) (rm_ci K.l Z a0 hw [] i sz h0 n0 hz (by omega) (by omega)) pd_II_to_I rfl (rest := []) rfl rfl (Nat.le_of_eq rfl) (by decide) (by decide) (by decide) (by decide) ?_
  rintro v2 h1 ⟨rfl, rfl⟩
  show Go K h0 0 0 8 [.val (.ref a1), .val (.int i)] [.int i]
  refine w_pop 9 C d10_8 rfl rfl ?_
  refine w_aloadN 10 C d10_9 rfl rfl rfl ?_
  refine w_getF (host := "") 13 C F_spilled_a1 d10_10 rfl (Or.inl (hw _ (List.mem_of_getElem? (i := 37) rfl))) Via.refl ?_
  rcases hcase with ⟨rfl, hb3, q1, q2, q3⟩ | ⟨t, vs, rfl, A_t, g_t, hb4, hb15, hvs⟩
  · refine w_nullY 25 C d10_13 rfl ?_
    refine w_aloadN 26 C d10_25 rfl rfl rfl ?_
    refine w_iloadN 27 C d10_26 rfl rfl ?_
    have hcs : ni = 0 ∨ ni = 1 ∨ ni = 2 := by omega
    rcases hcs with rfl | rfl | rfl
    · obtain rfl : i = (0 : Int32) := own_eq (by rw [hi]; decide)
      obtain rfl := q1 x hx
      refine w_callP (y := (⟨"com/example/wiretagg/wiretagg/CompactList", "inline", "(I)Ljava/lang/Object;"⟩ : MethodName)) (z := (⟨"com/example/wiretagg/wiretagg/CompactList", "add", "(Ljava/lang/Object;)Z"⟩ : MethodName)) (a := a1) 30 0 [.int (0 : Int32)] C E_a1 d10_27 rfl (hw _ (List.mem_of_getElem? (i := 74) rfl)) (hw _ (List.mem_of_getElem? (i := 76) rfl)) (hw _ (List.mem_of_getElem? (i := 33) rfl)) rfl (hw _ (List.mem_of_getElem? (i := 75) rfl)) (hw _ (List.mem_of_getElem? (i := 2) rfl)) (hw _ (List.mem_of_getElem? (i := 77) rfl)) (by decide) (rm_il0 K.l Z a0 hw [] a1 x h0 n0 hz F_first_a1) pd_I_to_Ljava_lang_Object rfl (rest := []) rfl rfl (Nat.le_of_eq rfl) (by decide) (by decide) (by decide) (by decide) ?_
      rintro v4 h3 ⟨rfl, rfl⟩
      show Go K h0 0 0 30 [.val (.ref a1), .val (.int (0 : Int32))] [.ref x]
      refine w_retA C rfl rfl rfl d10_30 (by decide) (by decide) ?_
      exact ⟨rfl, rfl⟩
    · obtain rfl : i = (1 : Int32) := own_eq (by rw [hi]; decide)
      obtain rfl := q2 x hx
      refine w_callP (y := (⟨"com/example/wiretagg/wiretagg/CompactList", "inline", "(I)Ljava/lang/Object;"⟩ : MethodName)) (z := (⟨"com/example/wiretagg/wiretagg/CompactList", "add", "(Ljava/lang/Object;)Z"⟩ : MethodName)) (a := a1) 30 0 [.int (1 : Int32)] C E_a1 d10_27 rfl (hw _ (List.mem_of_getElem? (i := 74) rfl)) (hw _ (List.mem_of_getElem? (i := 76) rfl)) (hw _ (List.mem_of_getElem? (i := 33) rfl)) rfl (hw _ (List.mem_of_getElem? (i := 75) rfl)) (hw _ (List.mem_of_getElem? (i := 2) rfl)) (hw _ (List.mem_of_getElem? (i := 77) rfl)) (by decide) (rm_il1 K.l Z a0 hw [] a1 x h0 n0 hz F_second_a1) pd_I_to_Ljava_lang_Object rfl (rest := []) rfl rfl (Nat.le_of_eq rfl) (by decide) (by decide) (by decide) (by decide) ?_
      rintro v6 h5 ⟨rfl, rfl⟩
      show Go K h0 0 0 30 [.val (.ref a1), .val (.int (1 : Int32))] [.ref x]
      refine w_retA C rfl rfl rfl d10_30 (by decide) (by decide) ?_
      exact ⟨rfl, rfl⟩
    · obtain rfl : i = (2 : Int32) := own_eq (by rw [hi]; decide)
      obtain rfl := q3 x hx
      refine w_callP (y := (⟨"com/example/wiretagg/wiretagg/CompactList", "inline", "(I)Ljava/lang/Object;"⟩ : MethodName)) (z := (⟨"com/example/wiretagg/wiretagg/CompactList", "add", "(Ljava/lang/Object;)Z"⟩ : MethodName)) (a := a1) 30 0 [.int (2 : Int32)] C E_a1 d10_27 rfl (hw _ (List.mem_of_getElem? (i := 74) rfl)) (hw _ (List.mem_of_getElem? (i := 76) rfl)) (hw _ (List.mem_of_getElem? (i := 33) rfl)) rfl (hw _ (List.mem_of_getElem? (i := 75) rfl)) (hw _ (List.mem_of_getElem? (i := 2) rfl)) (hw _ (List.mem_of_getElem? (i := 77) rfl)) (by decide) (rm_il2 K.l Z a0 hw [] a1 x h0 n0 hz F_third_a1) pd_I_to_Ljava_lang_Object rfl (rest := []) rfl rfl (Nat.le_of_eq rfl) (by decide) (by decide) (by decide) (by decide) ?_
      rintro v8 h7 ⟨rfl, rfl⟩
      show Go K h0 0 0 30 [.val (.ref a1), .val (.int (2 : Int32))] [.ref x]
      refine w_retA C rfl rfl rfl d10_30 (by decide) (by decide) ?_
      exact ⟨rfl, rfl⟩
  · refine w_nullN 16 C d10_13 rfl ?_
    refine w_aloadN 17 C d10_16 rfl rfl rfl ?_
    refine w_getF (host := "") 20 C F_spilled_a1 d10_17 rfl (Or.inl (hw _ (List.mem_of_getElem? (i := 37) rfl))) Via.refl ?_
    refine w_iloadN 21 C d10_20 rfl rfl ?_
    refine w_aaload 22 ni (.ref x) C A_t d10_21 rfl hi (hvs ni x hx) ?_
    refine w_goto 30 C d10_22 rfl ?_
    refine w_retA C rfl rfl rfl d10_30 (by decide) (by decide) ?_
    exact ⟨rfl, rfl⟩
set_option maxRecDepth 65536 in
set_option maxHeartbeats 40000000 in
theorem rm_nu (l : Launch) (Z : State) (a0 : Array Value) (hw : ∀ d ∈ tables_1, d.before a0 Z = true) (ws : List Jvm.Cond) (a1 : Addr) (h0 : Heap) (n0 : Nat) (hz : n0 ≤ h0.size) :
    OwnMet l (⟨"java/lang/Number", "<init>", "()V"⟩ : MethodName) jdk_18_method_1_code 1 none ws ({ frames := 1, cells := 0, slots := 0, locals := 12 } : Room) Z h0 n0 #[.ref a1] (fun v h => v = none ∧ h0 = h) := by
  refine OwnMet.of (own := "java/lang/Number") (name := "<init>") (desc := "()V") (Ls := [.val (.ref a1)]) (plainFor_of_name pn_java_lang_Number) (fun m => by first | (simp [entryFrame, mkF, argsToLocals, Value.category]; done) | rfl) ?_
  intro K hK C
  refine w_aloadN 1 C d17_0 rfl rfl rfl ?_
  refine w_initO 4 0 C d17_1 rfl (hw _ (List.mem_of_getElem? (i := 101) rfl)) (hw _ (List.mem_of_getElem? (i := 18) rfl)) (hw _ (List.mem_of_getElem? (i := 19) rfl)) rfl (by decide) (Nat.le_of_eq rfl) (by decide) ?_
  refine w_ret C d17_4 (by decide) (by decide) ?_
  exact ⟨rfl, rfl⟩
set_option maxRecDepth 65536 in
set_option maxHeartbeats 40000000 in
theorem rm_ii (l : Launch) (Z : State) (a0 : Array Value) (hw : ∀ d ∈ tables_1, d.before a0 Z = true) (ws : List Jvm.Cond) (a1 : Addr) (q : Int32) (u : Value) (h0 : Heap) (n0 : Nat) (hz : n0 ≤ h0.size) (E_a1 : Exa Z h0 a1 "java/lang/Integer") (g_a1 : n0 ≤ a1) (F_value_a1 : Fld Z h0 a1 "java/lang/Integer" "value" "I" u) :
    OwnMet l (⟨"java/lang/Integer", "<init>", "(I)V"⟩ : MethodName) jdk_33_method_23_code 2 none ws ({ frames := 2, cells := 0, slots := 0, locals := 24 } : Room) Z h0 n0 #[.ref a1, .int q] (fun v h => v = none ∧ Keep h0 h [a1] ∧ Exa Z h a1 "java/lang/Integer") := by
  refine OwnMet.of (own := "java/lang/Integer") (name := "<init>") (desc := "(I)V") (Ls := [.val (.ref a1), .val (.int q)]) (plainFor_of_name pn_java_lang_Integer) (fun m => by first | (simp [entryFrame, mkF, argsToLocals, Value.category]; done) | rfl) ?_
  intro K hK C
  have KK : Keep h0 h0 [a1] := Keep.refl _ _
  refine w_aloadN 1 C d16_0 rfl rfl rfl ?_
  refine w_callI (y := (⟨"java/lang/Number", "<init>", "()V"⟩ : MethodName)) (a := a1) 4 0 [] C d16_1 rfl rfl (hw _ (List.mem_of_getElem? (i := 95) rfl)) (hw _ (List.mem_of_getElem? (i := 96) rfl)) (hw _ (List.mem_of_getElem? (i := 99) rfl)) (hw _ (List.mem_of_getElem? (i := 100) rfl)) (by decide) (rm_nu K.l Z a0 hw [] a1 h0 n0 hz) pd__to_V rfl (rest := []) rfl rfl (Nat.le_of_eq rfl) (by decide) (by decide) (by decide) (by decide) ?_
  rintro v2 h1 ⟨rfl, rfl⟩
  show Go K h0 0 0 4 [.val (.ref a1), .val (.int q)] []
  refine w_aloadN 5 C d16_4 rfl rfl rfl ?_
  refine w_iloadN 6 C d16_5 rfl rfl ?_
  refine w_putF (host := "") (ty := .int) 9 C F_value_a1 E_a1 g_a1 d16_6 rfl (Or.inl (hw _ (List.mem_of_getElem? (i := 102) rfl))) Via.refl (Or.inr ⟨(hw _ (List.mem_of_getElem? (i := 103) rfl)), rfl, rfl⟩) (hw _ (List.mem_of_getElem? (i := 90) rfl)) (by decide) rfl rfl ?_
  intro h3 K_h3 W_h3 Fn_ En_
  replace F_value_a1 := Fn_
  replace E_a1 := En_
  replace hz := Nat.le_trans hz K_h3.1
  replace KK := KK.trans K_h3 (allS (Or.inl (by simp)) all0)
  refine w_ret C d16_9 (by decide) (by decide) ?_
  exact ⟨rfl, KK, E_a1⟩
set_option maxRecDepth 65536 in
set_option maxHeartbeats 40000000 in
theorem rm_vo (l : Launch) (Z : State) (a0 : Array Value) (hw : ∀ d ∈ tables_1, d.before a0 Z = true) (ws : List Jvm.Cond) (q : Int32) (ca : Addr) (cc : Cell) (vl : Int32 → Value) (h0 : Heap) (n0 : Nat) (hz : n0 ≤ h0.size) (OL : Old Z n0 h0) (SH : Sta Z Z.heap "java/lang/Integer$IntegerCache" "high" "I" (.int 127)) (SC : Sta Z Z.heap "java/lang/Integer$IntegerCache" "cache" "[Ljava/lang/Integer;" (.ref ca)) (BX : Bxs Z ca cc "java/lang/Integer" "I" 256 vl) :
    OwnMet l (⟨"java/lang/Integer", "valueOf", "(I)Ljava/lang/Integer;"⟩ : MethodName) jdk_33_method_22_code 1 (some (.object "java/lang/Integer")) ws ({ frames := 3, cells := 1, slots := 1, locals := 38 } : Room) Z h0 n0 #[.int q] (fun v h => ∃ y : Addr, v = some (.ref y) ∧ Keep h0 h [] ∧ Exa Z h y "java/lang/Integer") := by
  refine OwnMet.of (own := "java/lang/Integer") (name := "valueOf") (desc := "(I)Ljava/lang/Integer;") (Ls := [.val (.int q)]) (plainFor_of_name pn_java_lang_Integer) (fun m => by first | (simp [entryFrame, mkF, argsToLocals, Value.category]; done) | rfl) ?_
  intro K hK C
  have e1 : (-128 : Int32).toInt = -128 := by decide
  have e2 : (127 : Int32).toInt = 127 := by decide
  have KK : Keep h0 h0 [] := Keep.refl _ _
  refine w_iloadN 1 C d5_0 rfl rfl ?_
  refine w_bipush 3 (-128 : Int32) C d5_1 rfl rfl ?_
  refine w_icmp 23 6 C d5_3 rfl rfl (fun (hc3 : q.toInt < (-128 : Int32).toInt) => ?_) (fun (hc3 : ¬ (q.toInt < (-128 : Int32).toInt)) => ?_)
  · refine w_new 26 C hz d5_23 rfl (hw _ (List.mem_of_getElem? (i := 89) rfl)) (hw _ (List.mem_of_getElem? (i := 90) rfl)) (hw _ (List.mem_of_getElem? (i := 25) rfl)) (by decide) (by decide) ?_
    intro h1 b2 X_b2 g_b2 sz0_b2 E_b2 D_b2 hz_
    replace hz := hz_
    have sz_b2 : h0.size ≤ b2 := Nat.le_trans KK.1 sz0_b2
    replace KK := KK.ext X_b2
    have F_value_b2 : Fld Z h1 b2 "java/lang/Integer" "value" "I" (.int (0 : Int32)) := D_b2 (Or.inr (hw _ (List.mem_of_getElem? (i := 103) rfl))) (ty := .int) (by decide)
    show Go K h1 1 1 26 [.val (.int q)] [.ref b2]
    refine w_dup 27 C d5_26 rfl rfl ?_
    refine w_iloadN 28 C d5_27 rfl rfl ?_
    refine w_callI (y := (⟨"java/lang/Integer", "<init>", "(I)V"⟩ : MethodName)) (a := b2) 31 1 [.int q] C d5_28 rfl rfl (hw _ (List.mem_of_getElem? (i := 91) rfl)) (hw _ (List.mem_of_getElem? (i := 92) rfl)) (hw _ (List.mem_of_getElem? (i := 25) rfl)) (hw _ (List.mem_of_getElem? (i := 94) rfl)) (by decide) (rm_ii K.l Z a0 hw [] b2 q (.int 0) h1 n0 hz E_b2 g_b2 F_value_b2) pd_I_to_V rfl (rest := [.ref b2]) rfl rfl (Nat.le_of_eq rfl) (by decide) (by decide) (by decide) (by decide) ?_
    rintro v3 hM ⟨rfl, K9, E_b2⟩
    show Go K hM 1 1 31 [.val (.int q)] [.ref b2]
    replace KK := KK.trans K9 (allS (Or.inr sz_b2) all0)
    refine w_retA C rfl rfl rfl d5_31 (by decide) (by decide) ?_
    exact ⟨b2, rfl, KK, E_b2⟩
  · refine w_iloadN 7 C d5_6 rfl rfl ?_
    refine w_getS (host := "") 10 C (SH.ext OL.2) d5_7 rfl (Or.inl (hw _ (List.mem_of_getElem? (i := 27) rfl))) Via.refl ?_
    refine w_icmp 23 13 C d5_10 rfl rfl (fun (hc10 : (127 : Int32).toInt < q.toInt) => ?_) (fun (hc10 : ¬ ((127 : Int32).toInt < q.toInt)) => ?_)
    · refine w_new 26 C hz d5_23 rfl (hw _ (List.mem_of_getElem? (i := 89) rfl)) (hw _ (List.mem_of_getElem? (i := 90) rfl)) (hw _ (List.mem_of_getElem? (i := 25) rfl)) (by decide) (by decide) ?_
      intro h4 b5 X_b5 g_b5 sz0_b5 E_b5 D_b5 hz_
      replace hz := hz_
      have sz_b5 : h0.size ≤ b5 := Nat.le_trans KK.1 sz0_b5
      replace KK := KK.ext X_b5
      have F_value_b5 : Fld Z h4 b5 "java/lang/Integer" "value" "I" (.int (0 : Int32)) := D_b5 (Or.inr (hw _ (List.mem_of_getElem? (i := 103) rfl))) (ty := .int) (by decide)
      show Go K h4 1 1 26 [.val (.int q)] [.ref b5]
      refine w_dup 27 C d5_26 rfl rfl ?_
      refine w_iloadN 28 C d5_27 rfl rfl ?_
      refine w_callI (y := (⟨"java/lang/Integer", "<init>", "(I)V"⟩ : MethodName)) (a := b5) 31 1 [.int q] C d5_28 rfl rfl (hw _ (List.mem_of_getElem? (i := 91) rfl)) (hw _ (List.mem_of_getElem? (i := 92) rfl)) (hw _ (List.mem_of_getElem? (i := 25) rfl)) (hw _ (List.mem_of_getElem? (i := 94) rfl)) (by decide) (rm_ii K.l Z a0 hw [] b5 q (.int 0) h4 n0 hz E_b5 g_b5 F_value_b5) pd_I_to_V rfl (rest := [.ref b5]) rfl rfl (Nat.le_of_eq rfl) (by decide) (by decide) (by decide) (by decide) ?_
      rintro v6 hM ⟨rfl, K9, E_b5⟩
      show Go K hM 1 1 31 [.val (.int q)] [.ref b5]
      replace KK := KK.trans K9 (allS (Or.inr sz_b5) all0)
      refine w_retA C rfl rfl rfl d5_31 (by decide) (by decide) ?_
      exact ⟨b5, rfl, KK, E_b5⟩
    · refine w_getS (host := "") 16 C (SC.ext OL.2) d5_13 rfl (Or.inl (hw _ (List.mem_of_getElem? (i := 29) rfl))) Via.refl ?_
      refine w_iloadN 17 C d5_16 rfl rfl ?_
      refine w_sipush 20 (128 : Int32) C d5_17 rfl rfl ?_
      refine w_iadd 21 C d5_20 rfl ?_
      have hj : (q + (128 : Int32)).toInt = q.toInt + 128 := by rw [own_iadd, show (128 : Int32).toInt = 128 from by decide]; omega
      obtain ⟨B1, B2, B3, B4⟩ := BX
      have hin : ¬ ((q + (128 : Int32)) < 0 ∨ cc.slots.size ≤ ((q + (128 : Int32))).toNatClampNeg) := by rw [B2, Int32.lt_iff_toInt_lt, own_clamp, own_clamp, hj, show (0 : Int32).toInt = 0 from by decide, show (256 : Int32).toInt = 256 from by decide]; omega
      obtain ⟨y, hy, Ey, -⟩ := B4 _ hin
      refine w_aaloadC 22 (.ref y) C (B1.ext OL.2) d5_21 rfl hin hy ?_
      refine w_retA C rfl rfl rfl d5_22 (by decide) (by decide) ?_
      exact ⟨y, rfl, KK, Ey.ext OL.2⟩
theorem own_cl_keep {Z : State} {n0 : Nat} {h h' : Heap} {s : Addr} {L : List Addr} (Q : own_cl Z n0 h s L) (K : Keep h h' []) : own_cl Z n0 h' s L := by
  obtain ⟨E, mc, sz, f1, f2, f3, sp, F1, F2, F3, F4, F5, F6, q1, q2, q3⟩ := Q
  refine ⟨E.keep K, mc, sz, f1, f2, f3, sp, F1.keep K nin0, F2.keep K nin0, F3.keep K nin0, F4.keep K nin0, F5.keep K nin0, F6.keep K nin0, q1, q2, ?_⟩
  rcases q3 with q3 | ⟨t, vs, r1, r2, r3⟩
  · exact Or.inl q3
  · exact Or.inr ⟨t, vs, r1, r2.keep K nin0, r3⟩
/-- the first of xs, as many as n and k allow -/
def own_pre (n : Int) (xs : List Addr) (k : Nat) : List Addr := xs.take (min n.toNat k)
theorem own_pre_no (n : Int) (xs : List Addr) (k : Nat) (h : n ≤ (k : Int)) : own_pre n xs (k + 1) = own_pre n xs k := by
  unfold own_pre; congr 1; omega
theorem own_pre_yes (n : Int) (xs : List Addr) (k : Nat) (x : Addr) (h : (k : Int) < n) (hx : xs[k]? = some x) : own_pre n xs (k + 1) = own_pre n xs k ++ [x] := by
  unfold own_pre
  rw [show min n.toNat (k + 1) = k + 1 from by omega, show min n.toNat k = k from by omega, List.take_add_one, hx]; rfl
theorem own_pre_len (n : Int) (xs : List Addr) (k : Nat) : (own_pre n xs k).length ≤ k := by
  unfold own_pre; rw [List.length_take]; omega
set_option maxRecDepth 65536 in
set_option maxHeartbeats 40000000 in
theorem rm0 (l : Launch) (Z : State) (a0 : Array Value) (hw : ∀ d ∈ tables_1, d.before a0 Z = true) (ws : List Jvm.Cond) (p0 p1 p2 p3 p4 : Int32) (h0 : Heap) (n0 : Nat) (hz : n0 ≤ h0.size) (ca : Addr) (cc : Cell) (vl : Int32 → Value) (OL : Old Z n0 h0) (SH : Sta Z Z.heap "java/lang/Integer$IntegerCache" "high" "I" (.int 127)) (SC : Sta Z Z.heap "java/lang/Integer$IntegerCache" "cache" "[Ljava/lang/Integer;" (.ref ca)) (BX : Bxs Z ca cc "java/lang/Integer" "I" 256 vl) :
    OwnMet l x code maxLocals ret ws room_1 Z h0 n0 #[.int p0, .int p1, .int p2, .int p3, .int p4] (fun v h => v = some (.int 1)) := by
  refine OwnMet.of (own := "com/example/wiretagg/wiretagg/CompactListClearPinLaw") (name := "law") (desc := "(IIIII)Z") (Ls := [.val (.int p0), .val (.int p1), .val (.int p2), .val (.int p3), .val (.int p4), .unset, .unset, .unset, .unset, .unset, .unset, .unset, .unset, .unset, .unset]) (plainFor_of_name pn_com_example_wiretagg_wiretagg_CompactListClearPinLaw) (fun m => by first | (simp [entryFrame, mkF, argsToLocals, Value.category, maxLocals]; done) | rfl) ?_
  intro K hK C
  refine w_new 3 C hz at_0 rfl (hw _ (List.mem_of_getElem? (i := 0) rfl)) (hw _ (List.mem_of_getElem? (i := 1) rfl)) (hw _ (List.mem_of_getElem? (i := 2) rfl)) (by decide) (by decide) ?_
  intro h1 b2 X_b2 g_b2 sz0_b2 E_b2 D_b2 hz_
  replace hz := hz_
  have F_modCount_b2 : Fld Z h1 b2 "java/util/AbstractList" "modCount" "I" (.int (0 : Int32)) := D_b2 (Or.inl (hw _ (List.mem_of_getElem? (i := 21) rfl))) (ty := .int) (by decide)
  have F_spilled_b2 : Fld Z h1 b2 "com/example/wiretagg/wiretagg/CompactList" "spilled" "[Ljava/lang/Object;" (.null) := D_b2 (Or.inl (hw _ (List.mem_of_getElem? (i := 38) rfl))) (ty := (.array (.object "java/lang/Object"))) (by decide)
  have F_size_b2 : Fld Z h1 b2 "com/example/wiretagg/wiretagg/CompactList" "size" "I" (.int (0 : Int32)) := D_b2 (Or.inl (hw _ (List.mem_of_getElem? (i := 40) rfl))) (ty := .int) (by decide)
  have F_first_b2 : Fld Z h1 b2 "com/example/wiretagg/wiretagg/CompactList" "first" "Ljava/lang/Object;" (.null) := D_b2 (Or.inl (hw _ (List.mem_of_getElem? (i := 46) rfl))) (ty := (.object "java/lang/Object")) (by decide)
  have F_second_b2 : Fld Z h1 b2 "com/example/wiretagg/wiretagg/CompactList" "second" "Ljava/lang/Object;" (.null) := D_b2 (Or.inl (hw _ (List.mem_of_getElem? (i := 48) rfl))) (ty := (.object "java/lang/Object")) (by decide)
  have F_third_b2 : Fld Z h1 b2 "com/example/wiretagg/wiretagg/CompactList" "third" "Ljava/lang/Object;" (.null) := D_b2 (Or.inl (hw _ (List.mem_of_getElem? (i := 50) rfl))) (ty := (.object "java/lang/Object")) (by decide)
  show Go K h1 1 6 3 [.val (.int p0), .val (.int p1), .val (.int p2), .val (.int p3), .val (.int p4), .unset, .unset, .unset, .unset, .unset, .unset, .unset, .unset, .unset, .unset] [.ref b2]
  refine w_dup 4 C at_3 rfl rfl ?_
  refine w_iloadN 5 C at_4 rfl rfl ?_
  refine w_bipush 7 (16 : Int32) C at_5 rfl rfl ?_
  refine w_irem 8 C at_7 rfl (by decide) ?_
  have hq : (p0 % (16 : Int32)).toInt ≤ 15 := by
    have m : (p0 % (16 : Int32)).toInt = p0.toInt.tmod 16 := Int32.toInt_mod p0 16
    rw [m]; have := Int.tmod_lt_of_pos p0.toInt (show (0 : Int) < 16 by decide); omega
  replace OL := OL.ext X_b2
  refine w_callI (y := (⟨"com/example/wiretagg/wiretagg/CompactList", "<init>", "(I)V"⟩ : MethodName)) (a := b2) 11 1 [.int (p0 % (16 : Int32))] C at_8 rfl rfl (hw _ (List.mem_of_getElem? (i := 3) rfl)) (hw _ (List.mem_of_getElem? (i := 4) rfl)) (hw _ (List.mem_of_getElem? (i := 2) rfl)) (hw _ (List.mem_of_getElem? (i := 5) rfl)) (by decide) (rm_ini K.l Z a0 hw [] b2 (p0 % (16 : Int32)) h1 n0 hz E_b2 g_b2 F_modCount_b2 F_first_b2 F_second_b2 F_third_b2 F_spilled_b2 F_size_b2 hq) pd_I_to_V rfl (rest := [.ref b2]) rfl rfl (Nat.le_of_eq rfl) (by decide) (by decide) (by decide) (by decide) ?_
  rintro v3 hI ⟨rfl, ⟨ws, K1, hws⟩, CLS⟩
  show Go K hI 2 21 11 [.val (.int p0), .val (.int p1), .val (.int p2), .val (.int p3), .val (.int p4), .unset, .unset, .unset, .unset, .unset, .unset, .unset, .unset, .unset, .unset] [.ref b2]
  replace hz := Nat.le_trans hz K1.1
  replace OL := OL.keep K1 hws
  refine w_astore 13 [.val (.int p0), .val (.int p1), .val (.int p2), .val (.int p3), .val (.int p4), .val (.ref b2), .unset, .unset, .unset, .unset, .unset, .unset, .unset, .unset, .unset] C at_11 rfl rfl rfl ?_
  refine w_iloadN 14 C at_13 rfl rfl ?_
  refine w_ldc (v := (2147483647 : Int32)) 16 C at_14 rfl (hw _ (List.mem_of_getElem? (i := 22) rfl)) ?_
  refine w_iand 17 C at_16 rfl ?_
  refine w_iconst 18 (5 : Int32) C at_17 rfl rfl ?_
  refine w_irem 19 C at_18 rfl (by decide) ?_
  refine w_istore 21 [.val (.int p0), .val (.int p1), .val (.int p2), .val (.int p3), .val (.int p4), .val (.ref b2), .val (.int ((p1 &&& (2147483647 : Int32)) % (5 : Int32))), .unset, .unset, .unset, .unset, .unset, .unset, .unset, .unset] C at_19 rfl rfl ?_
  generalize hv_x4 : ((p1 &&& (2147483647 : Int32)) % (5 : Int32)) = x4
  refine w_iloadN 22 C at_21 rfl rfl ?_
  have e5 : (5 : Int32).toInt = 5 := by decide
  refine w_callS (y := (⟨"java/lang/Integer", "valueOf", "(I)Ljava/lang/Integer;"⟩ : MethodName)) 25 0 [.int p3] C at_22 rfl (hw _ (List.mem_of_getElem? (i := 23) rfl)) (hw _ (List.mem_of_getElem? (i := 24) rfl)) (hw _ (List.mem_of_getElem? (i := 25) rfl)) (hw _ (List.mem_of_getElem? (i := 26) rfl)) (by decide) (rm_vo K.l Z a0 hw [] p3 ca cc vl hI n0 hz OL SH SC BX) pd_I_to_Ljava_lang_Integer rfl (rest := []) rfl rfl (Nat.le_of_eq rfl) (by decide) (by decide) (by decide) (by decide) ?_
  rintro v5 hva ⟨va, rfl, K_va, I_va⟩
  show Go K hva 3 22 25 [.val (.int p0), .val (.int p1), .val (.int p2), .val (.int p3), .val (.int p4), .val (.ref b2), .val (.int x4), .unset, .unset, .unset, .unset, .unset, .unset, .unset, .unset] [.ref va]
  replace CLS := own_cl_keep CLS K_va
  replace hz := Nat.le_trans hz K_va.1
  replace OL := OL.keep K_va all0
  refine w_astore 27 [.val (.int p0), .val (.int p1), .val (.int p2), .val (.int p3), .val (.int p4), .val (.ref b2), .val (.int x4), .val (.ref va), .unset, .unset, .unset, .unset, .unset, .unset, .unset] C at_25 rfl rfl rfl ?_
  refine w_iload 29 C at_27 rfl rfl ?_
  have hp0 : own_pre x4.toInt [va, va, va, va] 0 = [] := by simp [own_pre]
  rw [← hp0] at CLS
  have IL : ∀ a ∈ (own_pre x4.toInt [va, va, va, va] 0), Exa Z hva a "java/lang/Integer" := by rw [hp0]; simp
  suffices J_40 : ∀ (hA0 : Heap), (n0 ≤ hA0.size) → (Old Z n0 hA0) → (own_cl Z n0 hA0 b2 (own_pre x4.toInt [va, va, va, va] 1)) → (∀ a ∈ (own_pre x4.toInt [va, va, va, va] 1), Exa Z hA0 a "java/lang/Integer") → (Exa Z hA0 va "java/lang/Integer") → Go K hA0 4 32 40 [.val (.int p0), .val (.int p1), .val (.int p2), .val (.int p3), .val (.int p4), .val (.ref b2), .val (.int x4), .val (.ref va), .unset, .unset, .unset, .unset, .unset, .unset, .unset] [] by
    refine w_if 40 32 C at_29 rfl rfl (fun (hc29 : x4.toInt ≤ (0 : Int32).toInt) => ?_) (fun (hc29 : ¬ (x4.toInt ≤ (0 : Int32).toInt)) => ?_)
    · simp only [Int32.reduceToInt] at hc29
      have hsame : (own_pre x4.toInt [va, va, va, va] 1) = (own_pre x4.toInt [va, va, va, va] 0) := own_pre_no _ _ _ (by omega)
      exact (J_40 hva hz OL (by rw [hsame]; exact CLS) (by rw [hsame]; exact IL) I_va).more (by decide) (by decide)
    · simp only [Int32.reduceToInt] at hc29
      have hmore : (own_pre x4.toInt [va, va, va, va] 1) = (own_pre x4.toInt [va, va, va, va] 0) ++ [va] := own_pre_yes _ _ 0 va (by omega) rfl
      have hll : (own_pre x4.toInt [va, va, va, va] 0).length ≤ 0 := own_pre_len _ _ _
      refine w_aload 34 C at_32 rfl rfl rfl ?_
      refine w_aload 36 C at_34 rfl rfl rfl ?_
      refine w_callV (y := (⟨"com/example/wiretagg/wiretagg/CompactList", "add", "(Ljava/lang/Object;)Z"⟩ : MethodName)) (a := b2) 39 0 [.ref va] C CLS.1 at_36 rfl (hw _ (List.mem_of_getElem? (i := 30) rfl)) (hw _ (List.mem_of_getElem? (i := 31) rfl)) (hw _ (List.mem_of_getElem? (i := 33) rfl)) (hw _ (List.mem_of_getElem? (i := 32) rfl)) (hw _ (List.mem_of_getElem? (i := 2) rfl)) (hw _ (List.mem_of_getElem? (i := 34) rfl)) (by decide) (rm_add K.l Z a0 hw [] b2 va (own_pre x4.toInt [va, va, va, va] 0) hva n0 hz g_b2 CLS (by omega) I_va IL) pd_Ljava_lang_Object_to_Z rfl (rest := []) rfl rfl (Nat.le_of_eq rfl) (by decide) (by decide) (by decide) (by decide) ?_
      rintro v6 hB ⟨rfl, ⟨ws, K9, hws⟩, CLS⟩
      show Go K hB 4 32 39 [.val (.int p0), .val (.int p1), .val (.int p2), .val (.int p3), .val (.int p4), .val (.ref b2), .val (.int x4), .val (.ref va), .unset, .unset, .unset, .unset, .unset, .unset, .unset] [.int (1 : Int32)]
      refine w_pop 40 C at_39 rfl rfl ?_
      exact J_40 hB (Nat.le_trans hz K9.1) (OL.keep K9 hws) (by rw [hmore]; exact CLS) (by rw [hmore]; intro a ha; rcases List.mem_append.mp ha with t | t; exact (IL a t).keep K9; rw [List.mem_singleton.mp t]; exact I_va.keep K9) (I_va.keep K9)
  intro hA0 hz OL CLS IL I_va
  refine w_iload 42 C at_40 rfl rfl ?_
  refine w_iconst 43 (1 : Int32) C at_42 rfl rfl ?_
  suffices J_54 : ∀ (hA1 : Heap), (n0 ≤ hA1.size) → (Old Z n0 hA1) → (own_cl Z n0 hA1 b2 (own_pre x4.toInt [va, va, va, va] 2)) → (∀ a ∈ (own_pre x4.toInt [va, va, va, va] 2), Exa Z hA1 a "java/lang/Integer") → (Exa Z hA1 va "java/lang/Integer") → Go K hA1 5 42 54 [.val (.int p0), .val (.int p1), .val (.int p2), .val (.int p3), .val (.int p4), .val (.ref b2), .val (.int x4), .val (.ref va), .unset, .unset, .unset, .unset, .unset, .unset, .unset] [] by
    refine w_icmp 54 46 C at_43 rfl rfl (fun (hc43 : x4.toInt ≤ (1 : Int32).toInt) => ?_) (fun (hc43 : ¬ (x4.toInt ≤ (1 : Int32).toInt)) => ?_)
    · simp only [Int32.reduceToInt] at hc43
      have hsame : (own_pre x4.toInt [va, va, va, va] 2) = (own_pre x4.toInt [va, va, va, va] 1) := own_pre_no _ _ _ (by omega)
      exact (J_54 hA0 hz OL (by rw [hsame]; exact CLS) (by rw [hsame]; exact IL) I_va).more (by decide) (by decide)
    · simp only [Int32.reduceToInt] at hc43
      have hmore : (own_pre x4.toInt [va, va, va, va] 2) = (own_pre x4.toInt [va, va, va, va] 1) ++ [va] := own_pre_yes _ _ 1 va (by omega) rfl
      have hll : (own_pre x4.toInt [va, va, va, va] 1).length ≤ 1 := own_pre_len _ _ _
      refine w_aload 48 C at_46 rfl rfl rfl ?_
      refine w_aload 50 C at_48 rfl rfl rfl ?_
      refine w_callV (y := (⟨"com/example/wiretagg/wiretagg/CompactList", "add", "(Ljava/lang/Object;)Z"⟩ : MethodName)) (a := b2) 53 0 [.ref va] C CLS.1 at_50 rfl (hw _ (List.mem_of_getElem? (i := 30) rfl)) (hw _ (List.mem_of_getElem? (i := 31) rfl)) (hw _ (List.mem_of_getElem? (i := 33) rfl)) (hw _ (List.mem_of_getElem? (i := 32) rfl)) (hw _ (List.mem_of_getElem? (i := 2) rfl)) (hw _ (List.mem_of_getElem? (i := 34) rfl)) (by decide) (rm_add K.l Z a0 hw [] b2 va (own_pre x4.toInt [va, va, va, va] 1) hA0 n0 hz g_b2 CLS (by omega) I_va IL) pd_Ljava_lang_Object_to_Z rfl (rest := []) rfl rfl (Nat.le_of_eq rfl) (by decide) (by decide) (by decide) (by decide) ?_
      rintro v7 hB ⟨rfl, ⟨ws, K9, hws⟩, CLS⟩
      show Go K hB 5 42 53 [.val (.int p0), .val (.int p1), .val (.int p2), .val (.int p3), .val (.int p4), .val (.ref b2), .val (.int x4), .val (.ref va), .unset, .unset, .unset, .unset, .unset, .unset, .unset] [.int (1 : Int32)]
      refine w_pop 54 C at_53 rfl rfl ?_
      exact J_54 hB (Nat.le_trans hz K9.1) (OL.keep K9 hws) (by rw [hmore]; exact CLS) (by rw [hmore]; intro a ha; rcases List.mem_append.mp ha with t | t; exact (IL a t).keep K9; rw [List.mem_singleton.mp t]; exact I_va.keep K9) (I_va.keep K9)
  intro hA1 hz OL CLS IL I_va
  refine w_iload 56 C at_54 rfl rfl ?_
  refine w_iconst 57 (2 : Int32) C at_56 rfl rfl ?_
  suffices J_68 : ∀ (hA2 : Heap), (n0 ≤ hA2.size) → (Old Z n0 hA2) → (own_cl Z n0 hA2 b2 (own_pre x4.toInt [va, va, va, va] 3)) → (∀ a ∈ (own_pre x4.toInt [va, va, va, va] 3), Exa Z hA2 a "java/lang/Integer") → (Exa Z hA2 va "java/lang/Integer") → Go K hA2 6 52 68 [.val (.int p0), .val (.int p1), .val (.int p2), .val (.int p3), .val (.int p4), .val (.ref b2), .val (.int x4), .val (.ref va), .unset, .unset, .unset, .unset, .unset, .unset, .unset] [] by
    refine w_icmp 68 60 C at_57 rfl rfl (fun (hc57 : x4.toInt ≤ (2 : Int32).toInt) => ?_) (fun (hc57 : ¬ (x4.toInt ≤ (2 : Int32).toInt)) => ?_)
    · simp only [Int32.reduceToInt] at hc57
      have hsame : (own_pre x4.toInt [va, va, va, va] 3) = (own_pre x4.toInt [va, va, va, va] 2) := own_pre_no _ _ _ (by omega)
      exact (J_68 hA1 hz OL (by rw [hsame]; exact CLS) (by rw [hsame]; exact IL) I_va).more (by decide) (by decide)
    · simp only [Int32.reduceToInt] at hc57
      have hmore : (own_pre x4.toInt [va, va, va, va] 3) = (own_pre x4.toInt [va, va, va, va] 2) ++ [va] := own_pre_yes _ _ 2 va (by omega) rfl
      have hll : (own_pre x4.toInt [va, va, va, va] 2).length ≤ 2 := own_pre_len _ _ _
      refine w_aload 62 C at_60 rfl rfl rfl ?_
      refine w_aload 64 C at_62 rfl rfl rfl ?_
      refine w_callV (y := (⟨"com/example/wiretagg/wiretagg/CompactList", "add", "(Ljava/lang/Object;)Z"⟩ : MethodName)) (a := b2) 67 0 [.ref va] C CLS.1 at_64 rfl (hw _ (List.mem_of_getElem? (i := 30) rfl)) (hw _ (List.mem_of_getElem? (i := 31) rfl)) (hw _ (List.mem_of_getElem? (i := 33) rfl)) (hw _ (List.mem_of_getElem? (i := 32) rfl)) (hw _ (List.mem_of_getElem? (i := 2) rfl)) (hw _ (List.mem_of_getElem? (i := 34) rfl)) (by decide) (rm_add K.l Z a0 hw [] b2 va (own_pre x4.toInt [va, va, va, va] 2) hA1 n0 hz g_b2 CLS (by omega) I_va IL) pd_Ljava_lang_Object_to_Z rfl (rest := []) rfl rfl (Nat.le_of_eq rfl) (by decide) (by decide) (by decide) (by decide) ?_
      rintro v8 hB ⟨rfl, ⟨ws, K9, hws⟩, CLS⟩
      show Go K hB 6 52 67 [.val (.int p0), .val (.int p1), .val (.int p2), .val (.int p3), .val (.int p4), .val (.ref b2), .val (.int x4), .val (.ref va), .unset, .unset, .unset, .unset, .unset, .unset, .unset] [.int (1 : Int32)]
      refine w_pop 68 C at_67 rfl rfl ?_
      exact J_68 hB (Nat.le_trans hz K9.1) (OL.keep K9 hws) (by rw [hmore]; exact CLS) (by rw [hmore]; intro a ha; rcases List.mem_append.mp ha with t | t; exact (IL a t).keep K9; rw [List.mem_singleton.mp t]; exact I_va.keep K9) (I_va.keep K9)
  intro hA2 hz OL CLS IL I_va
  refine w_iload 70 C at_68 rfl rfl ?_
  refine w_iconst 71 (3 : Int32) C at_70 rfl rfl ?_
  suffices J_82 : ∀ (hA3 : Heap), (n0 ≤ hA3.size) → (Old Z n0 hA3) → (own_cl Z n0 hA3 b2 (own_pre x4.toInt [va, va, va, va] 4)) → (∀ a ∈ (own_pre x4.toInt [va, va, va, va] 4), Exa Z hA3 a "java/lang/Integer") → (Exa Z hA3 va "java/lang/Integer") → Go K hA3 7 62 82 [.val (.int p0), .val (.int p1), .val (.int p2), .val (.int p3), .val (.int p4), .val (.ref b2), .val (.int x4), .val (.ref va), .unset, .unset, .unset, .unset, .unset, .unset, .unset] [] by
    refine w_icmp 82 74 C at_71 rfl rfl (fun (hc71 : x4.toInt ≤ (3 : Int32).toInt) => ?_) (fun (hc71 : ¬ (x4.toInt ≤ (3 : Int32).toInt)) => ?_)
    · simp only [Int32.reduceToInt] at hc71
      have hsame : (own_pre x4.toInt [va, va, va, va] 4) = (own_pre x4.toInt [va, va, va, va] 3) := own_pre_no _ _ _ (by omega)
      exact (J_82 hA2 hz OL (by rw [hsame]; exact CLS) (by rw [hsame]; exact IL) I_va).more (by decide) (by decide)
    · simp only [Int32.reduceToInt] at hc71
      have hmore : (own_pre x4.toInt [va, va, va, va] 4) = (own_pre x4.toInt [va, va, va, va] 3) ++ [va] := own_pre_yes _ _ 3 va (by omega) rfl
      have hll : (own_pre x4.toInt [va, va, va, va] 3).length ≤ 3 := own_pre_len _ _ _
      refine w_aload 76 C at_74 rfl rfl rfl ?_
      refine w_aload 78 C at_76 rfl rfl rfl ?_
      refine w_callV (y := (⟨"com/example/wiretagg/wiretagg/CompactList", "add", "(Ljava/lang/Object;)Z"⟩ : MethodName)) (a := b2) 81 0 [.ref va] C CLS.1 at_78 rfl (hw _ (List.mem_of_getElem? (i := 30) rfl)) (hw _ (List.mem_of_getElem? (i := 31) rfl)) (hw _ (List.mem_of_getElem? (i := 33) rfl)) (hw _ (List.mem_of_getElem? (i := 32) rfl)) (hw _ (List.mem_of_getElem? (i := 2) rfl)) (hw _ (List.mem_of_getElem? (i := 34) rfl)) (by decide) (rm_add K.l Z a0 hw [] b2 va (own_pre x4.toInt [va, va, va, va] 3) hA2 n0 hz g_b2 CLS (by omega) I_va IL) pd_Ljava_lang_Object_to_Z rfl (rest := []) rfl rfl (Nat.le_of_eq rfl) (by decide) (by decide) (by decide) (by decide) ?_
      rintro v9 hB ⟨rfl, ⟨ws, K9, hws⟩, CLS⟩
      show Go K hB 7 62 81 [.val (.int p0), .val (.int p1), .val (.int p2), .val (.int p3), .val (.int p4), .val (.ref b2), .val (.int x4), .val (.ref va), .unset, .unset, .unset, .unset, .unset, .unset, .unset] [.int (1 : Int32)]
      refine w_pop 82 C at_81 rfl rfl ?_
      exact J_82 hB (Nat.le_trans hz K9.1) (OL.keep K9 hws) (by rw [hmore]; exact CLS) (by rw [hmore]; intro a ha; rcases List.mem_append.mp ha with t | t; exact (IL a t).keep K9; rw [List.mem_singleton.mp t]; exact I_va.keep K9) (I_va.keep K9)
  intro hA3 hz OL CLS IL I_va
  refine w_aload 84 C at_82 rfl rfl rfl ?_
  refine w_callV (y := (⟨"com/example/wiretagg/wiretagg/CompactList", "clear", "()V"⟩ : MethodName)) (a := b2) 87 0 [] C CLS.1 at_84 rfl (hw _ (List.mem_of_getElem? (i := 51) rfl)) (hw _ (List.mem_of_getElem? (i := 52) rfl)) (hw _ (List.mem_of_getElem? (i := 54) rfl)) (hw _ (List.mem_of_getElem? (i := 53) rfl)) (hw _ (List.mem_of_getElem? (i := 2) rfl)) (hw _ (List.mem_of_getElem? (i := 55) rfl)) (by decide) (rm_cl K.l Z a0 hw [] b2 (own_pre x4.toInt [va, va, va, va] 4) hA3 n0 hz g_b2 CLS) pd__to_V rfl (rest := []) rfl rfl (Nat.le_of_eq rfl) (by decide) (by decide) (by decide) (by decide) ?_
  rintro v10 hC ⟨rfl, ⟨ws2, K2, hws2⟩, CLS⟩
  show Go K hC 7 62 87 [.val (.int p0), .val (.int p1), .val (.int p2), .val (.int p3), .val (.int p4), .val (.ref b2), .val (.int x4), .val (.ref va), .unset, .unset, .unset, .unset, .unset, .unset, .unset] []
  replace hz := Nat.le_trans hz K2.1
  replace OL := OL.keep K2 hws2
  replace I_va := I_va.keep K2
  refine w_aload 89 C at_87 rfl rfl rfl ?_
  refine w_callV (y := (⟨"com/example/wiretagg/wiretagg/CompactList", "size", "()I"⟩ : MethodName)) (a := b2) 92 0 [] C CLS.1 at_89 rfl (hw _ (List.mem_of_getElem? (i := 56) rfl)) (hw _ (List.mem_of_getElem? (i := 57) rfl)) (hw _ (List.mem_of_getElem? (i := 59) rfl)) (hw _ (List.mem_of_getElem? (i := 58) rfl)) (hw _ (List.mem_of_getElem? (i := 2) rfl)) (hw _ (List.mem_of_getElem? (i := 60) rfl)) (by decide) (rm_sz K.l Z a0 hw [] b2 [] hC n0 hz CLS) pd__to_I rfl (rest := []) rfl rfl (Nat.le_of_eq rfl) (by decide) (by decide) (by decide) (by decide) ?_
  rintro v12 h11 ⟨⟨z0, rfl, hz0⟩, rfl⟩
  show Go K hC 7 62 92 [.val (.int p0), .val (.int p1), .val (.int p2), .val (.int p3), .val (.int p4), .val (.ref b2), .val (.int x4), .val (.ref va), .unset, .unset, .unset, .unset, .unset, .unset, .unset] [.int z0]
  obtain rfl : z0 = (0 : Int32) := own_eq (by rw [hz0]; decide)
  refine w_ifN 95 C at_92 rfl (show ¬ (¬ ((0 : Int32) = (0 : Int32))) from (by decide)) ?_
  refine w_iconst 96 (1 : Int32) C at_95 rfl rfl ?_
  refine w_goto 100 C at_96 rfl ?_
  refine w_istore 102 [.val (.int p0), .val (.int p1), .val (.int p2), .val (.int p3), .val (.int p4), .val (.ref b2), .val (.int x4), .val (.ref va), .val (.int (1 : Int32)), .unset, .unset, .unset, .unset, .unset, .unset] C at_100 rfl rfl ?_
  refine w_iloadN 103 C at_102 rfl rfl ?_
  refine w_ldc (v := (2147483647 : Int32)) 105 C at_103 rfl (hw _ (List.mem_of_getElem? (i := 22) rfl)) ?_
  refine w_iand 106 C at_105 rfl ?_
  refine w_iconst 107 (5 : Int32) C at_106 rfl rfl ?_
  refine w_irem 108 C at_107 rfl (by decide) ?_
  refine w_istore 110 [.val (.int p0), .val (.int p1), .val (.int p2), .val (.int p3), .val (.int p4), .val (.ref b2), .val (.int x4), .val (.ref va), .val (.int (1 : Int32)), .val (.int ((p2 &&& (2147483647 : Int32)) % (5 : Int32))), .unset, .unset, .unset, .unset, .unset] C at_108 rfl rfl ?_
  generalize hv_x13 : ((p2 &&& (2147483647 : Int32)) % (5 : Int32)) = x13
  refine w_iload 112 C at_110 rfl rfl ?_
  have hn2 : 0 ≤ x13.toInt ∧ x13.toInt ≤ 4 := by
    have m := own_mask p2 2147483647 31 (by decide) (by decide)
    rw [← hv_x13, Jvm.Kit.i32_rem_nonneg (by omega), e5]; omega
  refine w_callS (y := (⟨"java/lang/Integer", "valueOf", "(I)Ljava/lang/Integer;"⟩ : MethodName)) 115 0 [.int p4] C at_112 rfl (hw _ (List.mem_of_getElem? (i := 23) rfl)) (hw _ (List.mem_of_getElem? (i := 24) rfl)) (hw _ (List.mem_of_getElem? (i := 25) rfl)) (hw _ (List.mem_of_getElem? (i := 26) rfl)) (by decide) (rm_vo K.l Z a0 hw [] p4 ca cc vl hC n0 hz OL SH SC BX) pd_I_to_Ljava_lang_Integer rfl (rest := []) rfl rfl (Nat.le_of_eq rfl) (by decide) (by decide) (by decide) (by decide) ?_
  rintro v14 hc0 ⟨c0, rfl, K_c0, I_c0⟩
  show Go K hc0 8 63 115 [.val (.int p0), .val (.int p1), .val (.int p2), .val (.int p3), .val (.int p4), .val (.ref b2), .val (.int x4), .val (.ref va), .val (.int (1 : Int32)), .val (.int x13), .unset, .unset, .unset, .unset, .unset] [.ref c0]
  replace CLS := own_cl_keep CLS K_c0
  replace hz := Nat.le_trans hz K_c0.1
  replace OL := OL.keep K_c0 all0
  replace I_va := I_va.keep K_c0
  refine w_astore 117 [.val (.int p0), .val (.int p1), .val (.int p2), .val (.int p3), .val (.int p4), .val (.ref b2), .val (.int x4), .val (.ref va), .val (.int (1 : Int32)), .val (.int x13), .val (.ref c0), .unset, .unset, .unset, .unset] C at_115 rfl rfl rfl ?_
  refine w_iload 119 C at_117 rfl rfl ?_
  refine w_iconst 120 (1 : Int32) C at_119 rfl rfl ?_
  refine w_ixor 121 C at_120 rfl ?_
  refine w_callS (y := (⟨"java/lang/Integer", "valueOf", "(I)Ljava/lang/Integer;"⟩ : MethodName)) 124 0 [.int (p4 ^^^ (1 : Int32))] C at_121 rfl (hw _ (List.mem_of_getElem? (i := 23) rfl)) (hw _ (List.mem_of_getElem? (i := 24) rfl)) (hw _ (List.mem_of_getElem? (i := 25) rfl)) (hw _ (List.mem_of_getElem? (i := 26) rfl)) (by decide) (rm_vo K.l Z a0 hw [] (p4 ^^^ (1 : Int32)) ca cc vl hc0 n0 hz OL SH SC BX) pd_I_to_Ljava_lang_Integer rfl (rest := []) rfl rfl (Nat.le_of_eq rfl) (by decide) (by decide) (by decide) (by decide) ?_
  rintro v15 hc1 ⟨c1, rfl, K_c1, I_c1⟩
  show Go K hc1 9 64 124 [.val (.int p0), .val (.int p1), .val (.int p2), .val (.int p3), .val (.int p4), .val (.ref b2), .val (.int x4), .val (.ref va), .val (.int (1 : Int32)), .val (.int x13), .val (.ref c0), .unset, .unset, .unset, .unset] [.ref c1]
  replace CLS := own_cl_keep CLS K_c1
  replace hz := Nat.le_trans hz K_c1.1
  replace OL := OL.keep K_c1 all0
  replace I_va := I_va.keep K_c1
  replace I_c0 := I_c0.keep K_c1
  refine w_astore 126 [.val (.int p0), .val (.int p1), .val (.int p2), .val (.int p3), .val (.int p4), .val (.ref b2), .val (.int x4), .val (.ref va), .val (.int (1 : Int32)), .val (.int x13), .val (.ref c0), .val (.ref c1), .unset, .unset, .unset] C at_124 rfl rfl rfl ?_
  refine w_iload 128 C at_126 rfl rfl ?_
  refine w_iconst 129 (2 : Int32) C at_128 rfl rfl ?_
  refine w_ixor 130 C at_129 rfl ?_
  refine w_callS (y := (⟨"java/lang/Integer", "valueOf", "(I)Ljava/lang/Integer;"⟩ : MethodName)) 133 0 [.int (p4 ^^^ (2 : Int32))] C at_130 rfl (hw _ (List.mem_of_getElem? (i := 23) rfl)) (hw _ (List.mem_of_getElem? (i := 24) rfl)) (hw _ (List.mem_of_getElem? (i := 25) rfl)) (hw _ (List.mem_of_getElem? (i := 26) rfl)) (by decide) (rm_vo K.l Z a0 hw [] (p4 ^^^ (2 : Int32)) ca cc vl hc1 n0 hz OL SH SC BX) pd_I_to_Ljava_lang_Integer rfl (rest := []) rfl rfl (Nat.le_of_eq rfl) (by decide) (by decide) (by decide) (by decide) ?_
  rintro v16 hc2 ⟨c2, rfl, K_c2, I_c2⟩
  show Go K hc2 10 65 133 [.val (.int p0), .val (.int p1), .val (.int p2), .val (.int p3), .val (.int p4), .val (.ref b2), .val (.int x4), .val (.ref va), .val (.int (1 : Int32)), .val (.int x13), .val (.ref c0), .val (.ref c1), .unset, .unset, .unset] [.ref c2]
  replace CLS := own_cl_keep CLS K_c2
  replace hz := Nat.le_trans hz K_c2.1
  replace OL := OL.keep K_c2 all0
  replace I_va := I_va.keep K_c2
  replace I_c0 := I_c0.keep K_c2
  replace I_c1 := I_c1.keep K_c2
  refine w_astore 135 [.val (.int p0), .val (.int p1), .val (.int p2), .val (.int p3), .val (.int p4), .val (.ref b2), .val (.int x4), .val (.ref va), .val (.int (1 : Int32)), .val (.int x13), .val (.ref c0), .val (.ref c1), .val (.ref c2), .unset, .unset] C at_133 rfl rfl rfl ?_
  refine w_iload 137 C at_135 rfl rfl ?_
  refine w_iconst 138 (3 : Int32) C at_137 rfl rfl ?_
  refine w_ixor 139 C at_138 rfl ?_
  refine w_callS (y := (⟨"java/lang/Integer", "valueOf", "(I)Ljava/lang/Integer;"⟩ : MethodName)) 142 0 [.int (p4 ^^^ (3 : Int32))] C at_139 rfl (hw _ (List.mem_of_getElem? (i := 23) rfl)) (hw _ (List.mem_of_getElem? (i := 24) rfl)) (hw _ (List.mem_of_getElem? (i := 25) rfl)) (hw _ (List.mem_of_getElem? (i := 26) rfl)) (by decide) (rm_vo K.l Z a0 hw [] (p4 ^^^ (3 : Int32)) ca cc vl hc2 n0 hz OL SH SC BX) pd_I_to_Ljava_lang_Integer rfl (rest := []) rfl rfl (Nat.le_of_eq rfl) (by decide) (by decide) (by decide) (by decide) ?_
  rintro v17 hc3 ⟨c3, rfl, K_c3, I_c3⟩
  show Go K hc3 11 66 142 [.val (.int p0), .val (.int p1), .val (.int p2), .val (.int p3), .val (.int p4), .val (.ref b2), .val (.int x4), .val (.ref va), .val (.int (1 : Int32)), .val (.int x13), .val (.ref c0), .val (.ref c1), .val (.ref c2), .unset, .unset] [.ref c3]
  replace CLS := own_cl_keep CLS K_c3
  replace hz := Nat.le_trans hz K_c3.1
  replace OL := OL.keep K_c3 all0
  replace I_va := I_va.keep K_c3
  replace I_c0 := I_c0.keep K_c3
  replace I_c1 := I_c1.keep K_c3
  replace I_c2 := I_c2.keep K_c3
  refine w_astore 144 [.val (.int p0), .val (.int p1), .val (.int p2), .val (.int p3), .val (.int p4), .val (.ref b2), .val (.int x4), .val (.ref va), .val (.int (1 : Int32)), .val (.int x13), .val (.ref c0), .val (.ref c1), .val (.ref c2), .val (.ref c3), .unset] C at_142 rfl rfl rfl ?_
  refine w_aload 146 C at_144 rfl rfl rfl ?_
  refine w_astore 148 [.val (.int p0), .val (.int p1), .val (.int p2), .val (.int p3), .val (.int p4), .val (.ref b2), .val (.int x4), .val (.ref va), .val (.int (1 : Int32)), .val (.int x13), .val (.ref c0), .val (.ref c1), .val (.ref c2), .val (.ref c3), .val (.ref c0)] C at_146 rfl rfl rfl ?_
  refine w_iload 150 C at_148 rfl rfl ?_
  have hp0 : own_pre x13.toInt [c0, c1, c2, c3] 0 = [] := by simp [own_pre]
  rw [← hp0] at CLS
  have IL : ∀ a ∈ (own_pre x13.toInt [c0, c1, c2, c3] 0), Exa Z hc3 a "java/lang/Integer" := by rw [hp0]; simp
  suffices J_165 : ∀ (hB0 : Heap) (la : Addr), (n0 ≤ hB0.size) → (Old Z n0 hB0) → (own_cl Z n0 hB0 b2 (own_pre x13.toInt [c0, c1, c2, c3] 1)) → (∀ a ∈ (own_pre x13.toInt [c0, c1, c2, c3] 1), Exa Z hB0 a "java/lang/Integer") → (Exa Z hB0 va "java/lang/Integer") → (Exa Z hB0 c0 "java/lang/Integer") → (Exa Z hB0 c1 "java/lang/Integer") → (Exa Z hB0 c2 "java/lang/Integer") → (Exa Z hB0 c3 "java/lang/Integer") → (0 < x13.toInt → (own_pre x13.toInt [c0, c1, c2, c3] 1).getLast? = some la) → Go K hB0 12 76 165 [.val (.int p0), .val (.int p1), .val (.int p2), .val (.int p3), .val (.int p4), .val (.ref b2), .val (.int x4), .val (.ref va), .val (.int (1 : Int32)), .val (.int x13), .val (.ref c0), .val (.ref c1), .val (.ref c2), .val (.ref c3), .val (.ref la)] [] by
    refine w_if 165 153 C at_150 rfl rfl (fun (hc150 : x13.toInt ≤ (0 : Int32).toInt) => ?_) (fun (hc150 : ¬ (x13.toInt ≤ (0 : Int32).toInt)) => ?_)
    · simp only [Int32.reduceToInt] at hc150
      have hsame : (own_pre x13.toInt [c0, c1, c2, c3] 1) = (own_pre x13.toInt [c0, c1, c2, c3] 0) := own_pre_no _ _ _ (by omega)
      exact (J_165 hc3 c0 hz OL (by rw [hsame]; exact CLS) (by rw [hsame]; exact IL) I_va I_c0 I_c1 I_c2 I_c3 (fun q => absurd q (by omega))).more (by decide) (by decide)
    · simp only [Int32.reduceToInt] at hc150
      have hmore : (own_pre x13.toInt [c0, c1, c2, c3] 1) = (own_pre x13.toInt [c0, c1, c2, c3] 0) ++ [c0] := own_pre_yes _ _ 0 c0 (by omega) rfl
      have hll : (own_pre x13.toInt [c0, c1, c2, c3] 0).length ≤ 0 := own_pre_len _ _ _
      refine w_aload 155 C at_153 rfl rfl rfl ?_
      refine w_aload 157 C at_155 rfl rfl rfl ?_
      refine w_callV (y := (⟨"com/example/wiretagg/wiretagg/CompactList", "add", "(Ljava/lang/Object;)Z"⟩ : MethodName)) (a := b2) 160 0 [.ref c0] C CLS.1 at_157 rfl (hw _ (List.mem_of_getElem? (i := 30) rfl)) (hw _ (List.mem_of_getElem? (i := 31) rfl)) (hw _ (List.mem_of_getElem? (i := 33) rfl)) (hw _ (List.mem_of_getElem? (i := 32) rfl)) (hw _ (List.mem_of_getElem? (i := 2) rfl)) (hw _ (List.mem_of_getElem? (i := 34) rfl)) (by decide) (rm_add K.l Z a0 hw [] b2 c0 (own_pre x13.toInt [c0, c1, c2, c3] 0) hc3 n0 hz g_b2 CLS (by omega) I_c0 IL) pd_Ljava_lang_Object_to_Z rfl (rest := []) rfl rfl (Nat.le_of_eq rfl) (by decide) (by decide) (by decide) (by decide) ?_
      rintro v18 hB ⟨rfl, ⟨ws, K9, hws⟩, CLS⟩
      show Go K hB 12 76 160 [.val (.int p0), .val (.int p1), .val (.int p2), .val (.int p3), .val (.int p4), .val (.ref b2), .val (.int x4), .val (.ref va), .val (.int (1 : Int32)), .val (.int x13), .val (.ref c0), .val (.ref c1), .val (.ref c2), .val (.ref c3), .val (.ref c0)] [.int (1 : Int32)]
      refine w_pop 161 C at_160 rfl rfl ?_
      refine w_aload 163 C at_161 rfl rfl rfl ?_
      refine w_astore 165 [.val (.int p0), .val (.int p1), .val (.int p2), .val (.int p3), .val (.int p4), .val (.ref b2), .val (.int x4), .val (.ref va), .val (.int (1 : Int32)), .val (.int x13), .val (.ref c0), .val (.ref c1), .val (.ref c2), .val (.ref c3), .val (.ref c0)] C at_163 rfl rfl rfl ?_
      exact J_165 hB c0 (Nat.le_trans hz K9.1) (OL.keep K9 hws) (by rw [hmore]; exact CLS) (by rw [hmore]; intro a ha; rcases List.mem_append.mp ha with t | t; exact (IL a t).keep K9; rw [List.mem_singleton.mp t]; exact I_c0.keep K9) (I_va.keep K9) (I_c0.keep K9) (I_c1.keep K9) (I_c2.keep K9) (I_c3.keep K9) (fun _ => by rw [hmore]; simp)
  intro hB0 la hz OL CLS IL I_va I_c0 I_c1 I_c2 I_c3 hla
  refine w_iload 167 C at_165 rfl rfl ?_
  refine w_iconst 168 (1 : Int32) C at_167 rfl rfl ?_
  suffices J_183 : ∀ (hB1 : Heap) (la : Addr), (n0 ≤ hB1.size) → (Old Z n0 hB1) → (own_cl Z n0 hB1 b2 (own_pre x13.toInt [c0, c1, c2, c3] 2)) → (∀ a ∈ (own_pre x13.toInt [c0, c1, c2, c3] 2), Exa Z hB1 a "java/lang/Integer") → (Exa Z hB1 va "java/lang/Integer") → (Exa Z hB1 c0 "java/lang/Integer") → (Exa Z hB1 c1 "java/lang/Integer") → (Exa Z hB1 c2 "java/lang/Integer") → (Exa Z hB1 c3 "java/lang/Integer") → (0 < x13.toInt → (own_pre x13.toInt [c0, c1, c2, c3] 2).getLast? = some la) → Go K hB1 13 86 183 [.val (.int p0), .val (.int p1), .val (.int p2), .val (.int p3), .val (.int p4), .val (.ref b2), .val (.int x4), .val (.ref va), .val (.int (1 : Int32)), .val (.int x13), .val (.ref c0), .val (.ref c1), .val (.ref c2), .val (.ref c3), .val (.ref la)] [] by
    refine w_icmp 183 171 C at_168 rfl rfl (fun (hc168 : x13.toInt ≤ (1 : Int32).toInt) => ?_) (fun (hc168 : ¬ (x13.toInt ≤ (1 : Int32).toInt)) => ?_)
    · simp only [Int32.reduceToInt] at hc168
      have hsame : (own_pre x13.toInt [c0, c1, c2, c3] 2) = (own_pre x13.toInt [c0, c1, c2, c3] 1) := own_pre_no _ _ _ (by omega)
      exact (J_183 hB0 la hz OL (by rw [hsame]; exact CLS) (by rw [hsame]; exact IL) I_va I_c0 I_c1 I_c2 I_c3 (by rw [hsame]; exact hla)).more (by decide) (by decide)
    · simp only [Int32.reduceToInt] at hc168
      have hmore : (own_pre x13.toInt [c0, c1, c2, c3] 2) = (own_pre x13.toInt [c0, c1, c2, c3] 1) ++ [c1] := own_pre_yes _ _ 1 c1 (by omega) rfl
      have hll : (own_pre x13.toInt [c0, c1, c2, c3] 1).length ≤ 1 := own_pre_len _ _ _
      refine w_aload 173 C at_171 rfl rfl rfl ?_
      refine w_aload 175 C at_173 rfl rfl rfl ?_
      refine w_callV (y := (⟨"com/example/wiretagg/wiretagg/CompactList", "add", "(Ljava/lang/Object;)Z"⟩ : MethodName)) (a := b2) 178 0 [.ref c1] C CLS.1 at_175 rfl (hw _ (List.mem_of_getElem? (i := 30) rfl)) (hw _ (List.mem_of_getElem? (i := 31) rfl)) (hw _ (List.mem_of_getElem? (i := 33) rfl)) (hw _ (List.mem_of_getElem? (i := 32) rfl)) (hw _ (List.mem_of_getElem? (i := 2) rfl)) (hw _ (List.mem_of_getElem? (i := 34) rfl)) (by decide) (rm_add K.l Z a0 hw [] b2 c1 (own_pre x13.toInt [c0, c1, c2, c3] 1) hB0 n0 hz g_b2 CLS (by omega) I_c1 IL) pd_Ljava_lang_Object_to_Z rfl (rest := []) rfl rfl (Nat.le_of_eq rfl) (by decide) (by decide) (by decide) (by decide) ?_
      rintro v19 hB ⟨rfl, ⟨ws, K9, hws⟩, CLS⟩
      show Go K hB 13 86 178 [.val (.int p0), .val (.int p1), .val (.int p2), .val (.int p3), .val (.int p4), .val (.ref b2), .val (.int x4), .val (.ref va), .val (.int (1 : Int32)), .val (.int x13), .val (.ref c0), .val (.ref c1), .val (.ref c2), .val (.ref c3), .val (.ref la)] [.int (1 : Int32)]
      refine w_pop 179 C at_178 rfl rfl ?_
      refine w_aload 181 C at_179 rfl rfl rfl ?_
      refine w_astore 183 [.val (.int p0), .val (.int p1), .val (.int p2), .val (.int p3), .val (.int p4), .val (.ref b2), .val (.int x4), .val (.ref va), .val (.int (1 : Int32)), .val (.int x13), .val (.ref c0), .val (.ref c1), .val (.ref c2), .val (.ref c3), .val (.ref c1)] C at_181 rfl rfl rfl ?_
      exact J_183 hB c1 (Nat.le_trans hz K9.1) (OL.keep K9 hws) (by rw [hmore]; exact CLS) (by rw [hmore]; intro a ha; rcases List.mem_append.mp ha with t | t; exact (IL a t).keep K9; rw [List.mem_singleton.mp t]; exact I_c1.keep K9) (I_va.keep K9) (I_c0.keep K9) (I_c1.keep K9) (I_c2.keep K9) (I_c3.keep K9) (fun _ => by rw [hmore]; simp)
  intro hB1 la hz OL CLS IL I_va I_c0 I_c1 I_c2 I_c3 hla
  refine w_iload 185 C at_183 rfl rfl ?_
  refine w_iconst 186 (2 : Int32) C at_185 rfl rfl ?_
  suffices J_201 : ∀ (hB2 : Heap) (la : Addr), (n0 ≤ hB2.size) → (Old Z n0 hB2) → (own_cl Z n0 hB2 b2 (own_pre x13.toInt [c0, c1, c2, c3] 3)) → (∀ a ∈ (own_pre x13.toInt [c0, c1, c2, c3] 3), Exa Z hB2 a "java/lang/Integer") → (Exa Z hB2 va "java/lang/Integer") → (Exa Z hB2 c0 "java/lang/Integer") → (Exa Z hB2 c1 "java/lang/Integer") → (Exa Z hB2 c2 "java/lang/Integer") → (Exa Z hB2 c3 "java/lang/Integer") → (0 < x13.toInt → (own_pre x13.toInt [c0, c1, c2, c3] 3).getLast? = some la) → Go K hB2 14 96 201 [.val (.int p0), .val (.int p1), .val (.int p2), .val (.int p3), .val (.int p4), .val (.ref b2), .val (.int x4), .val (.ref va), .val (.int (1 : Int32)), .val (.int x13), .val (.ref c0), .val (.ref c1), .val (.ref c2), .val (.ref c3), .val (.ref la)] [] by
    refine w_icmp 201 189 C at_186 rfl rfl (fun (hc186 : x13.toInt ≤ (2 : Int32).toInt) => ?_) (fun (hc186 : ¬ (x13.toInt ≤ (2 : Int32).toInt)) => ?_)
    · simp only [Int32.reduceToInt] at hc186
      have hsame : (own_pre x13.toInt [c0, c1, c2, c3] 3) = (own_pre x13.toInt [c0, c1, c2, c3] 2) := own_pre_no _ _ _ (by omega)
      exact (J_201 hB1 la hz OL (by rw [hsame]; exact CLS) (by rw [hsame]; exact IL) I_va I_c0 I_c1 I_c2 I_c3 (by rw [hsame]; exact hla)).more (by decide) (by decide)
    · simp only [Int32.reduceToInt] at hc186
      have hmore : (own_pre x13.toInt [c0, c1, c2, c3] 3) = (own_pre x13.toInt [c0, c1, c2, c3] 2) ++ [c2] := own_pre_yes _ _ 2 c2 (by omega) rfl
      have hll : (own_pre x13.toInt [c0, c1, c2, c3] 2).length ≤ 2 := own_pre_len _ _ _
      refine w_aload 191 C at_189 rfl rfl rfl ?_
      refine w_aload 193 C at_191 rfl rfl rfl ?_
      refine w_callV (y := (⟨"com/example/wiretagg/wiretagg/CompactList", "add", "(Ljava/lang/Object;)Z"⟩ : MethodName)) (a := b2) 196 0 [.ref c2] C CLS.1 at_193 rfl (hw _ (List.mem_of_getElem? (i := 30) rfl)) (hw _ (List.mem_of_getElem? (i := 31) rfl)) (hw _ (List.mem_of_getElem? (i := 33) rfl)) (hw _ (List.mem_of_getElem? (i := 32) rfl)) (hw _ (List.mem_of_getElem? (i := 2) rfl)) (hw _ (List.mem_of_getElem? (i := 34) rfl)) (by decide) (rm_add K.l Z a0 hw [] b2 c2 (own_pre x13.toInt [c0, c1, c2, c3] 2) hB1 n0 hz g_b2 CLS (by omega) I_c2 IL) pd_Ljava_lang_Object_to_Z rfl (rest := []) rfl rfl (Nat.le_of_eq rfl) (by decide) (by decide) (by decide) (by decide) ?_
      rintro v20 hB ⟨rfl, ⟨ws, K9, hws⟩, CLS⟩
      show Go K hB 14 96 196 [.val (.int p0), .val (.int p1), .val (.int p2), .val (.int p3), .val (.int p4), .val (.ref b2), .val (.int x4), .val (.ref va), .val (.int (1 : Int32)), .val (.int x13), .val (.ref c0), .val (.ref c1), .val (.ref c2), .val (.ref c3), .val (.ref la)] [.int (1 : Int32)]
      refine w_pop 197 C at_196 rfl rfl ?_
      refine w_aload 199 C at_197 rfl rfl rfl ?_
      refine w_astore 201 [.val (.int p0), .val (.int p1), .val (.int p2), .val (.int p3), .val (.int p4), .val (.ref b2), .val (.int x4), .val (.ref va), .val (.int (1 : Int32)), .val (.int x13), .val (.ref c0), .val (.ref c1), .val (.ref c2), .val (.ref c3), .val (.ref c2)] C at_199 rfl rfl rfl ?_
      exact J_201 hB c2 (Nat.le_trans hz K9.1) (OL.keep K9 hws) (by rw [hmore]; exact CLS) (by rw [hmore]; intro a ha; rcases List.mem_append.mp ha with t | t; exact (IL a t).keep K9; rw [List.mem_singleton.mp t]; exact I_c2.keep K9) (I_va.keep K9) (I_c0.keep K9) (I_c1.keep K9) (I_c2.keep K9) (I_c3.keep K9) (fun _ => by rw [hmore]; simp)
  intro hB2 la hz OL CLS IL I_va I_c0 I_c1 I_c2 I_c3 hla
  refine w_iload 203 C at_201 rfl rfl ?_
  refine w_iconst 204 (3 : Int32) C at_203 rfl rfl ?_
  suffices J_219 : ∀ (hB3 : Heap) (la : Addr), (n0 ≤ hB3.size) → (Old Z n0 hB3) → (own_cl Z n0 hB3 b2 (own_pre x13.toInt [c0, c1, c2, c3] 4)) → (∀ a ∈ (own_pre x13.toInt [c0, c1, c2, c3] 4), Exa Z hB3 a "java/lang/Integer") → (Exa Z hB3 va "java/lang/Integer") → (Exa Z hB3 c0 "java/lang/Integer") → (Exa Z hB3 c1 "java/lang/Integer") → (Exa Z hB3 c2 "java/lang/Integer") → (Exa Z hB3 c3 "java/lang/Integer") → (0 < x13.toInt → (own_pre x13.toInt [c0, c1, c2, c3] 4).getLast? = some la) → Go K hB3 15 106 219 [.val (.int p0), .val (.int p1), .val (.int p2), .val (.int p3), .val (.int p4), .val (.ref b2), .val (.int x4), .val (.ref va), .val (.int (1 : Int32)), .val (.int x13), .val (.ref c0), .val (.ref c1), .val (.ref c2), .val (.ref c3), .val (.ref la)] [] by
    refine w_icmp 219 207 C at_204 rfl rfl (fun (hc204 : x13.toInt ≤ (3 : Int32).toInt) => ?_) (fun (hc204 : ¬ (x13.toInt ≤ (3 : Int32).toInt)) => ?_)
    · simp only [Int32.reduceToInt] at hc204
      have hsame : (own_pre x13.toInt [c0, c1, c2, c3] 4) = (own_pre x13.toInt [c0, c1, c2, c3] 3) := own_pre_no _ _ _ (by omega)
      exact (J_219 hB2 la hz OL (by rw [hsame]; exact CLS) (by rw [hsame]; exact IL) I_va I_c0 I_c1 I_c2 I_c3 (by rw [hsame]; exact hla)).more (by decide) (by decide)
    · simp only [Int32.reduceToInt] at hc204
      have hmore : (own_pre x13.toInt [c0, c1, c2, c3] 4) = (own_pre x13.toInt [c0, c1, c2, c3] 3) ++ [c3] := own_pre_yes _ _ 3 c3 (by omega) rfl
      have hll : (own_pre x13.toInt [c0, c1, c2, c3] 3).length ≤ 3 := own_pre_len _ _ _
      refine w_aload 209 C at_207 rfl rfl rfl ?_
      refine w_aload 211 C at_209 rfl rfl rfl ?_
      refine w_callV (y := (⟨"com/example/wiretagg/wiretagg/CompactList", "add", "(Ljava/lang/Object;)Z"⟩ : MethodName)) (a := b2) 214 0 [.ref c3] C CLS.1 at_211 rfl (hw _ (List.mem_of_getElem? (i := 30) rfl)) (hw _ (List.mem_of_getElem? (i := 31) rfl)) (hw _ (List.mem_of_getElem? (i := 33) rfl)) (hw _ (List.mem_of_getElem? (i := 32) rfl)) (hw _ (List.mem_of_getElem? (i := 2) rfl)) (hw _ (List.mem_of_getElem? (i := 34) rfl)) (by decide) (rm_add K.l Z a0 hw [] b2 c3 (own_pre x13.toInt [c0, c1, c2, c3] 3) hB2 n0 hz g_b2 CLS (by omega) I_c3 IL) pd_Ljava_lang_Object_to_Z rfl (rest := []) rfl rfl (Nat.le_of_eq rfl) (by decide) (by decide) (by decide) (by decide) ?_
      rintro v21 hB ⟨rfl, ⟨ws, K9, hws⟩, CLS⟩
      show Go K hB 15 106 214 [.val (.int p0), .val (.int p1), .val (.int p2), .val (.int p3), .val (.int p4), .val (.ref b2), .val (.int x4), .val (.ref va), .val (.int (1 : Int32)), .val (.int x13), .val (.ref c0), .val (.ref c1), .val (.ref c2), .val (.ref c3), .val (.ref la)] [.int (1 : Int32)]
      refine w_pop 215 C at_214 rfl rfl ?_
      refine w_aload 217 C at_215 rfl rfl rfl ?_
      refine w_astore 219 [.val (.int p0), .val (.int p1), .val (.int p2), .val (.int p3), .val (.int p4), .val (.ref b2), .val (.int x4), .val (.ref va), .val (.int (1 : Int32)), .val (.int x13), .val (.ref c0), .val (.ref c1), .val (.ref c2), .val (.ref c3), .val (.ref c3)] C at_217 rfl rfl rfl ?_
      exact J_219 hB c3 (Nat.le_trans hz K9.1) (OL.keep K9 hws) (by rw [hmore]; exact CLS) (by rw [hmore]; intro a ha; rcases List.mem_append.mp ha with t | t; exact (IL a t).keep K9; rw [List.mem_singleton.mp t]; exact I_c3.keep K9) (I_va.keep K9) (I_c0.keep K9) (I_c1.keep K9) (I_c2.keep K9) (I_c3.keep K9) (fun _ => by rw [hmore]; simp)
  intro hB3 la hz OL CLS IL I_va I_c0 I_c1 I_c2 I_c3 hla
  have hlen : (own_pre x13.toInt [c0, c1, c2, c3] 4).length = x13.toInt.toNat := by unfold own_pre; rw [List.length_take]; show min (min x13.toInt.toNat 4) 4 = _; omega
  refine w_iload 221 C at_219 rfl rfl ?_
  refine w_ifN 224 C at_221 rfl (show ¬ ((1 : Int32) = (0 : Int32)) from (by decide)) ?_
  refine w_aload 226 C at_224 rfl rfl rfl ?_
  refine w_callV (y := (⟨"com/example/wiretagg/wiretagg/CompactList", "size", "()I"⟩ : MethodName)) (a := b2) 229 0 [] C CLS.1 at_226 rfl (hw _ (List.mem_of_getElem? (i := 56) rfl)) (hw _ (List.mem_of_getElem? (i := 57) rfl)) (hw _ (List.mem_of_getElem? (i := 59) rfl)) (hw _ (List.mem_of_getElem? (i := 58) rfl)) (hw _ (List.mem_of_getElem? (i := 2) rfl)) (hw _ (List.mem_of_getElem? (i := 60) rfl)) (by decide) (rm_sz K.l Z a0 hw [] b2 (own_pre x13.toInt [c0, c1, c2, c3] 4) hB3 n0 hz CLS) pd__to_I rfl (rest := []) rfl rfl (Nat.le_of_eq rfl) (by decide) (by decide) (by decide) (by decide) ?_
  rintro v23 h22 ⟨⟨z1, rfl, hz1⟩, rfl⟩
  show Go K hB3 15 106 229 [.val (.int p0), .val (.int p1), .val (.int p2), .val (.int p3), .val (.int p4), .val (.ref b2), .val (.int x4), .val (.ref va), .val (.int (1 : Int32)), .val (.int x13), .val (.ref c0), .val (.ref c1), .val (.ref c2), .val (.ref c3), .val (.ref la)] [.int z1]
  refine w_iload 231 C at_229 rfl rfl ?_
  refine w_icmpN 234 C at_231 rfl (show ¬ (¬ (z1 = x13)) from (fun q => q (own_eq (by rw [hz1, hlen]; omega)))) ?_
  refine w_iconst 235 (1 : Int32) C at_234 rfl rfl ?_
  refine w_goto 239 C at_235 rfl ?_
  refine w_istore 241 [.val (.int p0), .val (.int p1), .val (.int p2), .val (.int p3), .val (.int p4), .val (.ref b2), .val (.int x4), .val (.ref va), .val (.int (1 : Int32)), .val (.int x13), .val (.ref c0), .val (.ref c1), .val (.ref c2), .val (.ref c3), .val (.ref la)] C at_239 rfl rfl ?_
  refine w_iload 243 C at_241 rfl rfl ?_
  refine w_ifN 246 C at_243 rfl (show ¬ ((1 : Int32) = (0 : Int32)) from (by decide)) ?_
  refine w_iload 248 C at_246 rfl rfl ?_
  refine w_if 283 251 C at_248 rfl rfl (fun (hc248 : x13.toInt ≤ (0 : Int32).toInt) => ?_) (fun (hc248 : ¬ (x13.toInt ≤ (0 : Int32).toInt)) => ?_)
  · refine w_iload 285 C at_283 rfl rfl ?_
    refine w_retN C (by simp) at_285 rfl (by decide) (by decide) ?_
    exact rfl
  · simp only [Int32.reduceToInt] at hc248
    have hg0 : (own_pre x13.toInt [c0, c1, c2, c3] 4)[0]? = some c0 := by unfold own_pre; rw [List.getElem?_take_of_lt (by omega)]; rfl
    have hgl : (own_pre x13.toInt [c0, c1, c2, c3] 4)[x13.toInt.toNat - 1]? = some la := by
      have q := hla (by omega)
      rw [List.getLast?_eq_getElem?, hlen] at q; exact q
    refine w_aload 253 C at_251 rfl rfl rfl ?_
    refine w_iconst 254 (0 : Int32) C at_253 rfl rfl ?_
    refine w_callV (y := (⟨"com/example/wiretagg/wiretagg/CompactList", "get", "(I)Ljava/lang/Object;"⟩ : MethodName)) (a := b2) 257 0 [.int (0 : Int32)] C CLS.1 at_254 rfl (hw _ (List.mem_of_getElem? (i := 61) rfl)) (hw _ (List.mem_of_getElem? (i := 62) rfl)) (hw _ (List.mem_of_getElem? (i := 64) rfl)) (hw _ (List.mem_of_getElem? (i := 63) rfl)) (hw _ (List.mem_of_getElem? (i := 2) rfl)) (hw _ (List.mem_of_getElem? (i := 65) rfl)) (by decide) (rm_get K.l Z a0 hw [] b2 c0 (0 : Int32) 0 (own_pre x13.toInt [c0, c1, c2, c3] 4) hB3 n0 hz CLS (by decide) hg0) pd_I_to_Ljava_lang_Object rfl (rest := []) rfl rfl (Nat.le_of_eq rfl) (by decide) (by decide) (by decide) (by decide) ?_
    rintro v25 h24 ⟨rfl, rfl⟩
    show Go K hB3 15 106 257 [.val (.int p0), .val (.int p1), .val (.int p2), .val (.int p3), .val (.int p4), .val (.ref b2), .val (.int x4), .val (.ref va), .val (.int (1 : Int32)), .val (.int x13), .val (.ref c0), .val (.ref c1), .val (.ref c2), .val (.ref c3), .val (.ref la)] [.ref c0]
    refine w_aload 259 C at_257 rfl rfl rfl ?_
    refine w_acmpEq 262 C at_259 rfl ?_
    refine w_aload 264 C at_262 rfl rfl rfl ?_
    refine w_iload 266 C at_264 rfl rfl ?_
    refine w_iconst 267 (1 : Int32) C at_266 rfl rfl ?_
    refine w_isub 268 C at_267 rfl ?_
    refine w_callV (y := (⟨"com/example/wiretagg/wiretagg/CompactList", "get", "(I)Ljava/lang/Object;"⟩ : MethodName)) (a := b2) 271 0 [.int (x13 - (1 : Int32))] C CLS.1 at_268 rfl (hw _ (List.mem_of_getElem? (i := 61) rfl)) (hw _ (List.mem_of_getElem? (i := 62) rfl)) (hw _ (List.mem_of_getElem? (i := 64) rfl)) (hw _ (List.mem_of_getElem? (i := 63) rfl)) (hw _ (List.mem_of_getElem? (i := 2) rfl)) (hw _ (List.mem_of_getElem? (i := 65) rfl)) (by decide) (rm_get K.l Z a0 hw [] b2 la (x13 - (1 : Int32)) (x13.toInt.toNat - 1) (own_pre x13.toInt [c0, c1, c2, c3] 4) hB3 n0 hz CLS (by rw [own_isub, show (1 : Int32).toInt = 1 from by decide]; omega) hgl) pd_I_to_Ljava_lang_Object rfl (rest := []) rfl rfl (Nat.le_of_eq rfl) (by decide) (by decide) (by decide) (by decide) ?_
    rintro v27 h26 ⟨rfl, rfl⟩
    show Go K hB3 15 106 271 [.val (.int p0), .val (.int p1), .val (.int p2), .val (.int p3), .val (.int p4), .val (.ref b2), .val (.int x4), .val (.ref va), .val (.int (1 : Int32)), .val (.int x13), .val (.ref c0), .val (.ref c1), .val (.ref c2), .val (.ref c3), .val (.ref la)] [.ref la]
    refine w_aload 273 C at_271 rfl rfl rfl ?_
    refine w_acmpEq 276 C at_273 rfl ?_
    refine w_iconst 277 (1 : Int32) C at_276 rfl rfl ?_
    refine w_goto 281 C at_277 rfl ?_
    refine w_istore 283 [.val (.int p0), .val (.int p1), .val (.int p2), .val (.int p3), .val (.int p4), .val (.ref b2), .val (.int x4), .val (.ref va), .val (.int (1 : Int32)), .val (.int x13), .val (.ref c0), .val (.ref c1), .val (.ref c2), .val (.ref c3), .val (.ref la)] C at_281 rfl rfl ?_
    refine w_iload 285 C at_283 rfl rfl ?_
    refine w_retN C (by simp) at_285 rfl (by decide) (by decide) ?_
    exact rfl
set_option maxRecDepth 65536 in
set_option maxHeartbeats 40000000 in
theorem comes_1 {Post : Tables → Env → Array Value → State → Outcome → State → Prop} (hpost : ∀ tb e args s v u, (limb_1_1.after args s (.returned v) u = true ∧ limb_1_2.after args s (.returned v) u = true ∧ True) → FrameEnd s (.returned v) u (Jvm.fieldLocs frame_1_writes args s ++ Jvm.arrayLocs frame_1_arrays args s ++ Jvm.staticLocs frame_1_statics s) 24 192 → Post tb e args s (.returned v) u) :
    ArmFor flags0 classFile x code maxLocals ret World_1 tables_1 room_1 Calls_1 rest_1 Pre_1 Post := by
  intro l hfl _ _ p e ha hc hk s m args below hf hA hF happ hP
  obtain ⟨hcalls, hrest, hpre⟩ := hP
  obtain ⟨-, -, -, hnamed, -, -, -, hat⟩ := (Spec.applies_iff hf).mp happ
  obtain ⟨hg, hn⟩ := and_e (Cond.before_iff.mp (show (Jvm.Cond.and given_1 narrow_1).before args s = true from hpre))
  obtain ⟨gc, r0⟩ := and_e hg
  obtain ⟨g0, r1⟩ := and_e r0
  obtain ⟨g1, r2⟩ := and_e r1
  obtain ⟨g2, r3⟩ := and_e r2
  obtain ⟨g3, r4⟩ := and_e r3
  obtain ⟨w0, w1, w2, w3, w4, rfl⟩ : ∃ w0 w1 w2 w3 w4 : Value, args = #[w0, w1, w2, w3, w4] := by
    have hs : args.size = 5 := by simpa [Cond.value, given_1] using gc
    obtain ⟨L⟩ := args
    match L, hs with
    | [w0, w1, w2, w3, w4], _ => exact ⟨w0, w1, w2, w3, w4, rfl⟩
  have hw := fun d (hd : d ∈ tables_1) => atoms_spec (ws := Jvm.Cond.code x code maxLocals ret :: tables_1) hat d (List.mem_cons_of_mem _ hd)
  obtain ⟨i0, ei0⟩ := is_v g0
  obtain rfl : w0 = (.int i0) := Option.some.inj ei0
  obtain ⟨i1, ei1⟩ := is_v g1
  obtain rfl : w1 = (.int i1) := Option.some.inj ei1
  obtain ⟨i2, ei2⟩ := is_v g2
  obtain rfl : w2 = (.int i2) := Option.some.inj ei2
  obtain ⟨i3, ei3⟩ := is_v g3
  obtain rfl : w3 = (.int i3) := Option.some.inj ei3
  obtain ⟨i4, ei4⟩ := is_v r4
  obtain rfl : w4 = (.int i4) := Option.some.inj ei4
  obtain ⟨hsets, hown0⟩ := atoms_of _ (rest_1_c_eq ▸ (show rest_1_c.before _ s = true from hrest))
  obtain ⟨ca, cc, vl, SH, SC, BX⟩ := own_statics (hsets _ (List.mem_of_getElem? (i := 1) rfl)) (hsets _ (List.mem_of_getElem? (i := 2) rfl)) (hsets _ (List.mem_of_getElem? (i := 3) rfl)) (hsets _ (List.mem_of_getElem? (i := 4) rfl)) (hsets _ (List.mem_of_getElem? (i := 6) rfl)) (hsets _ (List.mem_of_getElem? (i := 7) rfl)) (hw _ (List.mem_of_getElem? (i := 28) rfl))
  obtain ⟨n, o, h1, h2, h3, _, L, rfl, ⟨N, rfl⟩, hq⟩ := rm0 l s _ hw tables_1 i0 i1 i2 i3 i4 s.heap s.heap.size (Nat.le_refl _) ca cc vl (Old.start s) SH SC BX p e ha hc hk s m _ below hf ((Spec.applies_iff_loose hf).mp happ).1 ⟨rfl, State.Warmed39.refl s, rfl⟩ trivial
  refine ⟨n, _, h1, h2, h3, hpost _ _ _ _ _ _ ⟨Cond.after_iff.mpr rfl, Cond.after_iff.mpr (eq_i res_at (Term.int_eval (1)) rfl), trivial⟩ ⟨hq.1, hq.2.1, (hq.2.2.sift fun y hy => Or.inr (N y hy)).mono (by decide) (by decide)⟩⟩
theorem main_1_1 : Claimed_1_1 := comes_1 fun _ _ _ _ _ _ h hF => ⟨h.1, hF⟩
theorem main_1_2 : Claimed_1_2 := comes_1 fun _ _ _ _ _ _ h hF => ⟨h.2.1, hF⟩
end Jvm.Pilot.@@N@@
namespace Jvm.Pilot.@@N@@
open Jvm Jvm.ClassFile Sem Op Lib Jvm.Free Jvm.Stand Jvm.Pilot.@@N@@.Jvm.D
/-! MADE BY PROGRAM (witnessworld.py) out of the Statement's table words and the real class files: 27 classes; the members and pool entries that the words name. The judged class is class 1, her method 1. -/
namespace start1
open Jvm.ClassFile
def u (s : String) : CpInfo := .utf8 (stringToUtf16 s)
/-- a pool by its gaps: so many unusable entries, then the entry; so many at the end -/
def gap : Nat → List CpInfo → List CpInfo
  | 0, r => r
  | n + 1, r => .unusable :: gap n r
def poolList (es : List (Nat × CpInfo)) (last : Nat) : List CpInfo := es.foldr (fun e r => gap e.1 (e.2 :: r)) (gap last [])
def pool (es : List (Nat × CpInfo)) (last : Nat) : Array CpInfo := ⟨poolList es last⟩
def fileOf (pool : Array CpInfo) (this : Nat) (attrs : Array Attribute := #[]) (ms : Array MethodInfo := #[]) (fl : Nat := 33) (sup : Nat := 0) (ifs : Array Nat := #[]) (fds : Array FieldInfo := #[]) : ClassFile where
  minorVersion := 0
  majorVersion := 65
  constantPool := pool
  accessFlags := fl
  thisClass := this
  superClass := sup
  interfaces := ifs
  fields := fds
  methods := ms
  attributes := attrs
def plain (name : String) (sup : Option ClassId) : Class where
  name := name
  kind := .ordinary
  loader := none
  accessFlags := 33
  super := sup
  interfaces := #[]
  cf := none
  fields := #[]
  methods := #[]
  instanceTypes := #[]
  staticTypes := #[]
  resolved := #[]
  callSites := []
  init := .initialized
  statics := none
  mirror := none

def pool0 : Array CpInfo := pool [(5, u "<init>"), (0, u "()V"), (1, .class_ 10), (1, u "java/lang/Object")] 113

def k0c0 : Code := { maxStack := 0, maxLocals := 1, code := object_method_1_code, exceptionTable := #[], attributes := #[] }
def k0m0 : Method := { name := "<init>", desc := "()V", sig := { parameters := [], returnType := none }, accessFlags := 1, code := some k0c0 }
/-- java/lang/Object -/
def k0 : Class := { plain "java/lang/Object" none with
  accessFlags := 33
  interfaces := #[]
  cf := some (fileOf pool0 8 #[] #[{ accessFlags := 1, nameIndex := 5, descriptorIndex := 6, attributes := #[] }] 33 0 #[] #[])
  fields := #[]
  methods := #[k0m0]
  instanceTypes := #[]
  staticTypes := #[]
  resolved := Array.replicate 124 none
  statics := none }

def pool1 : Array CpInfo := pool [(2, .class_ 4), (1, u "java/lang/Object"), (0, u "<init>"), (0, u "()V"), (0, .class_ 8), (0, u "com/example/wiretagg/wiretagg/CompactList"), (0, .methodref 7 10), (0, .nameAndType 5 11), (0, u "(I)V"), (0, .integer 2147483647), (0, .methodref 14 15), (0, .class_ 16), (0, .nameAndType 17 18), (0, u "java/lang/Integer"), (0, u "valueOf"), (0, u "(I)Ljava/lang/Integer;"), (0, .methodref 7 20), (0, .nameAndType 21 22), (0, u "add"), (0, u "(Ljava/lang/Object;)Z"), (0, .methodref 7 24), (0, .nameAndType 25 6), (0, u "clear"), (0, .methodref 7 27), (0, .nameAndType 28 29), (0, u "size"), (0, u "()I"), (0, .methodref 7 31), (0, .nameAndType 32 33), (0, u "get"), (0, u "(I)Ljava/lang/Object;"), (0, .class_ 35), (0, u "com/example/wiretagg/wiretagg/CompactListClearPinLaw"), (2, u "law"), (0, u "(IIIII)Z")] 3

def k1m0 : Method := { name := "<init>", desc := "()V", sig := { parameters := [], returnType := none }, accessFlags := 1, code := none }
def k1c1 : Code := { maxStack := 4, maxLocals := 15, code := code, exceptionTable := #[], attributes := #[] }
def k1m1 : Method := { name := "law", desc := "(IIIII)Z", sig := { parameters := [.int, .int, .int, .int, .int], returnType := some .boolean }, accessFlags := 9, code := some k1c1 }
/-- com/example/wiretagg/wiretagg/CompactListClearPinLaw -/
def k1 : Class := { plain "com/example/wiretagg/wiretagg/CompactListClearPinLaw" (some 0) with
  accessFlags := 49
  interfaces := #[]
  cf := some (fileOf pool1 34 #[] #[{ accessFlags := 1, nameIndex := 5, descriptorIndex := 6, attributes := #[] }, { accessFlags := 9, nameIndex := 38, descriptorIndex := 39, attributes := #[] }] 49 2 #[] #[])
  fields := #[]
  methods := #[k1m0, k1m1]
  instanceTypes := #[]
  staticTypes := #[]
  resolved := Array.replicate 43 none
  statics := none }

def pool2 : Array CpInfo := pool [(8, .class_ 10), (1, u "java/lang/Iterable"), (24, .class_ 36), (0, u "java/lang/Object")] 25

/-- java/lang/Iterable -/
def k2 : Class := { plain "java/lang/Iterable" (some 0) with
  accessFlags := 1537
  interfaces := #[]
  cf := some (fileOf pool2 8 #[] #[] 1537 35 #[] #[])
  fields := #[]
  methods := #[]
  instanceTypes := #[]
  staticTypes := #[]
  resolved := Array.replicate 62 none
  statics := none }

def pool3 : Array CpInfo := pool [(10, .class_ 12), (1, u "java/util/Collection"), (47, .class_ 61), (0, u "java/lang/Object"), (0, .class_ 63), (0, u "java/lang/Iterable")] 51

/-- java/util/Collection -/
def k3 : Class := { plain "java/util/Collection" (some 0) with
  accessFlags := 1537
  interfaces := #[2]
  cf := some (fileOf pool3 10 #[] #[] 1537 60 #[62] #[])
  fields := #[]
  methods := #[]
  instanceTypes := #[]
  staticTypes := #[]
  resolved := Array.replicate 115 none
  statics := none }

def pool4 : Array CpInfo := pool [(1, .methodref 2 3), (0, .class_ 4), (0, .nameAndType 5 6), (0, u "java/lang/Object"), (0, u "<init>"), (0, u "()V"), (1, .class_ 10), (1, u "java/util/AbstractCollection"), (66, .class_ 78), (0, u "java/util/Collection")] 81

def k4c0 : Code := { maxStack := 1, maxLocals := 1, code := jdk_22_method_1_code, exceptionTable := #[], attributes := #[] }
def k4m0 : Method := { name := "<init>", desc := "()V", sig := { parameters := [], returnType := none }, accessFlags := 4, code := some k4c0 }
/-- java/util/AbstractCollection -/
def k4 : Class := { plain "java/util/AbstractCollection" (some 0) with
  accessFlags := 1057
  interfaces := #[3]
  cf := some (fileOf pool4 8 #[] #[{ accessFlags := 4, nameIndex := 5, descriptorIndex := 6, attributes := #[] }] 1057 2 #[77] #[])
  fields := #[]
  methods := #[k4m0]
  instanceTypes := #[]
  staticTypes := #[]
  resolved := Array.replicate 160 none
  statics := none }

def pool5 : Array CpInfo := pool [(8, .class_ 10), (1, u "java/util/SequencedCollection"), (15, .class_ 27), (0, u "java/lang/Object"), (0, .class_ 29), (0, u "java/util/Collection")] 27

/-- java/util/SequencedCollection -/
def k5 : Class := { plain "java/util/SequencedCollection" (some 0) with
  accessFlags := 1537
  interfaces := #[3]
  cf := some (fileOf pool5 8 #[] #[] 1537 26 #[28] #[])
  fields := #[]
  methods := #[]
  instanceTypes := #[]
  staticTypes := #[]
  resolved := Array.replicate 57 none
  statics := none }

def pool6 : Array CpInfo := pool [(8, .class_ 10), (1, u "java/util/List"), (92, .class_ 104), (0, u "java/lang/Object"), (15, .class_ 121), (0, u "java/util/SequencedCollection")] 129

/-- java/util/List -/
def k6 : Class := { plain "java/util/List" (some 0) with
  accessFlags := 1537
  interfaces := #[5]
  cf := some (fileOf pool6 8 #[] #[] 1537 103 #[120] #[])
  fields := #[]
  methods := #[]
  instanceTypes := #[]
  staticTypes := #[]
  resolved := Array.replicate 251 none
  statics := none }

def pool7 : Array CpInfo := pool [(1, .methodref 2 3), (0, .class_ 4), (0, .nameAndType 5 6), (0, u "java/util/AbstractCollection"), (0, u "<init>"), (0, u "()V"), (0, .fieldref 8 9), (0, .class_ 10), (0, .nameAndType 11 12), (0, u "java/util/AbstractList"), (0, u "modCount"), (0, u "I"), (64, .class_ 78), (0, u "java/util/AbstractList$Itr"), (3, .class_ 83), (0, u "java/util/AbstractList$ListItr"), (9, .class_ 94), (0, u "java/util/AbstractList$RandomAccessSubList"), (3, .class_ 99), (0, u "java/util/AbstractList$SubList"), (33, .class_ 134), (0, u "java/util/List"), (73, .class_ 209), (0, u "java/util/AbstractList$SubList$1"), (0, .class_ 211), (0, u "java/util/AbstractList$RandomAccessSpliterator")] 6

def k7c0 : Code := { maxStack := 2, maxLocals := 1, code := jdk_39_method_1_code, exceptionTable := #[], attributes := #[] }
def k7m0 : Method := { name := "<init>", desc := "()V", sig := { parameters := [], returnType := none }, accessFlags := 4, code := some k7c0 }
/-- java/util/AbstractList -/
def k7 : Class := { plain "java/util/AbstractList" (some 4) with
  accessFlags := 1057
  interfaces := #[6]
  cf := some (fileOf pool7 8 #[.nestMembers #[93, 98, 208, 210, 82, 77]] #[{ accessFlags := 4, nameIndex := 5, descriptorIndex := 6, attributes := #[] }] 1057 2 #[133] #[{ accessFlags := 132, nameIndex := 11, descriptorIndex := 12, attributes := #[] }])
  fields := #[{ name := "modCount", type := .int, accessFlags := 132, slot := 0, constantValue := 0 }]
  methods := #[k7m0]
  instanceTypes := #[.int]
  staticTypes := #[]
  resolved := Array.replicate 218 none
  statics := none }

def pool8 : Array CpInfo := pool [(1, .class_ 2), (0, u "java/util/RandomAccess"), (0, .class_ 4), (0, u "java/lang/Object")] 2

/-- java/util/RandomAccess -/
def k8 : Class := { plain "java/util/RandomAccess" (some 0) with
  accessFlags := 1537
  interfaces := #[]
  cf := some (fileOf pool8 1 #[] #[] 1537 3 #[] #[])
  fields := #[]
  methods := #[]
  instanceTypes := #[]
  staticTypes := #[]
  resolved := Array.replicate 7 none
  statics := none }

def pool9 : Array CpInfo := pool [(1, .methodref 2 3), (0, .class_ 4), (0, .nameAndType 5 6), (0, u "java/util/AbstractList"), (0, u "<init>"), (0, u "()V"), (0, .class_ 8), (0, u "com/example/wiretagg/wiretagg/CompactList"), (0, .class_ 10), (0, u "java/lang/Object"), (0, .fieldref 7 12), (0, .nameAndType 13 14), (0, u "spilled"), (0, u "[Ljava/lang/Object;"), (0, .fieldref 7 16), (0, .nameAndType 17 18), (0, u "size"), (0, u "I"), (0, .fieldref 7 20), (0, .nameAndType 21 22), (0, u "first"), (0, u "Ljava/lang/Object;"), (0, .fieldref 7 24), (0, .nameAndType 25 22), (0, u "second"), (0, .fieldref 7 27), (0, .nameAndType 28 22), (0, u "third"), (0, .methodref 30 31), (0, .class_ 32), (0, .nameAndType 33 34), (0, u "java/util/Objects"), (0, u "checkIndex"), (0, u "(II)I"), (0, .methodref 7 36), (0, .nameAndType 37 38), (0, u "inline"), (0, u "(I)Ljava/lang/Object;"), (2, u "get"), (0, .methodref 7 43), (0, .nameAndType 44 45), (0, u "place"), (0, u "(ILjava/lang/Object;)V"), (0, .fieldref 7 47), (0, .nameAndType 48 18), (0, u "modCount"), (0, .methodref 7 50), (0, .nameAndType 51 52), (0, u "room"), (0, u "(I)V"), (6, .methodref 60 61), (0, .class_ 62), (0, .nameAndType 63 34), (0, u "java/lang/Math"), (0, u "max"), (6, .class_ 71), (0, u "java/util/RandomAccess"), (0, u "INLINE"), (2, u "FIRST_ARRAY"), (5, u "()I"), (2, u "add"), (0, u "(Ljava/lang/Object;)Z"), (1, u "clear")] 4

def k9c0 : Code := { maxStack := 2, maxLocals := 2, code := prog_4_method_1_code, exceptionTable := #[], attributes := #[] }
def k9m0 : Method := { name := "<init>", desc := "(I)V", sig := { parameters := [.int], returnType := none }, accessFlags := 0, code := some k9c0 }
def k9c1 : Code := { maxStack := 1, maxLocals := 1, code := prog_4_method_3_code, exceptionTable := #[], attributes := #[] }
def k9m1 : Method := { name := "size", desc := "()I", sig := { parameters := [], returnType := some .int }, accessFlags := 1, code := some k9c1 }
def k9c2 : Code := { maxStack := 2, maxLocals := 2, code := prog_4_method_4_code, exceptionTable := #[], attributes := #[] }
def k9m2 : Method := { name := "get", desc := "(I)Ljava/lang/Object;", sig := { parameters := [.int], returnType := some (.object "java/lang/Object") }, accessFlags := 1, code := some k9c2 }
def k9c3 : Code := { maxStack := 3, maxLocals := 2, code := prog_4_method_6_code, exceptionTable := #[], attributes := #[] }
def k9m3 : Method := { name := "add", desc := "(Ljava/lang/Object;)Z", sig := { parameters := [(.object "java/lang/Object")], returnType := some .boolean }, accessFlags := 1, code := some k9c3 }
def k9c4 : Code := { maxStack := 3, maxLocals := 1, code := prog_4_method_9_code, exceptionTable := #[], attributes := #[] }
def k9m4 : Method := { name := "clear", desc := "()V", sig := { parameters := [], returnType := none }, accessFlags := 1, code := some k9c4 }
def k9c5 : Code := { maxStack := 1, maxLocals := 3, code := prog_4_method_10_code, exceptionTable := #[], attributes := #[] }
def k9m5 : Method := { name := "inline", desc := "(I)Ljava/lang/Object;", sig := { parameters := [.int], returnType := some (.object "java/lang/Object") }, accessFlags := 2, code := some k9c5 }
def k9c6 : Code := { maxStack := 3, maxLocals := 3, code := prog_4_method_11_code, exceptionTable := #[], attributes := #[] }
def k9m6 : Method := { name := "place", desc := "(ILjava/lang/Object;)V", sig := { parameters := [.int, (.object "java/lang/Object")], returnType := none }, accessFlags := 2, code := some k9c6 }
def k9c7 : Code := { maxStack := 6, maxLocals := 2, code := prog_4_method_12_code, exceptionTable := #[], attributes := #[] }
def k9m7 : Method := { name := "room", desc := "(I)V", sig := { parameters := [.int], returnType := none }, accessFlags := 2, code := some k9c7 }
/-- com/example/wiretagg/wiretagg/CompactList -/
def k9 : Class := { plain "com/example/wiretagg/wiretagg/CompactList" (some 7) with
  accessFlags := 32
  interfaces := #[8]
  cf := some (fileOf pool9 7 #[] #[{ accessFlags := 0, nameIndex := 5, descriptorIndex := 52, attributes := #[] }, { accessFlags := 1, nameIndex := 17, descriptorIndex := 81, attributes := #[] }, { accessFlags := 1, nameIndex := 41, descriptorIndex := 38, attributes := #[] }, { accessFlags := 1, nameIndex := 84, descriptorIndex := 85, attributes := #[] }, { accessFlags := 1, nameIndex := 87, descriptorIndex := 6, attributes := #[] }, { accessFlags := 2, nameIndex := 37, descriptorIndex := 38, attributes := #[] }, { accessFlags := 2, nameIndex := 44, descriptorIndex := 45, attributes := #[] }, { accessFlags := 2, nameIndex := 51, descriptorIndex := 52, attributes := #[] }] 32 2 #[70] #[{ accessFlags := 26, nameIndex := 72, descriptorIndex := 18, attributes := #[] }, { accessFlags := 26, nameIndex := 75, descriptorIndex := 18, attributes := #[] }, { accessFlags := 2, nameIndex := 17, descriptorIndex := 18, attributes := #[] }, { accessFlags := 2, nameIndex := 21, descriptorIndex := 22, attributes := #[] }, { accessFlags := 2, nameIndex := 25, descriptorIndex := 22, attributes := #[] }, { accessFlags := 2, nameIndex := 28, descriptorIndex := 22, attributes := #[] }, { accessFlags := 2, nameIndex := 13, descriptorIndex := 14, attributes := #[] }])
  fields := #[{ name := "INLINE", type := .int, accessFlags := 26, slot := 0, constantValue := 0 }, { name := "FIRST_ARRAY", type := .int, accessFlags := 26, slot := 1, constantValue := 0 }, { name := "size", type := .int, accessFlags := 2, slot := 1, constantValue := 0 }, { name := "first", type := (.object "java/lang/Object"), accessFlags := 2, slot := 2, constantValue := 0 }, { name := "second", type := (.object "java/lang/Object"), accessFlags := 2, slot := 3, constantValue := 0 }, { name := "third", type := (.object "java/lang/Object"), accessFlags := 2, slot := 4, constantValue := 0 }, { name := "spilled", type := (.array (.object "java/lang/Object")), accessFlags := 2, slot := 5, constantValue := 0 }]
  methods := #[k9m0, k9m1, k9m2, k9m3, k9m4, k9m5, k9m6, k9m7]
  instanceTypes := #[.int, .int, (.object "java/lang/Object"), (.object "java/lang/Object"), (.object "java/lang/Object"), (.array (.object "java/lang/Object"))]
  staticTypes := #[.int, .int]
  resolved := Array.replicate 92 none
  statics := none }

def pool10 : Array CpInfo := pool [(1, .class_ 2), (0, u "java/io/Serializable"), (0, .class_ 4), (0, u "java/lang/Object")] 2

/-- java/io/Serializable -/
def k10 : Class := { plain "java/io/Serializable" (some 0) with
  accessFlags := 1537
  interfaces := #[]
  cf := some (fileOf pool10 1 #[] #[] 1537 3 #[] #[])
  fields := #[]
  methods := #[]
  instanceTypes := #[]
  staticTypes := #[]
  resolved := Array.replicate 7 none
  statics := none }

def pool11 : Array CpInfo := pool [(1, .methodref 2 3), (0, .class_ 4), (0, .nameAndType 5 6), (0, u "java/lang/Object"), (0, u "<init>"), (0, u "()V"), (1, .class_ 10), (1, u "java/lang/Number"), (2, .class_ 14), (0, u "java/io/Serializable"), (0, u "serialVersionUID"), (0, u "J")] 20

def k11c0 : Code := { maxStack := 1, maxLocals := 1, code := jdk_18_method_1_code, exceptionTable := #[], attributes := #[] }
def k11m0 : Method := { name := "<init>", desc := "()V", sig := { parameters := [], returnType := none }, accessFlags := 1, code := some k11c0 }
/-- java/lang/Number -/
def k11 : Class := { plain "java/lang/Number" (some 0) with
  accessFlags := 1057
  interfaces := #[10]
  cf := some (fileOf pool11 8 #[] #[{ accessFlags := 1, nameIndex := 5, descriptorIndex := 6, attributes := #[] }] 1057 2 #[13] #[{ accessFlags := 26, nameIndex := 15, descriptorIndex := 16, attributes := #[] }])
  fields := #[{ name := "serialVersionUID", type := .long, accessFlags := 26, slot := 0, constantValue := 0 }]
  methods := #[k11m0]
  instanceTypes := #[]
  staticTypes := #[.long]
  resolved := Array.replicate 37 none
  statics := none }

def pool12 : Array CpInfo := pool [(1, .class_ 2), (0, u "java/lang/Comparable"), (0, .class_ 4), (0, u "java/lang/Object")] 7

/-- java/lang/Comparable -/
def k12 : Class := { plain "java/lang/Comparable" (some 0) with
  accessFlags := 1537
  interfaces := #[]
  cf := some (fileOf pool12 1 #[] #[] 1537 3 #[] #[])
  fields := #[]
  methods := #[]
  instanceTypes := #[]
  staticTypes := #[]
  resolved := Array.replicate 12 none
  statics := none }

def pool13 : Array CpInfo := pool [(1, .class_ 2), (0, u "java/lang/constant/Constable"), (0, .class_ 4), (0, u "java/lang/Object")] 6

/-- java/lang/constant/Constable -/
def k13 : Class := { plain "java/lang/constant/Constable" (some 0) with
  accessFlags := 1537
  interfaces := #[]
  cf := some (fileOf pool13 1 #[] #[] 1537 3 #[] #[])
  fields := #[]
  methods := #[]
  instanceTypes := #[]
  staticTypes := #[]
  resolved := Array.replicate 11 none
  statics := none }

def pool14 : Array CpInfo := pool [(1, .class_ 2), (0, u "java/lang/constant/ConstantDesc"), (0, .class_ 4), (0, u "java/lang/Object")] 32

/-- java/lang/constant/ConstantDesc -/
def k14 : Class := { plain "java/lang/constant/ConstantDesc" (some 0) with
  accessFlags := 1537
  interfaces := #[]
  cf := some (fileOf pool14 1 #[] #[] 1537 3 #[] #[])
  fields := #[]
  methods := #[]
  instanceTypes := #[]
  staticTypes := #[]
  resolved := Array.replicate 37 none
  statics := none }

def pool15 : Array CpInfo := pool [(1, .class_ 2), (0, u "java/lang/Integer"), (16, u "digits"), (0, u "[C"), (46, u "<init>"), (17, u "DigitOnes"), (0, u "[B"), (2, u "DigitTens"), (10, .nameAndType 67 101), (0, u "()V"), (85, u "valueOf"), (0, u "(I)Ljava/lang/Integer;"), (0, .class_ 190), (0, u "java/lang/Integer$IntegerCache"), (0, .fieldref 189 192), (0, .nameAndType 193 194), (0, u "high"), (0, u "I"), (0, .fieldref 189 196), (0, .nameAndType 197 198), (0, u "cache"), (0, u "[Ljava/lang/Integer;"), (0, .methodref 1 200), (0, .nameAndType 67 201), (0, u "(I)V"), (0, .methodref 203 100), (0, .class_ 204), (0, u "java/lang/Number"), (0, .fieldref 1 206), (0, .nameAndType 207 194), (0, u "value"), (94, u "TYPE"), (0, u "Ljava/lang/Class;"), (0, .class_ 305), (0, u "java/lang/Comparable"), (0, .class_ 307), (0, u "java/lang/constant/Constable"), (0, .class_ 309), (0, u "java/lang/constant/ConstantDesc"), (0, u "MIN_VALUE"), (1, u "MAX_VALUE"), (3, u "SIZE"), (1, u "BYTES"), (1, u "serialVersionUID"), (0, u "J")] 131

def k15c0 : Code := { maxStack := 3, maxLocals := 1, code := jdk_33_method_22_code, exceptionTable := #[], attributes := #[] }
def k15m0 : Method := { name := "valueOf", desc := "(I)Ljava/lang/Integer;", sig := { parameters := [.int], returnType := some (.object "java/lang/Integer") }, accessFlags := 9, code := some k15c0 }
def k15c1 : Code := { maxStack := 2, maxLocals := 2, code := jdk_33_method_23_code, exceptionTable := #[], attributes := #[] }
def k15m1 : Method := { name := "<init>", desc := "(I)V", sig := { parameters := [.int], returnType := none }, accessFlags := 1, code := some k15c1 }
/-- java/lang/Integer -/
def k15 : Class := { plain "java/lang/Integer" (some 11) with
  accessFlags := 49
  interfaces := #[12, 13, 14]
  cf := some (fileOf pool15 1 #[.nestMembers #[189]] #[{ accessFlags := 9, nameIndex := 187, descriptorIndex := 188, attributes := #[] }, { accessFlags := 1, nameIndex := 67, descriptorIndex := 201, attributes := #[] }] 49 203 #[304, 306, 308] #[{ accessFlags := 25, nameIndex := 310, descriptorIndex := 194, attributes := #[] }, { accessFlags := 25, nameIndex := 312, descriptorIndex := 194, attributes := #[] }, { accessFlags := 25, nameIndex := 302, descriptorIndex := 303, attributes := #[] }, { accessFlags := 24, nameIndex := 19, descriptorIndex := 20, attributes := #[] }, { accessFlags := 24, nameIndex := 89, descriptorIndex := 86, attributes := #[] }, { accessFlags := 24, nameIndex := 85, descriptorIndex := 86, attributes := #[] }, { accessFlags := 18, nameIndex := 207, descriptorIndex := 194, attributes := #[] }, { accessFlags := 25, nameIndex := 316, descriptorIndex := 194, attributes := #[] }, { accessFlags := 25, nameIndex := 318, descriptorIndex := 194, attributes := #[] }, { accessFlags := 26, nameIndex := 320, descriptorIndex := 321, attributes := #[] }])
  fields := #[{ name := "MIN_VALUE", type := .int, accessFlags := 25, slot := 0, constantValue := 0 }, { name := "MAX_VALUE", type := .int, accessFlags := 25, slot := 1, constantValue := 0 }, { name := "TYPE", type := (.object "java/lang/Class"), accessFlags := 25, slot := 2, constantValue := 0 }, { name := "digits", type := (.array .char), accessFlags := 24, slot := 3, constantValue := 0 }, { name := "DigitTens", type := (.array .byte), accessFlags := 24, slot := 4, constantValue := 0 }, { name := "DigitOnes", type := (.array .byte), accessFlags := 24, slot := 5, constantValue := 0 }, { name := "value", type := .int, accessFlags := 18, slot := 0, constantValue := 0 }, { name := "SIZE", type := .int, accessFlags := 25, slot := 6, constantValue := 0 }, { name := "BYTES", type := .int, accessFlags := 25, slot := 7, constantValue := 0 }, { name := "serialVersionUID", type := .long, accessFlags := 26, slot := 8, constantValue := 0 }]
  methods := #[k15m0, k15m1]
  instanceTypes := #[.int]
  staticTypes := #[.int, .int, (.object "java/lang/Class"), (.array .char), (.array .byte), (.array .byte), .int, .int, .long]
  resolved := Array.replicate 453 none
  statics := none }

def pool16 : Array CpInfo := pool [(2, .class_ 4), (1, u "java/lang/Object"), (0, u "<init>"), (0, u "()V"), (0, .class_ 8), (0, u "java/lang/Integer"), (7, .class_ 18), (1, u "java/lang/Integer$IntegerCache"), (0, u "$assertionsDisabled"), (0, u "Z"), (26, u "high"), (0, u "I"), (8, u "archivedCache"), (0, u "[Ljava/lang/Integer;"), (12, u "cache"), (0, u "low")] 27

def k16m0 : Method := { name := "<init>", desc := "()V", sig := { parameters := [], returnType := none }, accessFlags := 2, code := none }
/-- java/lang/Integer$IntegerCache -/
def k16 : Class := { plain "java/lang/Integer$IntegerCache" (some 0) with
  accessFlags := 48
  interfaces := #[]
  cf := some (fileOf pool16 16 #[.nestHost 7] #[{ accessFlags := 2, nameIndex := 5, descriptorIndex := 6, attributes := #[] }] 48 2 #[] #[{ accessFlags := 24, nameIndex := 72, descriptorIndex := 48, attributes := #[] }, { accessFlags := 24, nameIndex := 47, descriptorIndex := 48, attributes := #[] }, { accessFlags := 24, nameIndex := 71, descriptorIndex := 58, attributes := #[] }, { accessFlags := 8, nameIndex := 57, descriptorIndex := 58, attributes := #[] }, { accessFlags := 4120, nameIndex := 19, descriptorIndex := 20, attributes := #[] }])
  fields := #[{ name := "low", type := .int, accessFlags := 24, slot := 0, constantValue := 0 }, { name := "high", type := .int, accessFlags := 24, slot := 1, constantValue := 0 }, { name := "cache", type := (.array (.object "java/lang/Integer")), accessFlags := 24, slot := 2, constantValue := 0 }, { name := "archivedCache", type := (.array (.object "java/lang/Integer")), accessFlags := 8, slot := 3, constantValue := 0 }, { name := "$assertionsDisabled", type := .boolean, accessFlags := 4120, slot := 4, constantValue := 0 }]
  methods := #[k16m0]
  instanceTypes := #[]
  staticTypes := #[.int, .int, (.array (.object "java/lang/Integer")), (.array (.object "java/lang/Integer")), .boolean]
  resolved := Array.replicate 100 none
  statics := some 0 }

def pool17 : Array CpInfo := pool [(2, .class_ 4), (1, u "java/lang/Object"), (0, u "<init>"), (0, u "()V"), (35, .class_ 44), (1, u "java/util/Objects"), (60, .methodref 106 107), (0, .class_ 108), (0, .nameAndType 109 110), (0, u "jdk/internal/util/Preconditions"), (0, u "checkIndex"), (0, u "(IILjava/util/function/BiFunction;)I"), (60, u "(II)I")] 12

def k17m0 : Method := { name := "<init>", desc := "()V", sig := { parameters := [], returnType := none }, accessFlags := 2, code := none }
def k17c1 : Code := { maxStack := 3, maxLocals := 2, code := jdk_31_method_17_code, exceptionTable := #[], attributes := #[] }
def k17m1 : Method := { name := "checkIndex", desc := "(II)I", sig := { parameters := [.int, .int], returnType := some .int }, accessFlags := 9, code := some k17c1 }
/-- java/util/Objects -/
def k17 : Class := { plain "java/util/Objects" (some 0) with
  accessFlags := 49
  interfaces := #[]
  cf := some (fileOf pool17 42 #[] #[{ accessFlags := 2, nameIndex := 5, descriptorIndex := 6, attributes := #[] }, { accessFlags := 9, nameIndex := 109, descriptorIndex := 171, attributes := #[] }] 49 2 #[] #[])
  fields := #[]
  methods := #[k17m0, k17m1]
  instanceTypes := #[]
  staticTypes := #[]
  resolved := Array.replicate 184 none
  statics := none }

def pool18 : Array CpInfo := pool [(2, .class_ 4), (1, u "java/lang/Object"), (0, u "<init>"), (0, u "()V"), (17, .class_ 26), (1, u "jdk/internal/util/Preconditions"), (6, u "checkIndex"), (21, .class_ 56), (0, u "jdk/internal/util/Preconditions$4"), (57, .class_ 115), (0, u "jdk/internal/util/Preconditions$1"), (7, u "SIOOBE_FORMATTER"), (0, u "Ljava/util/function/BiFunction;"), (0, .class_ 126), (0, u "jdk/internal/util/Preconditions$2"), (3, u "AIOOBE_FORMATTER"), (0, .class_ 132), (0, u "jdk/internal/util/Preconditions$3"), (3, u "IOOBE_FORMATTER"), (41, u "(IILjava/util/function/BiFunction;)I")] 15

def k18m0 : Method := { name := "<init>", desc := "()V", sig := { parameters := [], returnType := none }, accessFlags := 1, code := none }
def k18c1 : Code := { maxStack := 3, maxLocals := 3, code := jdk_41_method_11_code, exceptionTable := #[], attributes := #[] }
def k18m1 : Method := { name := "checkIndex", desc := "(IILjava/util/function/BiFunction;)I", sig := { parameters := [.int, .int, (.object "java/util/function/BiFunction")], returnType := some .int }, accessFlags := 9, code := some k18c1 }
/-- jdk/internal/util/Preconditions -/
def k18 : Class := { plain "jdk/internal/util/Preconditions" (some 0) with
  accessFlags := 33
  interfaces := #[]
  cf := some (fileOf pool18 24 #[.nestMembers #[55, 131, 125, 114]] #[{ accessFlags := 1, nameIndex := 5, descriptorIndex := 6, attributes := #[] }, { accessFlags := 9, nameIndex := 33, descriptorIndex := 178, attributes := #[] }] 33 2 #[] #[{ accessFlags := 25, nameIndex := 123, descriptorIndex := 124, attributes := #[] }, { accessFlags := 25, nameIndex := 130, descriptorIndex := 124, attributes := #[] }, { accessFlags := 25, nameIndex := 136, descriptorIndex := 124, attributes := #[] }])
  fields := #[{ name := "SIOOBE_FORMATTER", type := (.object "java/util/function/BiFunction"), accessFlags := 25, slot := 0, constantValue := 0 }, { name := "AIOOBE_FORMATTER", type := (.object "java/util/function/BiFunction"), accessFlags := 25, slot := 1, constantValue := 0 }, { name := "IOOBE_FORMATTER", type := (.object "java/util/function/BiFunction"), accessFlags := 25, slot := 2, constantValue := 0 }]
  methods := #[k18m0, k18m1]
  instanceTypes := #[]
  staticTypes := #[(.object "java/util/function/BiFunction"), (.object "java/util/function/BiFunction"), (.object "java/util/function/BiFunction")]
  resolved := Array.replicate 194 none
  statics := none }

def pool19 : Array CpInfo := pool [(1, .class_ 2), (0, u "java/lang/Math"), (1, .class_ 6), (1, u "java/lang/Object"), (0, u "<init>"), (0, u "()V"), (89, .class_ 100), (1, u "java/lang/Math$RandomNumberGeneratorHolder"), (71, u "negativeZeroFloatBits"), (0, u "J"), (2, u "negativeZeroDoubleBits"), (21, u "max"), (46, u "$assertionsDisabled"), (0, u "Z"), (88, u "(II)I"), (2, u "twoToTheDoubleScaleDown"), (0, u "D"), (4, u "twoToTheDoubleScaleUp"), (9, u "E"), (3, u "PI"), (2, u "TAU"), (2, u "DEGREES_TO_RADIANS"), (0, u "RADIANS_TO_DEGREES")] 94

def k19m0 : Method := { name := "<init>", desc := "()V", sig := { parameters := [], returnType := none }, accessFlags := 2, code := none }
def k19c1 : Code := { maxStack := 2, maxLocals := 2, code := jdk_29_method_65_code, exceptionTable := #[], attributes := #[] }
def k19m1 : Method := { name := "max", desc := "(II)I", sig := { parameters := [.int, .int], returnType := some .int }, accessFlags := 9, code := some k19c1 }
/-- java/lang/Math -/
def k19 : Class := { plain "java/lang/Math" (some 0) with
  accessFlags := 49
  interfaces := #[]
  cf := some (fileOf pool19 1 #[.nestMembers #[98]] #[{ accessFlags := 2, nameIndex := 7, descriptorIndex := 8, attributes := #[] }, { accessFlags := 9, nameIndex := 198, descriptorIndex := 335, attributes := #[] }] 49 4 #[] #[{ accessFlags := 25, nameIndex := 354, descriptorIndex := 339, attributes := #[] }, { accessFlags := 25, nameIndex := 358, descriptorIndex := 339, attributes := #[] }, { accessFlags := 25, nameIndex := 361, descriptorIndex := 339, attributes := #[] }, { accessFlags := 26, nameIndex := 364, descriptorIndex := 339, attributes := #[] }, { accessFlags := 26, nameIndex := 365, descriptorIndex := 339, attributes := #[] }, { accessFlags := 26, nameIndex := 172, descriptorIndex := 173, attributes := #[] }, { accessFlags := 26, nameIndex := 176, descriptorIndex := 173, attributes := #[] }, { accessFlags := 8, nameIndex := 344, descriptorIndex := 339, attributes := #[] }, { accessFlags := 8, nameIndex := 338, descriptorIndex := 339, attributes := #[] }, { accessFlags := 4120, nameIndex := 245, descriptorIndex := 246, attributes := #[] }])
  fields := #[{ name := "E", type := .double, accessFlags := 25, slot := 0, constantValue := 0 }, { name := "PI", type := .double, accessFlags := 25, slot := 1, constantValue := 0 }, { name := "TAU", type := .double, accessFlags := 25, slot := 2, constantValue := 0 }, { name := "DEGREES_TO_RADIANS", type := .double, accessFlags := 26, slot := 3, constantValue := 0 }, { name := "RADIANS_TO_DEGREES", type := .double, accessFlags := 26, slot := 4, constantValue := 0 }, { name := "negativeZeroFloatBits", type := .long, accessFlags := 26, slot := 5, constantValue := 0 }, { name := "negativeZeroDoubleBits", type := .long, accessFlags := 26, slot := 6, constantValue := 0 }, { name := "twoToTheDoubleScaleUp", type := .double, accessFlags := 8, slot := 7, constantValue := 0 }, { name := "twoToTheDoubleScaleDown", type := .double, accessFlags := 8, slot := 8, constantValue := 0 }, { name := "$assertionsDisabled", type := .boolean, accessFlags := 4120, slot := 9, constantValue := 0 }]
  methods := #[k19m0, k19m1]
  instanceTypes := #[]
  staticTypes := #[.double, .double, .double, .double, .double, .long, .long, .double, .double, .boolean]
  resolved := Array.replicate 460 none
  statics := none }

def pool20 : Array CpInfo := pool [(1, u "java/lang/Cloneable"), (0, .class_ 1), (0, u "java/lang/Object"), (0, .class_ 3)] 3

/-- java/lang/Cloneable -/
def k20 : Class := { plain "java/lang/Cloneable" (some 0) with
  accessFlags := 1537
  interfaces := #[]
  cf := some (fileOf pool20 2 #[] #[] 1537 4 #[] #[])
  fields := #[]
  methods := #[]
  instanceTypes := #[]
  staticTypes := #[]
  resolved := Array.replicate 8 none
  statics := none }

/-- the primitive byte -/
def k21 : Class := { plain "byte" none with kind := .primitive 'B', accessFlags := 0x411 }
/-- [B -/
def k22 : Class := { plain "[B" (some 0) with kind := .array 21 .byte, interfaces := #[20, 10], accessFlags := 1041 }

/-- the primitive int -/
def k23 : Class := { plain "int" none with kind := .primitive 'I', accessFlags := 0x411 }
/-- [I -/
def k24 : Class := { plain "[I" (some 0) with kind := .array 23 .int, interfaces := #[20, 10], accessFlags := 1041 }

/-- [Ljava/lang/Integer; -/
def k25 : Class := { plain "[Ljava/lang/Integer;" (some 0) with kind := .array 15 (.object "java/lang/Integer"), interfaces := #[20, 10], accessFlags := 1041 }

/-- [Ljava/lang/Object; -/
def k26 : Class := { plain "[Ljava/lang/Object;" (some 0) with kind := .array 0 (.object "java/lang/Object"), interfaces := #[20, 10], accessFlags := 1041 }

def heap : Heap := #[{ cls := 16, slots := #[.int 0, .int 127, .ref 1, .null, .int 0], vm := .statics 16 },
  { cls := 25, slots := #[.ref 2, .ref 3, .ref 4, .ref 5, .ref 6, .ref 7, .ref 8, .ref 9, .ref 10, .ref 11, .ref 12, .ref 13, .ref 14, .ref 15, .ref 16, .ref 17, .ref 18, .ref 19, .ref 20, .ref 21, .ref 22, .ref 23, .ref 24, .ref 25, .ref 26, .ref 27, .ref 28, .ref 29, .ref 30, .ref 31, .ref 32, .ref 33, .ref 34, .ref 35, .ref 36, .ref 37, .ref 38, .ref 39, .ref 40, .ref 41, .ref 42, .ref 43, .ref 44, .ref 45, .ref 46, .ref 47, .ref 48, .ref 49, .ref 50, .ref 51, .ref 52, .ref 53, .ref 54, .ref 55, .ref 56, .ref 57, .ref 58, .ref 59, .ref 60, .ref 61, .ref 62, .ref 63, .ref 64, .ref 65, .ref 66, .ref 67, .ref 68, .ref 69, .ref 70, .ref 71, .ref 72, .ref 73, .ref 74, .ref 75, .ref 76, .ref 77, .ref 78, .ref 79, .ref 80, .ref 81, .ref 82, .ref 83, .ref 84, .ref 85, .ref 86, .ref 87, .ref 88, .ref 89, .ref 90, .ref 91, .ref 92, .ref 93, .ref 94, .ref 95, .ref 96, .ref 97, .ref 98, .ref 99, .ref 100, .ref 101, .ref 102, .ref 103, .ref 104, .ref 105, .ref 106, .ref 107, .ref 108, .ref 109, .ref 110, .ref 111, .ref 112, .ref 113, .ref 114, .ref 115, .ref 116, .ref 117, .ref 118, .ref 119, .ref 120, .ref 121, .ref 122, .ref 123, .ref 124, .ref 125, .ref 126, .ref 127, .ref 128, .ref 129, .ref 130, .ref 131, .ref 132, .ref 133, .ref 134, .ref 135, .ref 136, .ref 137, .ref 138, .ref 139, .ref 140, .ref 141, .ref 142, .ref 143, .ref 144, .ref 145, .ref 146, .ref 147, .ref 148, .ref 149, .ref 150, .ref 151, .ref 152, .ref 153, .ref 154, .ref 155, .ref 156, .ref 157, .ref 158, .ref 159, .ref 160, .ref 161, .ref 162, .ref 163, .ref 164, .ref 165, .ref 166, .ref 167, .ref 168, .ref 169, .ref 170, .ref 171, .ref 172, .ref 173, .ref 174, .ref 175, .ref 176, .ref 177, .ref 178, .ref 179, .ref 180, .ref 181, .ref 182, .ref 183, .ref 184, .ref 185, .ref 186, .ref 187, .ref 188, .ref 189, .ref 190, .ref 191, .ref 192, .ref 193, .ref 194, .ref 195, .ref 196, .ref 197, .ref 198, .ref 199, .ref 200, .ref 201, .ref 202, .ref 203, .ref 204, .ref 205, .ref 206, .ref 207, .ref 208, .ref 209, .ref 210, .ref 211, .ref 212, .ref 213, .ref 214, .ref 215, .ref 216, .ref 217, .ref 218, .ref 219, .ref 220, .ref 221, .ref 222, .ref 223, .ref 224, .ref 225, .ref 226, .ref 227, .ref 228, .ref 229, .ref 230, .ref 231, .ref 232, .ref 233, .ref 234, .ref 235, .ref 236, .ref 237, .ref 238, .ref 239, .ref 240, .ref 241, .ref 242, .ref 243, .ref 244, .ref 245, .ref 246, .ref 247, .ref 248, .ref 249, .ref 250, .ref 251, .ref 252, .ref 253, .ref 254, .ref 255, .ref 256, .ref 257], vm := .none },
  { cls := 15, slots := #[.int (-128)], vm := .none },
  { cls := 15, slots := #[.int (-127)], vm := .none },
  { cls := 15, slots := #[.int (-126)], vm := .none },
  { cls := 15, slots := #[.int (-125)], vm := .none },
  { cls := 15, slots := #[.int (-124)], vm := .none },
  { cls := 15, slots := #[.int (-123)], vm := .none },
  { cls := 15, slots := #[.int (-122)], vm := .none },
  { cls := 15, slots := #[.int (-121)], vm := .none },
  { cls := 15, slots := #[.int (-120)], vm := .none },
  { cls := 15, slots := #[.int (-119)], vm := .none },
  { cls := 15, slots := #[.int (-118)], vm := .none },
  { cls := 15, slots := #[.int (-117)], vm := .none },
  { cls := 15, slots := #[.int (-116)], vm := .none },
  { cls := 15, slots := #[.int (-115)], vm := .none },
  { cls := 15, slots := #[.int (-114)], vm := .none },
  { cls := 15, slots := #[.int (-113)], vm := .none },
  { cls := 15, slots := #[.int (-112)], vm := .none },
  { cls := 15, slots := #[.int (-111)], vm := .none },
  { cls := 15, slots := #[.int (-110)], vm := .none },
  { cls := 15, slots := #[.int (-109)], vm := .none },
  { cls := 15, slots := #[.int (-108)], vm := .none },
  { cls := 15, slots := #[.int (-107)], vm := .none },
  { cls := 15, slots := #[.int (-106)], vm := .none },
  { cls := 15, slots := #[.int (-105)], vm := .none },
  { cls := 15, slots := #[.int (-104)], vm := .none },
  { cls := 15, slots := #[.int (-103)], vm := .none },
  { cls := 15, slots := #[.int (-102)], vm := .none },
  { cls := 15, slots := #[.int (-101)], vm := .none },
  { cls := 15, slots := #[.int (-100)], vm := .none },
  { cls := 15, slots := #[.int (-99)], vm := .none },
  { cls := 15, slots := #[.int (-98)], vm := .none },
  { cls := 15, slots := #[.int (-97)], vm := .none },
  { cls := 15, slots := #[.int (-96)], vm := .none },
  { cls := 15, slots := #[.int (-95)], vm := .none },
  { cls := 15, slots := #[.int (-94)], vm := .none },
  { cls := 15, slots := #[.int (-93)], vm := .none },
  { cls := 15, slots := #[.int (-92)], vm := .none },
  { cls := 15, slots := #[.int (-91)], vm := .none },
  { cls := 15, slots := #[.int (-90)], vm := .none },
  { cls := 15, slots := #[.int (-89)], vm := .none },
  { cls := 15, slots := #[.int (-88)], vm := .none },
  { cls := 15, slots := #[.int (-87)], vm := .none },
  { cls := 15, slots := #[.int (-86)], vm := .none },
  { cls := 15, slots := #[.int (-85)], vm := .none },
  { cls := 15, slots := #[.int (-84)], vm := .none },
  { cls := 15, slots := #[.int (-83)], vm := .none },
  { cls := 15, slots := #[.int (-82)], vm := .none },
  { cls := 15, slots := #[.int (-81)], vm := .none },
  { cls := 15, slots := #[.int (-80)], vm := .none },
  { cls := 15, slots := #[.int (-79)], vm := .none },
  { cls := 15, slots := #[.int (-78)], vm := .none },
  { cls := 15, slots := #[.int (-77)], vm := .none },
  { cls := 15, slots := #[.int (-76)], vm := .none },
  { cls := 15, slots := #[.int (-75)], vm := .none },
  { cls := 15, slots := #[.int (-74)], vm := .none },
  { cls := 15, slots := #[.int (-73)], vm := .none },
  { cls := 15, slots := #[.int (-72)], vm := .none },
  { cls := 15, slots := #[.int (-71)], vm := .none },
  { cls := 15, slots := #[.int (-70)], vm := .none },
  { cls := 15, slots := #[.int (-69)], vm := .none },
  { cls := 15, slots := #[.int (-68)], vm := .none },
  { cls := 15, slots := #[.int (-67)], vm := .none },
  { cls := 15, slots := #[.int (-66)], vm := .none },
  { cls := 15, slots := #[.int (-65)], vm := .none },
  { cls := 15, slots := #[.int (-64)], vm := .none },
  { cls := 15, slots := #[.int (-63)], vm := .none },
  { cls := 15, slots := #[.int (-62)], vm := .none },
  { cls := 15, slots := #[.int (-61)], vm := .none },
  { cls := 15, slots := #[.int (-60)], vm := .none },
  { cls := 15, slots := #[.int (-59)], vm := .none },
  { cls := 15, slots := #[.int (-58)], vm := .none },
  { cls := 15, slots := #[.int (-57)], vm := .none },
  { cls := 15, slots := #[.int (-56)], vm := .none },
  { cls := 15, slots := #[.int (-55)], vm := .none },
  { cls := 15, slots := #[.int (-54)], vm := .none },
  { cls := 15, slots := #[.int (-53)], vm := .none },
  { cls := 15, slots := #[.int (-52)], vm := .none },
  { cls := 15, slots := #[.int (-51)], vm := .none },
  { cls := 15, slots := #[.int (-50)], vm := .none },
  { cls := 15, slots := #[.int (-49)], vm := .none },
  { cls := 15, slots := #[.int (-48)], vm := .none },
  { cls := 15, slots := #[.int (-47)], vm := .none },
  { cls := 15, slots := #[.int (-46)], vm := .none },
  { cls := 15, slots := #[.int (-45)], vm := .none },
  { cls := 15, slots := #[.int (-44)], vm := .none },
  { cls := 15, slots := #[.int (-43)], vm := .none },
  { cls := 15, slots := #[.int (-42)], vm := .none },
  { cls := 15, slots := #[.int (-41)], vm := .none },
  { cls := 15, slots := #[.int (-40)], vm := .none },
  { cls := 15, slots := #[.int (-39)], vm := .none },
  { cls := 15, slots := #[.int (-38)], vm := .none },
  { cls := 15, slots := #[.int (-37)], vm := .none },
  { cls := 15, slots := #[.int (-36)], vm := .none },
  { cls := 15, slots := #[.int (-35)], vm := .none },
  { cls := 15, slots := #[.int (-34)], vm := .none },
  { cls := 15, slots := #[.int (-33)], vm := .none },
  { cls := 15, slots := #[.int (-32)], vm := .none },
  { cls := 15, slots := #[.int (-31)], vm := .none },
  { cls := 15, slots := #[.int (-30)], vm := .none },
  { cls := 15, slots := #[.int (-29)], vm := .none },
  { cls := 15, slots := #[.int (-28)], vm := .none },
  { cls := 15, slots := #[.int (-27)], vm := .none },
  { cls := 15, slots := #[.int (-26)], vm := .none },
  { cls := 15, slots := #[.int (-25)], vm := .none },
  { cls := 15, slots := #[.int (-24)], vm := .none },
  { cls := 15, slots := #[.int (-23)], vm := .none },
  { cls := 15, slots := #[.int (-22)], vm := .none },
  { cls := 15, slots := #[.int (-21)], vm := .none },
  { cls := 15, slots := #[.int (-20)], vm := .none },
  { cls := 15, slots := #[.int (-19)], vm := .none },
  { cls := 15, slots := #[.int (-18)], vm := .none },
  { cls := 15, slots := #[.int (-17)], vm := .none },
  { cls := 15, slots := #[.int (-16)], vm := .none },
  { cls := 15, slots := #[.int (-15)], vm := .none },
  { cls := 15, slots := #[.int (-14)], vm := .none },
  { cls := 15, slots := #[.int (-13)], vm := .none },
  { cls := 15, slots := #[.int (-12)], vm := .none },
  { cls := 15, slots := #[.int (-11)], vm := .none },
  { cls := 15, slots := #[.int (-10)], vm := .none },
  { cls := 15, slots := #[.int (-9)], vm := .none },
  { cls := 15, slots := #[.int (-8)], vm := .none },
  { cls := 15, slots := #[.int (-7)], vm := .none },
  { cls := 15, slots := #[.int (-6)], vm := .none },
  { cls := 15, slots := #[.int (-5)], vm := .none },
  { cls := 15, slots := #[.int (-4)], vm := .none },
  { cls := 15, slots := #[.int (-3)], vm := .none },
  { cls := 15, slots := #[.int (-2)], vm := .none },
  { cls := 15, slots := #[.int (-1)], vm := .none },
  { cls := 15, slots := #[.int 0], vm := .none },
  { cls := 15, slots := #[.int 1], vm := .none },
  { cls := 15, slots := #[.int 2], vm := .none },
  { cls := 15, slots := #[.int 3], vm := .none },
  { cls := 15, slots := #[.int 4], vm := .none },
  { cls := 15, slots := #[.int 5], vm := .none },
  { cls := 15, slots := #[.int 6], vm := .none },
  { cls := 15, slots := #[.int 7], vm := .none },
  { cls := 15, slots := #[.int 8], vm := .none },
  { cls := 15, slots := #[.int 9], vm := .none },
  { cls := 15, slots := #[.int 10], vm := .none },
  { cls := 15, slots := #[.int 11], vm := .none },
  { cls := 15, slots := #[.int 12], vm := .none },
  { cls := 15, slots := #[.int 13], vm := .none },
  { cls := 15, slots := #[.int 14], vm := .none },
  { cls := 15, slots := #[.int 15], vm := .none },
  { cls := 15, slots := #[.int 16], vm := .none },
  { cls := 15, slots := #[.int 17], vm := .none },
  { cls := 15, slots := #[.int 18], vm := .none },
  { cls := 15, slots := #[.int 19], vm := .none },
  { cls := 15, slots := #[.int 20], vm := .none },
  { cls := 15, slots := #[.int 21], vm := .none },
  { cls := 15, slots := #[.int 22], vm := .none },
  { cls := 15, slots := #[.int 23], vm := .none },
  { cls := 15, slots := #[.int 24], vm := .none },
  { cls := 15, slots := #[.int 25], vm := .none },
  { cls := 15, slots := #[.int 26], vm := .none },
  { cls := 15, slots := #[.int 27], vm := .none },
  { cls := 15, slots := #[.int 28], vm := .none },
  { cls := 15, slots := #[.int 29], vm := .none },
  { cls := 15, slots := #[.int 30], vm := .none },
  { cls := 15, slots := #[.int 31], vm := .none },
  { cls := 15, slots := #[.int 32], vm := .none },
  { cls := 15, slots := #[.int 33], vm := .none },
  { cls := 15, slots := #[.int 34], vm := .none },
  { cls := 15, slots := #[.int 35], vm := .none },
  { cls := 15, slots := #[.int 36], vm := .none },
  { cls := 15, slots := #[.int 37], vm := .none },
  { cls := 15, slots := #[.int 38], vm := .none },
  { cls := 15, slots := #[.int 39], vm := .none },
  { cls := 15, slots := #[.int 40], vm := .none },
  { cls := 15, slots := #[.int 41], vm := .none },
  { cls := 15, slots := #[.int 42], vm := .none },
  { cls := 15, slots := #[.int 43], vm := .none },
  { cls := 15, slots := #[.int 44], vm := .none },
  { cls := 15, slots := #[.int 45], vm := .none },
  { cls := 15, slots := #[.int 46], vm := .none },
  { cls := 15, slots := #[.int 47], vm := .none },
  { cls := 15, slots := #[.int 48], vm := .none },
  { cls := 15, slots := #[.int 49], vm := .none },
  { cls := 15, slots := #[.int 50], vm := .none },
  { cls := 15, slots := #[.int 51], vm := .none },
  { cls := 15, slots := #[.int 52], vm := .none },
  { cls := 15, slots := #[.int 53], vm := .none },
  { cls := 15, slots := #[.int 54], vm := .none },
  { cls := 15, slots := #[.int 55], vm := .none },
  { cls := 15, slots := #[.int 56], vm := .none },
  { cls := 15, slots := #[.int 57], vm := .none },
  { cls := 15, slots := #[.int 58], vm := .none },
  { cls := 15, slots := #[.int 59], vm := .none },
  { cls := 15, slots := #[.int 60], vm := .none },
  { cls := 15, slots := #[.int 61], vm := .none },
  { cls := 15, slots := #[.int 62], vm := .none },
  { cls := 15, slots := #[.int 63], vm := .none },
  { cls := 15, slots := #[.int 64], vm := .none },
  { cls := 15, slots := #[.int 65], vm := .none },
  { cls := 15, slots := #[.int 66], vm := .none },
  { cls := 15, slots := #[.int 67], vm := .none },
  { cls := 15, slots := #[.int 68], vm := .none },
  { cls := 15, slots := #[.int 69], vm := .none },
  { cls := 15, slots := #[.int 70], vm := .none },
  { cls := 15, slots := #[.int 71], vm := .none },
  { cls := 15, slots := #[.int 72], vm := .none },
  { cls := 15, slots := #[.int 73], vm := .none },
  { cls := 15, slots := #[.int 74], vm := .none },
  { cls := 15, slots := #[.int 75], vm := .none },
  { cls := 15, slots := #[.int 76], vm := .none },
  { cls := 15, slots := #[.int 77], vm := .none },
  { cls := 15, slots := #[.int 78], vm := .none },
  { cls := 15, slots := #[.int 79], vm := .none },
  { cls := 15, slots := #[.int 80], vm := .none },
  { cls := 15, slots := #[.int 81], vm := .none },
  { cls := 15, slots := #[.int 82], vm := .none },
  { cls := 15, slots := #[.int 83], vm := .none },
  { cls := 15, slots := #[.int 84], vm := .none },
  { cls := 15, slots := #[.int 85], vm := .none },
  { cls := 15, slots := #[.int 86], vm := .none },
  { cls := 15, slots := #[.int 87], vm := .none },
  { cls := 15, slots := #[.int 88], vm := .none },
  { cls := 15, slots := #[.int 89], vm := .none },
  { cls := 15, slots := #[.int 90], vm := .none },
  { cls := 15, slots := #[.int 91], vm := .none },
  { cls := 15, slots := #[.int 92], vm := .none },
  { cls := 15, slots := #[.int 93], vm := .none },
  { cls := 15, slots := #[.int 94], vm := .none },
  { cls := 15, slots := #[.int 95], vm := .none },
  { cls := 15, slots := #[.int 96], vm := .none },
  { cls := 15, slots := #[.int 97], vm := .none },
  { cls := 15, slots := #[.int 98], vm := .none },
  { cls := 15, slots := #[.int 99], vm := .none },
  { cls := 15, slots := #[.int 100], vm := .none },
  { cls := 15, slots := #[.int 101], vm := .none },
  { cls := 15, slots := #[.int 102], vm := .none },
  { cls := 15, slots := #[.int 103], vm := .none },
  { cls := 15, slots := #[.int 104], vm := .none },
  { cls := 15, slots := #[.int 105], vm := .none },
  { cls := 15, slots := #[.int 106], vm := .none },
  { cls := 15, slots := #[.int 107], vm := .none },
  { cls := 15, slots := #[.int 108], vm := .none },
  { cls := 15, slots := #[.int 109], vm := .none },
  { cls := 15, slots := #[.int 110], vm := .none },
  { cls := 15, slots := #[.int 111], vm := .none },
  { cls := 15, slots := #[.int 112], vm := .none },
  { cls := 15, slots := #[.int 113], vm := .none },
  { cls := 15, slots := #[.int 114], vm := .none },
  { cls := 15, slots := #[.int 115], vm := .none },
  { cls := 15, slots := #[.int 116], vm := .none },
  { cls := 15, slots := #[.int 117], vm := .none },
  { cls := 15, slots := #[.int 118], vm := .none },
  { cls := 15, slots := #[.int 119], vm := .none },
  { cls := 15, slots := #[.int 120], vm := .none },
  { cls := 15, slots := #[.int 121], vm := .none },
  { cls := 15, slots := #[.int 122], vm := .none },
  { cls := 15, slots := #[.int 123], vm := .none },
  { cls := 15, slots := #[.int 124], vm := .none },
  { cls := 15, slots := #[.int 125], vm := .none },
  { cls := 15, slots := #[.int 126], vm := .none },
  { cls := 15, slots := #[.int 127], vm := .none }]
def classes : Array Class := #[k0, k1, k2, k3, k4, k5, k6, k7, k8, k9, k10, k11, k12, k13, k14, k15, k16, k17, k18, k19, k20, k21, k22, k23, k24, k25, k26]
def interned : List (Array UInt16 × Addr) := []
def slotsUsed : Nat := 517
def theMethod : MethodId := ⟨1, 1⟩
def args0 : Array Value := #[.int 5, .int 1, .int 3, .int 7, .int 2]
def aboutOver (below : List Frame) : State where
  vm := { classes := classes, interned := interned.toArray }
  heap := heap
  slotsUsed := slotsUsed
  threads := #[{ frames := .invoking theMethod args0 :: below }]
def below0 : List Frame := [.native { method := ⟨0, 0⟩, args := #[] }]
def about1 : State := aboutOver below0
def p0 : Program := .bare "" "" ""
def e0 : Env := launch0.env 0 0 0
theorem w_frames : about1.frames = Frame.invoking theMethod args0 :: below0 := rfl
set_option maxRecDepth 65536 in
theorem w_args : argsFit about1.vm theMethod args0 = true := by decide +kernel
set_option maxRecDepth 65536 in
theorem w_heap : heapFits about1 = true := by decide +kernel
set_option maxRecDepth 65536 in
theorem w_runnable : about1.curStatus? = some .runnable := by decide +kernel
set_option maxRecDepth 65536 in
theorem w_alone : about1.alone = true := by decide +kernel
set_option maxRecDepth 65536 in
theorem w_named : about1.methodNamed? x = some theMethod := by decide +kernel
set_option maxRecDepth 65536 in
theorem w_hears : about1.hears theMethod below0 = true := by decide +kernel
set_option maxRecDepth 65536 in
theorem w_ripe : about1.ripe theMethod args0 below0 = true := by decide +kernel
theorem w_running : about1.status = .running := rfl
set_option maxRecDepth 65536 in
theorem w_room : about1.hasRoom e0.platform room_1 = true :=
  launch0.hasRoom_least _ room_1 (by decide +kernel) (by decide +kernel) (by decide +kernel) (by decide +kernel) (by decide +kernel) (by decide +kernel)
theorem allAtoms_all (ts : List Jvm.Cond) (a : Array Jvm.Value) (st : Jvm.State) : (allAtoms ts).before a st = ts.all (fun c => c.before a st) := by
  induction ts with
  | nil => rfl
  | cons c t ih =>
    show (Jvm.Cond.and c (allAtoms t)).before a st = _
    rw [Jvm.Cond.before_and, ih, List.all_cons]
def words1 : List Jvm.Cond := Jvm.Cond.code x code maxLocals ret :: tables_1
/-- a 'code' word, met by the world's own term for the bytes: nothing is compared byte by byte -/
theorem code_word {y : MethodName} {bytes : ByteArray} {mx : Nat} {rt : Option FieldType} {a : Array Value} {s : State} {m : MethodId} {meth : Method} {c : Code} (h1 : s.methodNamed? y = some m) (h2 : s.vm.method? m = some meth) (h3 : meth.code = some c) (h4 : c.code = bytes)
    (h5 : (c.maxLocals == mx && c.exceptionTable.isEmpty && decide (c.maxStack ≤ mostOperands) && decide (meth.sig.returnType = rt) && !meth.locks && decide (parseMethodDescriptor y.desc = some meth.sig)) = true) : (Jvm.Cond.code y bytes mx rt).before a s = true := by
  simp only [Bool.and_eq_true, beq_iff_eq, Bool.not_eq_true', decide_eq_true_eq] at h5
  obtain ⟨⟨⟨⟨⟨g1, g2⟩, g3⟩, g4⟩, g5⟩, g6⟩ := h5
  simp [Cond.before, Cond.holds, Cond.value, h1, h2, h3, h4, g1, g2, g3, g4, g5, g6]
def isCode : Jvm.Cond → Bool
  | .code _ _ _ _ => true
  | _ => false
theorem all_split {L : List Jvm.Cond} {P : Jvm.Cond → Bool} (h1 : L.all (fun c => isCode c || P c) = true) (h2 : ∀ c ∈ L.filter isCode, P c = true) : L.all P = true := by
  refine List.all_eq_true.mpr fun c hc => ?_
  have h := List.all_eq_true.mp h1 c hc
  rcases Bool.eq_false_or_eq_true (isCode c) with hi | hi
  · exact h2 c (List.mem_filter.mpr ⟨hc, hi⟩)
  · simpa [hi] using h
set_option maxRecDepth 65536 in
theorem w_c0 : (Jvm.Cond.code x code maxLocals ret).before args0 about1 = true := code_word (m := ⟨1, 1⟩) (meth := k1m1) (c := k1c1) (by decide +kernel) rfl rfl rfl (by decide +kernel)
set_option maxRecDepth 65536 in
theorem w_c1 : (Jvm.Cond.code ({ cls := "com/example/wiretagg/wiretagg/CompactList", name := "<init>", desc := "(I)V" } : Jvm.MethodName) prog_4_method_1_code (2 : Nat) (Option.none : Option Jvm.ClassFile.FieldType)).before args0 about1 = true := code_word (m := ⟨9, 0⟩) (meth := k9m0) (c := k9c0) (by decide +kernel) rfl rfl rfl (by decide +kernel)
set_option maxRecDepth 65536 in
theorem w_c2 : (Jvm.Cond.code ({ cls := "java/util/AbstractList", name := "<init>", desc := "()V" } : Jvm.MethodName) jdk_39_method_1_code (1 : Nat) (Option.none : Option Jvm.ClassFile.FieldType)).before args0 about1 = true := code_word (m := ⟨7, 0⟩) (meth := k7m0) (c := k7c0) (by decide +kernel) rfl rfl rfl (by decide +kernel)
set_option maxRecDepth 65536 in
theorem w_c3 : (Jvm.Cond.code ({ cls := "java/util/AbstractCollection", name := "<init>", desc := "()V" } : Jvm.MethodName) jdk_22_method_1_code (1 : Nat) (Option.none : Option Jvm.ClassFile.FieldType)).before args0 about1 = true := code_word (m := ⟨4, 0⟩) (meth := k4m0) (c := k4c0) (by decide +kernel) rfl rfl rfl (by decide +kernel)
set_option maxRecDepth 65536 in
theorem w_c4 : (Jvm.Cond.code ({ cls := "java/lang/Object", name := "<init>", desc := "()V" } : Jvm.MethodName) object_method_1_code (1 : Nat) (Option.none : Option Jvm.ClassFile.FieldType)).before args0 about1 = true := code_word (m := ⟨0, 0⟩) (meth := k0m0) (c := k0c0) (by decide +kernel) rfl rfl rfl (by decide +kernel)
set_option maxRecDepth 65536 in
theorem w_c5 : (Jvm.Cond.code ({ cls := "java/lang/Integer", name := "valueOf", desc := "(I)Ljava/lang/Integer;" } : Jvm.MethodName) jdk_33_method_22_code (1 : Nat) (Option.some (Jvm.ClassFile.FieldType.object "java/lang/Integer"))).before args0 about1 = true := code_word (m := ⟨15, 0⟩) (meth := k15m0) (c := k15c0) (by decide +kernel) rfl rfl rfl (by decide +kernel)
set_option maxRecDepth 65536 in
theorem w_c6 : (Jvm.Cond.code ({ cls := "com/example/wiretagg/wiretagg/CompactList", name := "add", desc := "(Ljava/lang/Object;)Z" } : Jvm.MethodName) prog_4_method_6_code (2 : Nat) (Option.some Jvm.ClassFile.FieldType.boolean)).before args0 about1 = true := code_word (m := ⟨9, 3⟩) (meth := k9m3) (c := k9c3) (by decide +kernel) rfl rfl rfl (by decide +kernel)
set_option maxRecDepth 65536 in
theorem w_c7 : (Jvm.Cond.code ({ cls := "com/example/wiretagg/wiretagg/CompactList", name := "place", desc := "(ILjava/lang/Object;)V" } : Jvm.MethodName) prog_4_method_11_code (3 : Nat) (Option.none : Option Jvm.ClassFile.FieldType)).before args0 about1 = true := code_word (m := ⟨9, 6⟩) (meth := k9m6) (c := k9c6) (by decide +kernel) rfl rfl rfl (by decide +kernel)
set_option maxRecDepth 65536 in
theorem w_c8 : (Jvm.Cond.code ({ cls := "com/example/wiretagg/wiretagg/CompactList", name := "clear", desc := "()V" } : Jvm.MethodName) prog_4_method_9_code (1 : Nat) (Option.none : Option Jvm.ClassFile.FieldType)).before args0 about1 = true := code_word (m := ⟨9, 4⟩) (meth := k9m4) (c := k9c4) (by decide +kernel) rfl rfl rfl (by decide +kernel)
set_option maxRecDepth 65536 in
theorem w_c9 : (Jvm.Cond.code ({ cls := "com/example/wiretagg/wiretagg/CompactList", name := "size", desc := "()I" } : Jvm.MethodName) prog_4_method_3_code (1 : Nat) (Option.some Jvm.ClassFile.FieldType.int)).before args0 about1 = true := code_word (m := ⟨9, 1⟩) (meth := k9m1) (c := k9c1) (by decide +kernel) rfl rfl rfl (by decide +kernel)
set_option maxRecDepth 65536 in
theorem w_c10 : (Jvm.Cond.code ({ cls := "com/example/wiretagg/wiretagg/CompactList", name := "get", desc := "(I)Ljava/lang/Object;" } : Jvm.MethodName) prog_4_method_4_code (2 : Nat) (Option.some (Jvm.ClassFile.FieldType.object "java/lang/Object"))).before args0 about1 = true := code_word (m := ⟨9, 2⟩) (meth := k9m2) (c := k9c2) (by decide +kernel) rfl rfl rfl (by decide +kernel)
set_option maxRecDepth 65536 in
theorem w_c11 : (Jvm.Cond.code ({ cls := "java/util/Objects", name := "checkIndex", desc := "(II)I" } : Jvm.MethodName) jdk_31_method_17_code (2 : Nat) (Option.some Jvm.ClassFile.FieldType.int)).before args0 about1 = true := code_word (m := ⟨17, 1⟩) (meth := k17m1) (c := k17c1) (by decide +kernel) rfl rfl rfl (by decide +kernel)
set_option maxRecDepth 65536 in
theorem w_c12 : (Jvm.Cond.code ({ cls := "jdk/internal/util/Preconditions", name := "checkIndex", desc := "(IILjava/util/function/BiFunction;)I" } : Jvm.MethodName) jdk_41_method_11_code (3 : Nat) (Option.some Jvm.ClassFile.FieldType.int)).before args0 about1 = true := code_word (m := ⟨18, 1⟩) (meth := k18m1) (c := k18c1) (by decide +kernel) rfl rfl rfl (by decide +kernel)
set_option maxRecDepth 65536 in
theorem w_c13 : (Jvm.Cond.code ({ cls := "com/example/wiretagg/wiretagg/CompactList", name := "inline", desc := "(I)Ljava/lang/Object;" } : Jvm.MethodName) prog_4_method_10_code (3 : Nat) (Option.some (Jvm.ClassFile.FieldType.object "java/lang/Object"))).before args0 about1 = true := code_word (m := ⟨9, 5⟩) (meth := k9m5) (c := k9c5) (by decide +kernel) rfl rfl rfl (by decide +kernel)
set_option maxRecDepth 65536 in
theorem w_c14 : (Jvm.Cond.code ({ cls := "com/example/wiretagg/wiretagg/CompactList", name := "room", desc := "(I)V" } : Jvm.MethodName) prog_4_method_12_code (2 : Nat) (Option.none : Option Jvm.ClassFile.FieldType)).before args0 about1 = true := code_word (m := ⟨9, 7⟩) (meth := k9m7) (c := k9c7) (by decide +kernel) rfl rfl rfl (by decide +kernel)
set_option maxRecDepth 65536 in
theorem w_c15 : (Jvm.Cond.code ({ cls := "java/lang/Math", name := "max", desc := "(II)I" } : Jvm.MethodName) jdk_29_method_65_code (2 : Nat) (Option.some Jvm.ClassFile.FieldType.int)).before args0 about1 = true := code_word (m := ⟨19, 1⟩) (meth := k19m1) (c := k19c1) (by decide +kernel) rfl rfl rfl (by decide +kernel)
set_option maxRecDepth 65536 in
theorem w_c16 : (Jvm.Cond.code ({ cls := "java/lang/Integer", name := "<init>", desc := "(I)V" } : Jvm.MethodName) jdk_33_method_23_code (2 : Nat) (Option.none : Option Jvm.ClassFile.FieldType)).before args0 about1 = true := code_word (m := ⟨15, 1⟩) (meth := k15m1) (c := k15c1) (by decide +kernel) rfl rfl rfl (by decide +kernel)
set_option maxRecDepth 65536 in
theorem w_c17 : (Jvm.Cond.code ({ cls := "java/lang/Number", name := "<init>", desc := "()V" } : Jvm.MethodName) jdk_18_method_1_code (1 : Nat) (Option.none : Option Jvm.ClassFile.FieldType)).before args0 about1 = true := code_word (m := ⟨11, 0⟩) (meth := k11m0) (c := k11c0) (by decide +kernel) rfl rfl rfl (by decide +kernel)
def codes1 : List Jvm.Cond := [Jvm.Cond.code x code maxLocals ret, Jvm.Cond.code ({ cls := "com/example/wiretagg/wiretagg/CompactList", name := "<init>", desc := "(I)V" } : Jvm.MethodName) prog_4_method_1_code (2 : Nat) (Option.none : Option Jvm.ClassFile.FieldType), Jvm.Cond.code ({ cls := "java/util/AbstractList", name := "<init>", desc := "()V" } : Jvm.MethodName) jdk_39_method_1_code (1 : Nat) (Option.none : Option Jvm.ClassFile.FieldType), Jvm.Cond.code ({ cls := "java/util/AbstractCollection", name := "<init>", desc := "()V" } : Jvm.MethodName) jdk_22_method_1_code (1 : Nat) (Option.none : Option Jvm.ClassFile.FieldType), Jvm.Cond.code ({ cls := "java/lang/Object", name := "<init>", desc := "()V" } : Jvm.MethodName) object_method_1_code (1 : Nat) (Option.none : Option Jvm.ClassFile.FieldType), Jvm.Cond.code ({ cls := "java/lang/Integer", name := "valueOf", desc := "(I)Ljava/lang/Integer;" } : Jvm.MethodName) jdk_33_method_22_code (1 : Nat) (Option.some (Jvm.ClassFile.FieldType.object "java/lang/Integer")), Jvm.Cond.code ({ cls := "com/example/wiretagg/wiretagg/CompactList", name := "add", desc := "(Ljava/lang/Object;)Z" } : Jvm.MethodName) prog_4_method_6_code (2 : Nat) (Option.some Jvm.ClassFile.FieldType.boolean), Jvm.Cond.code ({ cls := "com/example/wiretagg/wiretagg/CompactList", name := "place", desc := "(ILjava/lang/Object;)V" } : Jvm.MethodName) prog_4_method_11_code (3 : Nat) (Option.none : Option Jvm.ClassFile.FieldType), Jvm.Cond.code ({ cls := "com/example/wiretagg/wiretagg/CompactList", name := "clear", desc := "()V" } : Jvm.MethodName) prog_4_method_9_code (1 : Nat) (Option.none : Option Jvm.ClassFile.FieldType), Jvm.Cond.code ({ cls := "com/example/wiretagg/wiretagg/CompactList", name := "size", desc := "()I" } : Jvm.MethodName) prog_4_method_3_code (1 : Nat) (Option.some Jvm.ClassFile.FieldType.int), Jvm.Cond.code ({ cls := "com/example/wiretagg/wiretagg/CompactList", name := "get", desc := "(I)Ljava/lang/Object;" } : Jvm.MethodName) prog_4_method_4_code (2 : Nat) (Option.some (Jvm.ClassFile.FieldType.object "java/lang/Object")), Jvm.Cond.code ({ cls := "java/util/Objects", name := "checkIndex", desc := "(II)I" } : Jvm.MethodName) jdk_31_method_17_code (2 : Nat) (Option.some Jvm.ClassFile.FieldType.int), Jvm.Cond.code ({ cls := "jdk/internal/util/Preconditions", name := "checkIndex", desc := "(IILjava/util/function/BiFunction;)I" } : Jvm.MethodName) jdk_41_method_11_code (3 : Nat) (Option.some Jvm.ClassFile.FieldType.int), Jvm.Cond.code ({ cls := "com/example/wiretagg/wiretagg/CompactList", name := "inline", desc := "(I)Ljava/lang/Object;" } : Jvm.MethodName) prog_4_method_10_code (3 : Nat) (Option.some (Jvm.ClassFile.FieldType.object "java/lang/Object")), Jvm.Cond.code ({ cls := "com/example/wiretagg/wiretagg/CompactList", name := "room", desc := "(I)V" } : Jvm.MethodName) prog_4_method_12_code (2 : Nat) (Option.none : Option Jvm.ClassFile.FieldType), Jvm.Cond.code ({ cls := "java/lang/Math", name := "max", desc := "(II)I" } : Jvm.MethodName) jdk_29_method_65_code (2 : Nat) (Option.some Jvm.ClassFile.FieldType.int), Jvm.Cond.code ({ cls := "java/lang/Integer", name := "<init>", desc := "(I)V" } : Jvm.MethodName) jdk_33_method_23_code (2 : Nat) (Option.none : Option Jvm.ClassFile.FieldType), Jvm.Cond.code ({ cls := "java/lang/Number", name := "<init>", desc := "()V" } : Jvm.MethodName) jdk_18_method_1_code (1 : Nat) (Option.none : Option Jvm.ClassFile.FieldType)]
set_option maxRecDepth 65536 in
theorem codes_eq : words1.filter isCode = codes1 := rfl
theorem w_codes : ∀ c ∈ words1.filter isCode, c.before args0 about1 = true := by
  rw [codes_eq]
  intro c hc
  simp only [codes1, List.mem_cons, List.not_mem_nil, or_false] at hc
  rcases hc with rfl | rfl | rfl | rfl | rfl | rfl | rfl | rfl | rfl | rfl | rfl | rfl | rfl | rfl | rfl | rfl | rfl | rfl
  · exact w_c0
  · exact w_c1
  · exact w_c2
  · exact w_c3
  · exact w_c4
  · exact w_c5
  · exact w_c6
  · exact w_c7
  · exact w_c8
  · exact w_c9
  · exact w_c10
  · exact w_c11
  · exact w_c12
  · exact w_c13
  · exact w_c14
  · exact w_c15
  · exact w_c16
  · exact w_c17
set_option maxRecDepth 65536 in
theorem w_t1 : (words1.take 24).all (fun c => isCode c || c.before args0 about1) = true := by decide +kernel
set_option maxRecDepth 65536 in
theorem w_t2 : ((words1.drop 24).take 24).all (fun c => isCode c || c.before args0 about1) = true := by decide +kernel
set_option maxRecDepth 65536 in
theorem w_t3 : (((words1.drop 24).drop 24).take 24).all (fun c => isCode c || c.before args0 about1) = true := by decide +kernel
set_option maxRecDepth 65536 in
theorem w_t4 : ((((words1.drop 24).drop 24).drop 24).take 24).all (fun c => isCode c || c.before args0 about1) = true := by decide +kernel
set_option maxRecDepth 65536 in
theorem w_t5 : ((((words1.drop 24).drop 24).drop 24).drop 24).all (fun c => isCode c || c.before args0 about1) = true := by decide +kernel
theorem w_tables : (allAtoms (Jvm.Cond.code x code maxLocals ret :: tables_1)).before args0 about1 = true := by
  rw [allAtoms_all]
  show words1.all (fun c => c.before args0 about1) = true
  refine all_split ?_ w_codes
  rw [← List.take_append_drop 24 words1, List.all_append, w_t1, ← List.take_append_drop 24 (words1.drop 24), List.all_append, w_t2, ← List.take_append_drop 24 ((words1.drop 24).drop 24), List.all_append, w_t3, ← List.take_append_drop 24 (((words1.drop 24).drop 24).drop 24), List.all_append, w_t4, w_t5]
  rfl
set_option maxRecDepth 65536 in
theorem w_rest : rest_1_c.before args0 about1 = true := by decide +kernel
set_option maxRecDepth 65536 in
theorem w_case : (Jvm.Cond.and given_1 narrow_1).before args0 about1 = true := by decide +kernel
theorem w_applies : (headSpec (Jvm.Cond.code x code maxLocals ret :: tables_1) room_1).applies x e0.platform about1 = true :=
  (Spec.applies_iff w_frames).mpr ⟨w_running, w_runnable, w_alone, w_named, w_hears, w_ripe, w_room, w_tables⟩
theorem atStart : AtStart classFile x code maxLocals ret World_1 tables_1 room_1 Calls_1 rest_1 Pre_1 launch0 p0 e0 about1 theMethod args0 below0 :=
  ⟨lists_1, trivial, launch0.admits_env _ _ _, launch0.least_env, fairChoices_fair.cas, fairChoices_fair.clock, w_frames, w_args, w_heap, w_applies, trivial, w_rest, w_case⟩
end start1
theorem witness_1 : WitnessClaimed_1 := ⟨start1.p0, start1.e0, start1.about1, start1.theMethod, start1.args0, start1.below0, start1.atStart⟩
end Jvm.Pilot.@@N@@
