import JvmDerived
import JvmDerived.Pilot.@@N@@Statement
import JvmDerived.Pilot.@@N@@Code
set_option linter.unusedVariables false
set_option linter.unusedSimpArgs false
@@BLOCK:NumsL.lean.txt@@
namespace Jvm.Pilot.@@N@@
open Jvm Jvm.ClassFile Sem Op Lib Jvm.Free Jvm.Stand Jvm.LawKit Jvm.RoadKit Bundle Jvm.Pilot.@@N@@.Jvm.D
/-! OWN LAYER (one text for all claims of this seat): a walk's goal with its state hidden ('Go'), one rule an instruction. -/
/-- all that a walk through one body holds fixed -/
abbrev OwnK : Type := Program × Launch × Env × Room × State × MethodId × Array Value × List Frame × Method × Code × Nat × (Option Value → Heap → Prop)
namespace OwnK
abbrev p (K : OwnK) : Program := K.1
abbrev l (K : OwnK) : Launch := K.2.1
abbrev e (K : OwnK) : Env := K.2.2.1
abbrev R (K : OwnK) : Room := K.2.2.2.1
abbrev s (K : OwnK) : State := K.2.2.2.2.1
abbrev m (K : OwnK) : MethodId := K.2.2.2.2.2.1
abbrev args (K : OwnK) : Array Value := K.2.2.2.2.2.2.1
abbrev below (K : OwnK) : List Frame := K.2.2.2.2.2.2.2.1
abbrev meth (K : OwnK) : Method := K.2.2.2.2.2.2.2.2.1
abbrev c (K : OwnK) : Code := K.2.2.2.2.2.2.2.2.2.1
abbrev n0 (K : OwnK) : Nat := K.2.2.2.2.2.2.2.2.2.2.1
abbrev Post (K : OwnK) : Option Value → Heap → Prop := K.2.2.2.2.2.2.2.2.2.2.2
end OwnK
/-- a place of the walk -/
abbrev OwnSt (K : OwnK) (T : State) (locs : List Loc) (cells slots : Nat) : Prop := Stand K.p K.l K.e K.R K.s K.m K.args K.below K.meth K.c T locs cells slots
/-- from this state the run ends as the contract says -/
def OwnDone (K : OwnK) (t : State) : Prop :=
  ∃ s₂ o, Steps K.p.tables K.e K.below t s₂ ∧ s₂.status = .running ∧ Ended s₂ K.below o ∧ ∃ v L, o = .returned v ∧ (Fr K.n0 L ∧ K.Post v s₂.heap) ∧ FrameEnd K.s o s₂ L K.R.cells K.R.slots
/-- from every state at this pc, with these locals, this stack and this heap the run ends as the contract says -/
def Go (K : OwnK) (h : Heap) (cells slots pc : Nat) (Ls : List Slot) (st : List Value) : Prop :=
  ∀ T locs, OwnSt K T locs cells slots → T.heap = h → Fr K.n0 locs → OwnDone K (T.setTop (mkF K.m pc Ls.toArray st))
/-- what the walk through one body may lean on -/
def Cx (K : OwnK) (Z : State) (own name : String) (code : ByteArray) (maxL : Nat) (ret : Option FieldType) (R : Room) (n0 : Nat) (Post : Option Value → Heap → Prop) : Prop :=
  K.p.tables.exec = Jvm.exec ∧ K.c.code = code ∧ K.c.maxLocals = maxL ∧ K.s.vm.findClass own = some K.m.cls ∧ K.meth.name = name ∧ K.meth.sig.returnType = ret ∧ K.meth.locks = false ∧ Z.Warmed39 K.s.vm ∧ K.R = R ∧ K.n0 = n0 ∧ K.Post = Post
/-- a body's contract -/
def OwnMet (l : Launch) (y : MethodName) (bytes : ByteArray) (maxL : Nat) (ret : Option FieldType) (ws : List Jvm.Cond) (rm : Room) (Z : State) (h : Heap) (n0 : Nat) (as : Array Value) (P : Option Value → Heap → Prop) : Prop :=
  MetFree l y (head1 (Jvm.Cond.code y bytes maxL ret :: ws) rm) (fun a U => a = as ∧ Z.Warmed39 U.vm ∧ U.heap = h) (fun _ _ _ _ _ => True) (fun _ U o U' => ∃ v L, o = .returned v ∧ (Fr n0 L ∧ P v U'.heap) ∧ FrameEnd U o U' L rm.cells rm.slots)
theorem own_clamp (n : Int32) : n.toNatClampNeg = n.toInt.toNat := rfl
theorem own_newA (cA : ClassId) (ty : FieldType) (n : Int32) : (newA cA ty n).slots = Array.replicate n.toNatClampNeg (defaultValue ty) := rfl
theorem own_setSlot (c : Cell) (i : Nat) (v : Value) : (c.setSlot i v).slots = c.slots.setIfInBounds i v := rfl
theorem own_dnull (C : String) : defaultValue (.object C) = .null := rfl
section OwnLaws
variable {K : OwnK} {Z : State} {own name : String} {code : ByteArray} {maxL : Nat} {ret : Option FieldType} {R : Room} {n0 : Nat} {Post : Option Value → Heap → Prop} {h : Heap} {cells slots pc : Nat} {Ls Ls' : List Slot} {st rest : List Value} {a0 : Array Value}
theorem OwnDone.of {t t' : State} (k : ∀ target, Steps K.p.tables K.e K.below t' target → Steps K.p.tables K.e K.below t target) (d : OwnDone K t') : OwnDone K t := by
  obtain ⟨s₂, o, h1, r⟩ := d
  exact ⟨s₂, o, k _ h1, r⟩
theorem OwnMet.of {l : Launch} {desc : String} {bytes : ByteArray} {ws : List Jvm.Cond} {as : Array Value} (hp : plainFor (⟨own, name, desc⟩ : MethodName) = true) (ef : ∀ m, entryFrame m as maxL = mkF m 0 Ls.toArray [])
    (go : ∀ K : OwnK, K.l = l → Cx K Z own name bytes maxL ret R n0 Post → Go K h 0 0 0 Ls []) : OwnMet l ⟨own, name, desc⟩ bytes maxL ret ws R Z h n0 as Post := by
  refine MetFree.of_bodySF hp hisR ?_
  intro p e s m args below meth c s₁ Bd hml0 hP hK
  obtain ⟨rfl, hZ, hh⟩ := hP
  have g := go (p, l, e, R, s, m, args, below, meth, c, n0, Post) rfl ⟨Bd.exec, Bd.bytes, hml0, findClass_of_methodNamed Bd.named, (name_of_methodNamed Bd.named Bd.method).1, Bd.returns, Bd.notSynchronized, hZ, rfl, rfl, rfl⟩
  have d := g s₁ [] (Stand.of_body Bd) (by rw [← hh, Bd.state]; rfl) (Fr.nil n0)
  rw [ef m]
  exact d
theorem own_cut0 {A : Prop} (G : Prop) (h1 : G → A) (h2 : G) : A := h1 h2
theorem own_cut1 {α : Type} {A : Prop} (P G : α → Prop) (h1 : (∀ z, P z → G z) → A) (h2 : ∀ z, P z → G z) : A := h1 h2
theorem own_cut2 {α β : Type} {A : Prop} (P G : α → β → Prop) (h1 : (∀ z w, P z w → G z w) → A) (h2 : ∀ z w, P z w → G z w) : A := h1 h2
theorem own_cut3 {α β γ : Type} {A : Prop} (P G : α → β → γ → Prop) (h1 : (∀ z w u, P z w u → G z w u) → A) (h2 : ∀ z w u, P z w u → G z w u) : A := h1 h2
theorem Go.step {pc' : Nat} {st' : List Value} (g : Go K h cells slots pc' Ls' st') (f : ∀ T locs, OwnSt K T locs cells slots → ∀ target, Steps K.p.tables K.e K.below (T.setTop (mkF K.m pc' Ls'.toArray st')) target → Steps K.p.tables K.e K.below (T.setTop (mkF K.m pc Ls.toArray st)) target) : Go K h cells slots pc Ls st :=
  fun T locs X e N => OwnDone.of (f T locs X) (g T locs X e N)
/-! 1. loads, constants, stores -/
theorem w_iload (pc' : Nat) (C : Cx K Z own name code maxL ret R n0 Post) {k : Nat} {v : Int32} (hd : decode code pc = .ok (.iload k, 2)) (hp : pc + 2 = pc') (hl : Ls[k]? = some (.val (.int v))) (g : Go K h cells slots pc' Ls (.int v :: st)) : Go K h cells slots pc Ls st := by
  subst hp; exact g.step fun T locs X t q => XS.iload X.here C.1 rfl (hb C.2.1 hd) (by simpa using hl) q
theorem w_iloadN (pc' : Nat) (C : Cx K Z own name code maxL ret R n0 Post) {k : Fin 4} {v : Int32} (hd : decode code pc = .ok (.iload_n k, 1)) (hp : pc + 1 = pc') (hl : Ls[k.val]? = some (.val (.int v))) (g : Go K h cells slots pc' Ls (.int v :: st)) : Go K h cells slots pc Ls st := by
  subst hp; exact g.step fun T locs X t q => XS.iloadN X.here C.1 rfl (hb C.2.1 hd) (by simpa using hl) q
theorem w_lload (pc' : Nat) (C : Cx K Z own name code maxL ret R n0 Post) {k : Nat} {v : Int64} (hd : decode code pc = .ok (.lload k, 2)) (hp : pc + 2 = pc') (hl : Ls[k]? = some (.val (.long v))) (g : Go K h cells slots pc' Ls (.long v :: st)) : Go K h cells slots pc Ls st := by
  subst hp; exact g.step fun T locs X t q => XS.lload X.here C.1 rfl (hb C.2.1 hd) (by simpa using hl) q
theorem w_lloadN (pc' : Nat) (C : Cx K Z own name code maxL ret R n0 Post) {k : Fin 4} {v : Int64} (hd : decode code pc = .ok (.lload_n k, 1)) (hp : pc + 1 = pc') (hl : Ls[k.val]? = some (.val (.long v))) (g : Go K h cells slots pc' Ls (.long v :: st)) : Go K h cells slots pc Ls st := by
  subst hp; exact g.step fun T locs X t q => XS.lloadN X.here C.1 rfl (hb C.2.1 hd) (by simpa using hl) q
theorem w_aload (pc' : Nat) (C : Cx K Z own name code maxL ret R n0 Post) {k : Nat} {v : Value} (hd : decode code pc = .ok (.aload k, 2)) (hp : pc + 2 = pc') (hl : Ls[k]? = some (.val v)) (hv : v.isRef = true) (g : Go K h cells slots pc' Ls (v :: st)) : Go K h cells slots pc Ls st := by
  subst hp; exact g.step fun T locs X t q => XS.aload X.here C.1 rfl (hb C.2.1 hd) (by simpa using hl) hv q
theorem w_aloadN (pc' : Nat) (C : Cx K Z own name code maxL ret R n0 Post) {k : Fin 4} {v : Value} (hd : decode code pc = .ok (.aload_n k, 1)) (hp : pc + 1 = pc') (hl : Ls[k.val]? = some (.val v)) (hv : v.isRef = true) (g : Go K h cells slots pc' Ls (v :: st)) : Go K h cells slots pc Ls st := by
  subst hp; exact g.step fun T locs X t q => XS.aloadN X.here C.1 rfl (hb C.2.1 hd) (by simpa using hl) hv q
theorem w_iconst (pc' : Nat) (n : Int32) (C : Cx K Z own name code maxL ret R n0 Post) {i : Int} (hd : decode code pc = .ok (.iconst i, 1)) (hp : pc + 1 = pc') (hn : Int32.ofInt i = n) (g : Go K h cells slots pc' Ls (.int n :: st)) : Go K h cells slots pc Ls st := by
  subst hp hn; exact g.step fun T locs X t q => XS.iconst X.here C.1 rfl (hb C.2.1 hd) q
theorem w_bipush (pc' : Nat) (n : Int32) (C : Cx K Z own name code maxL ret R n0 Post) {i : Int} (hd : decode code pc = .ok (.bipush i, 2)) (hp : pc + 2 = pc') (hn : (Int8.ofInt i).toInt32 = n) (g : Go K h cells slots pc' Ls (.int n :: st)) : Go K h cells slots pc Ls st := by
  subst hp hn; exact g.step fun T locs X t q => XS.bipush X.here C.1 rfl (hb C.2.1 hd) q
theorem w_sipush (pc' : Nat) (n : Int32) (C : Cx K Z own name code maxL ret R n0 Post) {i : Int} (hd : decode code pc = .ok (.sipush i, 3)) (hp : pc + 3 = pc') (hn : (Int16.ofInt i).toInt32 = n) (g : Go K h cells slots pc' Ls (.int n :: st)) : Go K h cells slots pc Ls st := by
  subst hp hn; exact g.step fun T locs X t q => XS.sipush X.here C.1 rfl (hb C.2.1 hd) q
theorem w_lconst (pc' : Nat) (n : Int64) (C : Cx K Z own name code maxL ret R n0 Post) {k : Fin 2} (hd : decode code pc = .ok (.lconst k, 1)) (hp : pc + 1 = pc') (hn : Int64.ofNat k = n) (g : Go K h cells slots pc' Ls (.long n :: st)) : Go K h cells slots pc Ls st := by
  subst hp hn; exact g.step fun T locs X t q => XS.lconst X.here C.1 rfl (hb C.2.1 hd) q
theorem w_null (pc' : Nat) (C : Cx K Z own name code maxL ret R n0 Post) (hd : decode code pc = .ok (.aconst_null, 1)) (hp : pc + 1 = pc') (g : Go K h cells slots pc' Ls (.null :: st)) : Go K h cells slots pc Ls st := by
  subst hp; exact g.step fun T locs X t q => XS.aconstNull X.here C.1 rfl (hb C.2.1 hd) q
theorem w_ldc (pc' : Nat) (C : Cx K Z own name code maxL ret R n0 Post) {i : Nat} {v : Int32} (hd : decode code pc = .ok (.ldc i, 2)) (hp : pc + 2 = pc') (w : (Cond.constant own i v).before a0 Z = true) (g : Go K h cells slots pc' Ls (.int v :: st)) : Go K h cells slots pc Ls st := by
  subst hp; exact g.step fun T locs X t q => X.ldcInt C.1 C.2.2.2.1 (mvT C.2.2.2.2.2.2.2.1 w) (g := mkF K.m pc Ls.toArray st) rfl (hb C.2.1 hd) _ q
theorem w_ldcw (pc' : Nat) (C : Cx K Z own name code maxL ret R n0 Post) {i : Nat} {v : Int32} (hd : decode code pc = .ok (.ldc_w i, 3)) (hp : pc + 3 = pc') (w : (Cond.constant own i v).before a0 Z = true) (g : Go K h cells slots pc' Ls (.int v :: st)) : Go K h cells slots pc Ls st := by
  subst hp; exact g.step fun T locs X t q => X.ldcwInt C.1 C.2.2.2.1 (mvT C.2.2.2.2.2.2.2.1 w) (g := mkF K.m pc Ls.toArray st) rfl (hb C.2.1 hd) _ q
theorem w_ldc2 (pc' : Nat) (C : Cx K Z own name code maxL ret R n0 Post) {i : Nat} {v : Int64} (hd : decode code pc = .ok (.ldc2_w i, 3)) (hp : pc + 3 = pc') (w : (Cond.constantLong own i v).before a0 Z = true) (g : Go K h cells slots pc' Ls (.long v :: st)) : Go K h cells slots pc Ls st := by
  subst hp; exact g.step fun T locs X t q => X.ldc2Long C.1 C.2.2.2.1 (mvT C.2.2.2.2.2.2.2.1 w) (g := mkF K.m pc Ls.toArray st) rfl (hb C.2.1 hd) _ q
theorem w_istore (pc' : Nat) (Ls' : List Slot) (C : Cx K Z own name code maxL ret R n0 Post) {k : Nat} {x : Int32} (hd : decode code pc = .ok (.istore k, 2)) (hp : pc + 2 = pc') (hl : storeLocals Ls.toArray k (.int x) = some Ls'.toArray) (g : Go K h cells slots pc' Ls' st) : Go K h cells slots pc Ls (.int x :: st) := by
  subst hp; exact g.step fun T locs X t q => XS.istore X.here C.1 rfl (hb C.2.1 hd) rfl hl q
theorem w_istoreN (pc' : Nat) (Ls' : List Slot) (C : Cx K Z own name code maxL ret R n0 Post) {k : Fin 4} {x : Int32} (hd : decode code pc = .ok (.istore_n k, 1)) (hp : pc + 1 = pc') (hl : storeLocals Ls.toArray k.val (.int x) = some Ls'.toArray) (g : Go K h cells slots pc' Ls' st) : Go K h cells slots pc Ls (.int x :: st) := by
  subst hp; exact g.step fun T locs X t q => XS.istoreN X.here C.1 rfl (hb C.2.1 hd) rfl hl q
theorem w_lstore (pc' : Nat) (Ls' : List Slot) (C : Cx K Z own name code maxL ret R n0 Post) {k : Nat} {x : Int64} (hd : decode code pc = .ok (.lstore k, 2)) (hp : pc + 2 = pc') (hl : storeLocals Ls.toArray k (.long x) = some Ls'.toArray) (g : Go K h cells slots pc' Ls' st) : Go K h cells slots pc Ls (.long x :: st) := by
  subst hp; exact g.step fun T locs X t q => XS.lstore X.here C.1 rfl (hb C.2.1 hd) rfl hl q
theorem w_lstoreN (pc' : Nat) (Ls' : List Slot) (C : Cx K Z own name code maxL ret R n0 Post) {k : Fin 4} {x : Int64} (hd : decode code pc = .ok (.lstore_n k, 1)) (hp : pc + 1 = pc') (hl : storeLocals Ls.toArray k.val (.long x) = some Ls'.toArray) (g : Go K h cells slots pc' Ls' st) : Go K h cells slots pc Ls (.long x :: st) := by
  subst hp; exact g.step fun T locs X t q => XS.lstoreN X.here C.1 rfl (hb C.2.1 hd) rfl hl q
theorem w_astore (pc' : Nat) (Ls' : List Slot) (C : Cx K Z own name code maxL ret R n0 Post) {k : Nat} {x : Value} (hd : decode code pc = .ok (.astore k, 2)) (hp : pc + 2 = pc') (hv : x.isRef = true) (hl : storeLocals Ls.toArray k x = some Ls'.toArray) (g : Go K h cells slots pc' Ls' st) : Go K h cells slots pc Ls (x :: st) := by
  subst hp; exact g.step fun T locs X t q => XS.astore X.here C.1 rfl (hb C.2.1 hd) rfl hv hl q
theorem w_astoreN (pc' : Nat) (Ls' : List Slot) (C : Cx K Z own name code maxL ret R n0 Post) {k : Fin 4} {x : Value} (hd : decode code pc = .ok (.astore_n k, 1)) (hp : pc + 1 = pc') (hv : x.isRef = true) (hl : storeLocals Ls.toArray k.val x = some Ls'.toArray) (g : Go K h cells slots pc' Ls' st) : Go K h cells slots pc Ls (x :: st) := by
  subst hp; exact g.step fun T locs X t q => XS.astoreN X.here C.1 rfl (hb C.2.1 hd) rfl hv hl q
theorem w_iinc (pc' : Nat) (Ls' : List Slot) (C : Cx K Z own name code maxL ret R n0 Post) {k : Nat} {cst : Int} {x z : Int32} (hd : decode code pc = .ok (.iinc k cst, 3)) (hp : pc + 3 = pc') (hl : Ls[k]? = some (.val (.int x))) (hz : x + Int32.ofInt cst = z) (hs : storeLocals Ls.toArray k (.int z) = some Ls'.toArray) (g : Go K h cells slots pc' Ls' st) : Go K h cells slots pc Ls st := by
  subst hp hz; exact g.step fun T locs X t q => XS.iinc X.here C.1 rfl (hb C.2.1 hd) (by simpa using hl) hs q
/-! 2. arithmetic -/
theorem w_iadd (pc' : Nat) (C : Cx K Z own name code maxL ret R n0 Post) {x y : Int32} (hd : decode code pc = .ok (.iadd, 1)) (hp : pc + 1 = pc') (g : Go K h cells slots pc' Ls (.int (x + y) :: st)) : Go K h cells slots pc Ls (.int y :: .int x :: st) := by
  subst hp; exact g.step fun T locs X t q => XS.iadd X.here C.1 rfl (hb C.2.1 hd) rfl q
theorem w_isub (pc' : Nat) (C : Cx K Z own name code maxL ret R n0 Post) {x y : Int32} (hd : decode code pc = .ok (.isub, 1)) (hp : pc + 1 = pc') (g : Go K h cells slots pc' Ls (.int (x - y) :: st)) : Go K h cells slots pc Ls (.int y :: .int x :: st) := by
  subst hp; exact g.step fun T locs X t q => XS.isub X.here C.1 rfl (hb C.2.1 hd) rfl q
theorem w_imul (pc' : Nat) (C : Cx K Z own name code maxL ret R n0 Post) {x y : Int32} (hd : decode code pc = .ok (.imul, 1)) (hp : pc + 1 = pc') (g : Go K h cells slots pc' Ls (.int (x * y) :: st)) : Go K h cells slots pc Ls (.int y :: .int x :: st) := by
  subst hp; exact g.step fun T locs X t q => XS.imul X.here C.1 rfl (hb C.2.1 hd) rfl q
theorem w_iand (pc' : Nat) (C : Cx K Z own name code maxL ret R n0 Post) {x y : Int32} (hd : decode code pc = .ok (.iand, 1)) (hp : pc + 1 = pc') (g : Go K h cells slots pc' Ls (.int (x &&& y) :: st)) : Go K h cells slots pc Ls (.int y :: .int x :: st) := by
  subst hp; exact g.step fun T locs X t q => XS.iand X.here C.1 rfl (hb C.2.1 hd) rfl q
theorem w_ior (pc' : Nat) (C : Cx K Z own name code maxL ret R n0 Post) {x y : Int32} (hd : decode code pc = .ok (.ior, 1)) (hp : pc + 1 = pc') (g : Go K h cells slots pc' Ls (.int (x ||| y) :: st)) : Go K h cells slots pc Ls (.int y :: .int x :: st) := by
  subst hp; exact g.step fun T locs X t q => XS.ior X.here C.1 rfl (hb C.2.1 hd) rfl q
theorem w_ixor (pc' : Nat) (C : Cx K Z own name code maxL ret R n0 Post) {x y : Int32} (hd : decode code pc = .ok (.ixor, 1)) (hp : pc + 1 = pc') (g : Go K h cells slots pc' Ls (.int (x ^^^ y) :: st)) : Go K h cells slots pc Ls (.int y :: .int x :: st) := by
  subst hp; exact g.step fun T locs X t q => XS.ixor X.here C.1 rfl (hb C.2.1 hd) rfl q
theorem w_ishl (pc' : Nat) (C : Cx K Z own name code maxL ret R n0 Post) {x y : Int32} (hd : decode code pc = .ok (.ishl, 1)) (hp : pc + 1 = pc') (g : Go K h cells slots pc' Ls (.int (x <<< (y &&& 31)) :: st)) : Go K h cells slots pc Ls (.int y :: .int x :: st) := by
  subst hp; exact g.step fun T locs X t q => XS.ishl X.here C.1 rfl (hb C.2.1 hd) rfl q
theorem w_ishr (pc' : Nat) (C : Cx K Z own name code maxL ret R n0 Post) {x y : Int32} (hd : decode code pc = .ok (.ishr, 1)) (hp : pc + 1 = pc') (g : Go K h cells slots pc' Ls (.int (x >>> (y &&& 31)) :: st)) : Go K h cells slots pc Ls (.int y :: .int x :: st) := by
  subst hp; exact g.step fun T locs X t q => XS.ishr X.here C.1 rfl (hb C.2.1 hd) rfl q
theorem w_iushr (pc' : Nat) (C : Cx K Z own name code maxL ret R n0 Post) {x y : Int32} (hd : decode code pc = .ok (.iushr, 1)) (hp : pc + 1 = pc') (g : Go K h cells slots pc' Ls (.int ((x.toUInt32 >>> (y &&& 31).toUInt32).toInt32) :: st)) : Go K h cells slots pc Ls (.int y :: .int x :: st) := by
  subst hp; exact g.step fun T locs X t q => XS.iushr X.here C.1 rfl (hb C.2.1 hd) rfl q
theorem w_ladd (pc' : Nat) (C : Cx K Z own name code maxL ret R n0 Post) {x y : Int64} (hd : decode code pc = .ok (.ladd, 1)) (hp : pc + 1 = pc') (g : Go K h cells slots pc' Ls (.long (x + y) :: st)) : Go K h cells slots pc Ls (.long y :: .long x :: st) := by
  subst hp; exact g.step fun T locs X t q => XS.ladd X.here C.1 rfl (hb C.2.1 hd) rfl q
theorem w_lsub (pc' : Nat) (C : Cx K Z own name code maxL ret R n0 Post) {x y : Int64} (hd : decode code pc = .ok (.lsub, 1)) (hp : pc + 1 = pc') (g : Go K h cells slots pc' Ls (.long (x - y) :: st)) : Go K h cells slots pc Ls (.long y :: .long x :: st) := by
  subst hp; exact g.step fun T locs X t q => XS.lsub X.here C.1 rfl (hb C.2.1 hd) rfl q
theorem w_lmul (pc' : Nat) (C : Cx K Z own name code maxL ret R n0 Post) {x y : Int64} (hd : decode code pc = .ok (.lmul, 1)) (hp : pc + 1 = pc') (g : Go K h cells slots pc' Ls (.long (x * y) :: st)) : Go K h cells slots pc Ls (.long y :: .long x :: st) := by
  subst hp; exact g.step fun T locs X t q => XS.lmul X.here C.1 rfl (hb C.2.1 hd) rfl q
theorem w_land (pc' : Nat) (C : Cx K Z own name code maxL ret R n0 Post) {x y : Int64} (hd : decode code pc = .ok (.land, 1)) (hp : pc + 1 = pc') (g : Go K h cells slots pc' Ls (.long (x &&& y) :: st)) : Go K h cells slots pc Ls (.long y :: .long x :: st) := by
  subst hp; exact g.step fun T locs X t q => XS.land X.here C.1 rfl (hb C.2.1 hd) rfl q
theorem w_lor (pc' : Nat) (C : Cx K Z own name code maxL ret R n0 Post) {x y : Int64} (hd : decode code pc = .ok (.lor, 1)) (hp : pc + 1 = pc') (g : Go K h cells slots pc' Ls (.long (x ||| y) :: st)) : Go K h cells slots pc Ls (.long y :: .long x :: st) := by
  subst hp; exact g.step fun T locs X t q => XS.lor X.here C.1 rfl (hb C.2.1 hd) rfl q
theorem w_lxor (pc' : Nat) (C : Cx K Z own name code maxL ret R n0 Post) {x y : Int64} (hd : decode code pc = .ok (.lxor, 1)) (hp : pc + 1 = pc') (g : Go K h cells slots pc' Ls (.long (x ^^^ y) :: st)) : Go K h cells slots pc Ls (.long y :: .long x :: st) := by
  subst hp; exact g.step fun T locs X t q => XS.lxor X.here C.1 rfl (hb C.2.1 hd) rfl q
theorem w_lshl (pc' : Nat) (C : Cx K Z own name code maxL ret R n0 Post) {x : Int64} {y : Int32} (hd : decode code pc = .ok (.lshl, 1)) (hp : pc + 1 = pc') (g : Go K h cells slots pc' Ls (.long (x <<< (y &&& 0x3f).toInt64) :: st)) : Go K h cells slots pc Ls (.int y :: .long x :: st) := by
  subst hp; exact g.step fun T locs X t q => XS.lshl X.here C.1 rfl (hb C.2.1 hd) rfl q
theorem w_lshr (pc' : Nat) (C : Cx K Z own name code maxL ret R n0 Post) {x : Int64} {y : Int32} (hd : decode code pc = .ok (.lshr, 1)) (hp : pc + 1 = pc') (g : Go K h cells slots pc' Ls (.long (x >>> (y &&& 0x3f).toInt64) :: st)) : Go K h cells slots pc Ls (.int y :: .long x :: st) := by
  subst hp; exact g.step fun T locs X t q => XS.lshr X.here C.1 rfl (hb C.2.1 hd) rfl q
theorem w_lushr (pc' : Nat) (C : Cx K Z own name code maxL ret R n0 Post) {x : Int64} {y : Int32} (hd : decode code pc = .ok (.lushr, 1)) (hp : pc + 1 = pc') (g : Go K h cells slots pc' Ls (.long ((x.toUInt64 >>> (y &&& 0x3f).toInt64.toUInt64).toInt64) :: st)) : Go K h cells slots pc Ls (.int y :: .long x :: st) := by
  subst hp; exact g.step fun T locs X t q => XS.lushr X.here C.1 rfl (hb C.2.1 hd) rfl q
theorem w_ineg (pc' : Nat) (C : Cx K Z own name code maxL ret R n0 Post) {x : Int32} (hd : decode code pc = .ok (.ineg, 1)) (hp : pc + 1 = pc') (g : Go K h cells slots pc' Ls (.int (-x) :: st)) : Go K h cells slots pc Ls (.int x :: st) := by
  subst hp; exact g.step fun T locs X t q => XS.ineg X.here C.1 rfl (hb C.2.1 hd) rfl q
theorem w_lneg (pc' : Nat) (C : Cx K Z own name code maxL ret R n0 Post) {x : Int64} (hd : decode code pc = .ok (.lneg, 1)) (hp : pc + 1 = pc') (g : Go K h cells slots pc' Ls (.long (-x) :: st)) : Go K h cells slots pc Ls (.long x :: st) := by
  subst hp; exact g.step fun T locs X t q => XS.lneg X.here C.1 rfl (hb C.2.1 hd) rfl q
theorem w_i2l (pc' : Nat) (C : Cx K Z own name code maxL ret R n0 Post) {x : Int32} (hd : decode code pc = .ok (.i2l, 1)) (hp : pc + 1 = pc') (g : Go K h cells slots pc' Ls (.long (x.toInt64) :: st)) : Go K h cells slots pc Ls (.int x :: st) := by
  subst hp; exact g.step fun T locs X t q => XS.i2l X.here C.1 rfl (hb C.2.1 hd) rfl q
theorem w_l2i (pc' : Nat) (C : Cx K Z own name code maxL ret R n0 Post) {x : Int64} (hd : decode code pc = .ok (.l2i, 1)) (hp : pc + 1 = pc') (g : Go K h cells slots pc' Ls (.int (x.toInt32) :: st)) : Go K h cells slots pc Ls (.long x :: st) := by
  subst hp; exact g.step fun T locs X t q => XS.l2i X.here C.1 rfl (hb C.2.1 hd) rfl q
theorem w_i2b (pc' : Nat) (C : Cx K Z own name code maxL ret R n0 Post) {x : Int32} (hd : decode code pc = .ok (.i2b, 1)) (hp : pc + 1 = pc') (g : Go K h cells slots pc' Ls (.int (x.toInt8.toInt32) :: st)) : Go K h cells slots pc Ls (.int x :: st) := by
  subst hp; exact g.step fun T locs X t q => XS.i2b X.here C.1 rfl (hb C.2.1 hd) rfl q
theorem w_i2s (pc' : Nat) (C : Cx K Z own name code maxL ret R n0 Post) {x : Int32} (hd : decode code pc = .ok (.i2s, 1)) (hp : pc + 1 = pc') (g : Go K h cells slots pc' Ls (.int (x.toInt16.toInt32) :: st)) : Go K h cells slots pc Ls (.int x :: st) := by
  subst hp; exact g.step fun T locs X t q => XS.i2s X.here C.1 rfl (hb C.2.1 hd) rfl q
theorem w_i2c (pc' : Nat) (C : Cx K Z own name code maxL ret R n0 Post) {x : Int32} (hd : decode code pc = .ok (.i2c, 1)) (hp : pc + 1 = pc') (g : Go K h cells slots pc' Ls (.int (x.toUInt32.toUInt16.toUInt32.toInt32) :: st)) : Go K h cells slots pc Ls (.int x :: st) := by
  subst hp; exact g.step fun T locs X t q => XS.i2c X.here C.1 rfl (hb C.2.1 hd) rfl q
theorem w_idiv (pc' : Nat) (C : Cx K Z own name code maxL ret R n0 Post) {x y : Int32} (hd : decode code pc = .ok (.idiv, 1)) (hp : pc + 1 = pc') (hy : y ≠ 0) (g : Go K h cells slots pc' Ls (.int (x / y) :: st)) : Go K h cells slots pc Ls (.int y :: .int x :: st) := by
  subst hp; exact g.step fun T locs X t q => XS.idiv X.here C.1 rfl (hb C.2.1 hd) rfl hy q
theorem w_ldiv (pc' : Nat) (C : Cx K Z own name code maxL ret R n0 Post) {x y : Int64} (hd : decode code pc = .ok (.ldiv, 1)) (hp : pc + 1 = pc') (hy : y ≠ 0) (g : Go K h cells slots pc' Ls (.long (x / y) :: st)) : Go K h cells slots pc Ls (.long y :: .long x :: st) := by
  subst hp; exact g.step fun T locs X t q => XS.ldiv X.here C.1 rfl (hb C.2.1 hd) rfl hy q
theorem w_irem (pc' : Nat) (C : Cx K Z own name code maxL ret R n0 Post) {x y : Int32} (hd : decode code pc = .ok (.irem, 1)) (hp : pc + 1 = pc') (hy : y ≠ 0) (g : Go K h cells slots pc' Ls (.int (x % y) :: st)) : Go K h cells slots pc Ls (.int y :: .int x :: st) := by
  subst hp; exact g.step fun T locs X t q => iremM (g := mkF K.m pc Ls.toArray (.int y :: .int x :: st)) X C.1 rfl (hb C.2.1 hd) rfl hy q
theorem own_lrem (x y : Int64) : x - x / y * y = x % y := by
  apply Int64.toInt_inj.mp
  rw [Int64.toInt_sub, Int64.toInt_mul, Int64.toInt_div, Int64.toInt_mod, Int.tmod_def]
  have h1 := x.le_toInt; have h2 := x.toInt_lt
  have q : ((x.toInt.tdiv y.toInt).bmod (2 ^ 64) * y.toInt).bmod (2 ^ 64) = (x.toInt.tdiv y.toInt * y.toInt).bmod (2 ^ 64) := by rw [Int.bmod_mul_bmod]
  rw [q, Int.sub_bmod_bmod]
  rw [show x.toInt - x.toInt.tdiv y.toInt * y.toInt = x.toInt - y.toInt * x.toInt.tdiv y.toInt from by rw [Int.mul_comm], ← Int.tmod_def]
  have h3 : (x.toInt.tmod y.toInt).natAbs ≤ x.toInt.natAbs := by rw [Int.natAbs_tmod]; exact Nat.mod_le _ _
  have h4 := Int.tmod_nonneg (a := x.toInt) y.toInt
  have h5 := Int.tmod_nonneg (a := -x.toInt) y.toInt
  rw [Int.neg_tmod] at h5
  apply Int.bmod_eq_of_le <;> omega
theorem w_lrem (pc' : Nat) (C : Cx K Z own name code maxL ret R n0 Post) {x y : Int64} (hd : decode code pc = .ok (.lrem, 1)) (hp : pc + 1 = pc') (hy : y ≠ 0) (g : Go K h cells slots pc' Ls (.long (x % y) :: st)) : Go K h cells slots pc Ls (.long y :: .long x :: st) := by
  subst hp; exact g.step fun T locs X t q => XS.lrem X.here C.1 rfl (hb C.2.1 hd) rfl hy (by rw [own_lrem]; exact q)
theorem w_dup (pc' : Nat) (C : Cx K Z own name code maxL ret R n0 Post) {x : Value} (hd : decode code pc = .ok (.dup, 1)) (hp : pc + 1 = pc') (hc : x.category = 1) (g : Go K h cells slots pc' Ls (x :: x :: st)) : Go K h cells slots pc Ls (x :: st) := by
  subst hp; exact g.step fun T locs X t q => XS.dup X.here C.1 rfl (hb C.2.1 hd) rfl hc q
theorem w_pop (pc' : Nat) (C : Cx K Z own name code maxL ret R n0 Post) {x : Value} (hd : decode code pc = .ok (.pop, 1)) (hp : pc + 1 = pc') (hc : x.category = 1) (g : Go K h cells slots pc' Ls st) : Go K h cells slots pc Ls (x :: st) := by
  subst hp; exact g.step fun T locs X t q => XS.pop X.here C.1 rfl (hb C.2.1 hd) rfl hc q
theorem w_dupX1 (pc' : Nat) (C : Cx K Z own name code maxL ret R n0 Post) {x y : Value} (hd : decode code pc = .ok (.dup_x1, 1)) (hp : pc + 1 = pc') (hc : x.category = 1) (hc' : y.category = 1) (g : Go K h cells slots pc' Ls (x :: y :: x :: st)) : Go K h cells slots pc Ls (x :: y :: st) := by
  subst hp; exact g.step fun T locs X t q => XS.dupX1 X.here C.1 rfl (hb C.2.1 hd) rfl hc hc' q
/-! 3. jumps -/
theorem w_goto (pc' : Nat) (C : Cx K Z own name code maxL ret R n0 Post) {o : Int} (hd : decode code pc = .ok (.goto o, 3)) (hp : (pc : Int) + o = (pc' : Nat)) (g : Go K h cells slots pc' Ls st) : Go K h cells slots pc Ls st :=
  g.step fun T locs X t q => XS.goto X.here C.1 rfl (pc0 := pc) (pc' := pc') rfl (hb C.2.1 hd) (by omega) (by omega) q
/-- what a comparison asks, in plain words -/
def cP : ClassFile.Cond → Int32 → Int32 → Prop
  | .eq, x, y => x = y
  | .ne, x, y => ¬ (x = y)
  | .lt, x, y => x.toInt < y.toInt
  | .ge, x, y => y.toInt ≤ x.toInt
  | .gt, x, y => y.toInt < x.toInt
  | .le, x, y => x.toInt ≤ y.toInt
theorem own_icmpT {cd : ClassFile.Cond} {x y : Int32} (q : cP cd x y) : if_icmp.holds cd x y = true := by
  cases cd <;> simp only [cP] at q <;> simp [if_icmp.holds, Int32.lt_iff_toInt_lt, Int32.le_iff_toInt_le] <;> first | exact q | omega
theorem own_icmpF {cd : ClassFile.Cond} {x y : Int32} (q : ¬ cP cd x y) : if_icmp.holds cd x y = false := by
  cases cd <;> simp only [cP] at q <;> simp [if_icmp.holds, Int32.lt_iff_toInt_lt, Int32.le_iff_toInt_le] <;> first | exact q | omega | (simpa using q)
theorem w_icmpY (pc' : Nat) (C : Cx K Z own name code maxL ret R n0 Post) {cd : ClassFile.Cond} {x y : Int32} {o : Int} (hd : decode code pc = .ok (.if_icmp cd o, 3)) (hp : (pc : Int) + o = (pc' : Nat)) (q : cP cd x y) (g : Go K h cells slots pc' Ls st) : Go K h cells slots pc Ls (.int y :: .int x :: st) :=
  g.step fun T locs X t k => XS.icmpYes X.here C.1 rfl (pc0 := pc) (pc' := pc') rfl (hb C.2.1 hd) rfl (own_icmpT q) (by omega) (by omega) k
theorem w_icmpN (pc' : Nat) (C : Cx K Z own name code maxL ret R n0 Post) {cd : ClassFile.Cond} {x y : Int32} {o : Int} (hd : decode code pc = .ok (.if_icmp cd o, 3)) (hp : pc + 3 = pc') (q : ¬ cP cd x y) (g : Go K h cells slots pc' Ls st) : Go K h cells slots pc Ls (.int y :: .int x :: st) := by
  subst hp; exact g.step fun T locs X t k => XS.icmpNo X.here C.1 rfl (hb C.2.1 hd) rfl (own_icmpF q) k
theorem w_icmp (pcY pcN : Nat) (C : Cx K Z own name code maxL ret R n0 Post) {cd : ClassFile.Cond} {x y : Int32} {o : Int} (hd : decode code pc = .ok (.if_icmp cd o, 3)) (hp : (pc : Int) + o = (pcY : Nat)) (hn : pc + 3 = pcN) (gY : cP cd x y → Go K h cells slots pcY Ls st) (gN : ¬ cP cd x y → Go K h cells slots pcN Ls st) : Go K h cells slots pc Ls (.int y :: .int x :: st) := by
  by_cases q : cP cd x y
  · exact w_icmpY pcY C hd hp q (gY q)
  · exact w_icmpN pcN C hd hn q (gN q)
theorem w_ifY (pc' : Nat) (C : Cx K Z own name code maxL ret R n0 Post) {cd : ClassFile.Cond} {x : Int32} {o : Int} (hd : decode code pc = .ok (.ifCond cd o, 3)) (hp : (pc : Int) + o = (pc' : Nat)) (q : cP cd x 0) (g : Go K h cells slots pc' Ls st) : Go K h cells slots pc Ls (.int x :: st) :=
  g.step fun T locs X t k => XS.ifYes X.here C.1 rfl (pc0 := pc) (pc' := pc') rfl (hb C.2.1 hd) rfl ((if0 _ _).trans (own_icmpT q)) (by omega) (by omega) k
theorem w_ifN (pc' : Nat) (C : Cx K Z own name code maxL ret R n0 Post) {cd : ClassFile.Cond} {x : Int32} {o : Int} (hd : decode code pc = .ok (.ifCond cd o, 3)) (hp : pc + 3 = pc') (q : ¬ cP cd x 0) (g : Go K h cells slots pc' Ls st) : Go K h cells slots pc Ls (.int x :: st) := by
  subst hp; exact g.step fun T locs X t k => XS.ifNo X.here C.1 rfl (hb C.2.1 hd) rfl ((if0 _ _).trans (own_icmpF q)) k
theorem w_if (pcY pcN : Nat) (C : Cx K Z own name code maxL ret R n0 Post) {cd : ClassFile.Cond} {x : Int32} {o : Int} (hd : decode code pc = .ok (.ifCond cd o, 3)) (hp : (pc : Int) + o = (pcY : Nat)) (hn : pc + 3 = pcN) (gY : cP cd x 0 → Go K h cells slots pcY Ls st) (gN : ¬ cP cd x 0 → Go K h cells slots pcN Ls st) : Go K h cells slots pc Ls (.int x :: st) := by
  by_cases q : cP cd x 0
  · exact w_ifY pcY C hd hp q (gY q)
  · exact w_ifN pcN C hd hn q (gN q)
/-- lcmp and the branch behind it -/
def cL : ClassFile.Cond → Int64 → Int64 → Prop
  | .eq, x, y => x = y
  | .ne, x, y => ¬ (x = y)
  | .lt, x, y => x.toInt < y.toInt
  | .ge, x, y => y.toInt ≤ x.toInt
  | .gt, x, y => y.toInt < x.toInt
  | .le, x, y => x.toInt ≤ y.toInt
theorem own_lc (cd : ClassFile.Cond) (x y : Int64) : cP cd (lcmpW x y) 0 ↔ cL cd x y := by
  have h1 := lw_lt x y; have h2 := lw_gt x y; have h3 := lw_eq x y
  rw [Int32.lt_iff_toInt_lt, Int64.lt_iff_toInt_lt] at h1 h2
  cases cd <;> simp only [cP, cL]
  · exact h3
  · exact not_congr h3
  · exact h1
  · constructor <;> intro q <;> omega
  · exact h2
  · constructor <;> intro q <;> omega
theorem w_lcmp (pc' : Nat) (C : Cx K Z own name code maxL ret R n0 Post) {x y : Int64} (hd : decode code pc = .ok (.lcmp, 1)) (hp : pc + 1 = pc') (g : Go K h cells slots pc' Ls (.int (lcmpW x y) :: st)) : Go K h cells slots pc Ls (.long y :: .long x :: st) := by
  subst hp; exact g.step fun T locs X t q => XS.lcmp X.here C.1 rfl (hb C.2.1 hd) rfl q
theorem w_lifY (pc1 pc' : Nat) (C : Cx K Z own name code maxL ret R n0 Post) {cd : ClassFile.Cond} {x y : Int64} {o : Int} (hd0 : decode code pc = .ok (.lcmp, 1)) (hp0 : pc + 1 = pc1) (hd : decode code pc1 = .ok (.ifCond cd o, 3)) (hp : (pc1 : Int) + o = (pc' : Nat)) (q : cL cd x y) (g : Go K h cells slots pc' Ls st) : Go K h cells slots pc Ls (.long y :: .long x :: st) :=
  w_lcmp pc1 C hd0 hp0 (w_ifY pc' C hd hp ((own_lc cd x y).mpr q) g)
theorem w_lifN (pc1 pc' : Nat) (C : Cx K Z own name code maxL ret R n0 Post) {cd : ClassFile.Cond} {x y : Int64} {o : Int} (hd0 : decode code pc = .ok (.lcmp, 1)) (hp0 : pc + 1 = pc1) (hd : decode code pc1 = .ok (.ifCond cd o, 3)) (hp : pc1 + 3 = pc') (q : ¬ cL cd x y) (g : Go K h cells slots pc' Ls st) : Go K h cells slots pc Ls (.long y :: .long x :: st) :=
  w_lcmp pc1 C hd0 hp0 (w_ifN pc' C hd hp (fun z => q ((own_lc cd x y).mp z)) g)
theorem w_lif (pc1 pcY pcN : Nat) (C : Cx K Z own name code maxL ret R n0 Post) {cd : ClassFile.Cond} {x y : Int64} {o : Int} (hd0 : decode code pc = .ok (.lcmp, 1)) (hp0 : pc + 1 = pc1) (hd : decode code pc1 = .ok (.ifCond cd o, 3)) (hp : (pc1 : Int) + o = (pcY : Nat)) (hn : pc1 + 3 = pcN) (gY : cL cd x y → Go K h cells slots pcY Ls st) (gN : ¬ cL cd x y → Go K h cells slots pcN Ls st) : Go K h cells slots pc Ls (.long y :: .long x :: st) := by
  by_cases q : cL cd x y
  · exact w_lifY pc1 pcY C hd0 hp0 hd hp q (gY q)
  · exact w_lifN pc1 pcN C hd0 hp0 hd hn q (gN q)
theorem w_nullN (pc' : Nat) (C : Cx K Z own name code maxL ret R n0 Post) {b : Addr} {o : Int} (hd : decode code pc = .ok (.ifnull o, 3)) (hp : pc + 3 = pc') (g : Go K h cells slots pc' Ls st) : Go K h cells slots pc Ls (.ref b :: st) := by
  subst hp; exact g.step fun T locs X t k => XS.ifnullNo X.here C.1 rfl (hb C.2.1 hd) rfl k
theorem w_nonnullY (pc' : Nat) (C : Cx K Z own name code maxL ret R n0 Post) {b : Addr} {o : Int} (hd : decode code pc = .ok (.ifnonnull o, 3)) (hp : (pc : Int) + o = (pc' : Nat)) (g : Go K h cells slots pc' Ls st) : Go K h cells slots pc Ls (.ref b :: st) :=
  g.step fun T locs X t k => XS.ifnonnullYes X.here C.1 rfl (pc0 := pc) (pc' := pc') rfl (hb C.2.1 hd) rfl (by omega) (by omega) k
/-! 4. the end -/
theorem own_ret (C : Cx K Z own name code maxL ret R n0 Post) {v : Option Value} (hv : ret = none → v = none) (hc : cells ≤ R.cells) (hs : slots ≤ R.slots) (hq : Post v h)
    (hend : ∀ T locs, OwnSt K T locs cells slots → ∀ fs, (∀ (f : JFrame) (acts : List Action), f.method = K.m → f.locked = none → f.entered = [] → (doReturn K.e (T.setTop f) acts v).1 = T.setFrames fs) → Steps K.p.tables K.e K.below (T.setTop (mkF K.m pc Ls.toArray st)) (T.setFrames fs)) : Go K h cells slots pc Ls st := by
  obtain ⟨hx, hby, hml, hown, hnm, hret, hlk, hZ, hR, hn0, hPost⟩ := C
  intro T locs X eT N
  obtain ⟨fs, hr, hrun, hended, hW, hsame⟩ := X.leave (v := v) (fun q => hv (hret ▸ q)) hlk
  refine ⟨_, _, hend T locs X fs hr, hrun, hended, v, locs, rfl, ⟨N, ?_⟩, ⟨_, rfl⟩, hW, hsame.mono (by rw [hR]; exact hc) (by rw [hR]; exact hs)⟩
  rw [hPost]
  show Post v T.heap
  rw [eT]; exact hq
theorem w_retN {t : FieldType} (C : Cx K Z own name code maxL (some t) R n0 Post) (ht : t = .boolean ∨ t = .byte ∨ t = .char ∨ t = .short) {z z' : Int32} (hd : decode code pc = .ok (.ireturn, 1)) (hz : nar t z = z') (hc : cells ≤ R.cells) (hs : slots ≤ R.slots) (hq : Post (some (.int z')) h) : Go K h cells slots pc Ls (.int z :: st) := by
  subst hz
  exact own_ret C (fun q => by cases q) hc hs hq fun T locs X fs hr => retN X C.1 C.2.2.2.2.2.1 ht (hb C.2.1 hd) hr
theorem w_retI (C : Cx K Z own name code maxL (some .int) R n0 Post) {z : Int32} (hd : decode code pc = .ok (.ireturn, 1)) (hc : cells ≤ R.cells) (hs : slots ≤ R.slots) (hq : Post (some (.int z)) h) : Go K h cells slots pc Ls (.int z :: st) :=
  own_ret C (fun q => by cases q) hc hs hq fun T locs X fs hr => retOut X C.1 C.2.2.2.2.2.1 rfl (Or.inl ⟨rfl, Or.inl rfl, z, rfl⟩) (hb C.2.1 hd) hr
theorem w_retL (C : Cx K Z own name code maxL (some .long) R n0 Post) {z : Int64} (hd : decode code pc = .ok (.lreturn, 1)) (hc : cells ≤ R.cells) (hs : slots ≤ R.slots) (hq : Post (some (.long z)) h) : Go K h cells slots pc Ls (.long z :: st) :=
  own_ret C (fun q => by cases q) hc hs hq fun T locs X fs hr => retOut X C.1 C.2.2.2.2.2.1 rfl (Or.inr (Or.inl ⟨rfl, rfl, z, rfl⟩)) (hb C.2.1 hd) hr
theorem w_retA {t : FieldType} (C : Cx K Z own name code maxL (some t) R n0 Post) (ht : t.isReference = true) {z : Value} (hz : z.isRef = true) (hn : narrow t z = z) (hd : decode code pc = .ok (.areturn, 1)) (hc : cells ≤ R.cells) (hs : slots ≤ R.slots) (hq : Post (some z) h) : Go K h cells slots pc Ls (z :: st) :=
  own_ret C (fun q => by cases q) hc hs hq fun T locs X fs hr => retOut X C.1 C.2.2.2.2.2.1 hn (Or.inr (Or.inr (Or.inr (Or.inr ⟨rfl, ht, hz⟩)))) (hb C.2.1 hd) hr
theorem w_ret (C : Cx K Z own name code maxL none R n0 Post) (hd : decode code pc = .ok (.return_, 1)) (hc : cells ≤ R.cells) (hs : slots ≤ R.slots) (hq : Post none h) : Go K h cells slots pc Ls [] :=
  own_ret C (fun _ => rfl) hc hs hq fun T locs X fs hr => X.returnOut C.1 C.2.2.2.2.2.1 (hb C.2.1 hd) hr
/-! 5. arrays of ints, bytes .. -/
/-- the array at a holds these ints -/
def Ai (Z : State) (h : Heap) (a : Addr) (ty : FieldType) (vs : List Int32) : Prop := ∃ c : Cell, Arr Z h a c ty ∧ c.slots = (vs.map Value.int).toArray
theorem Ai.lt {a : Addr} {ty : FieldType} {vs : List Int32} (A : Ai Z h a ty vs) : a < h.size := by obtain ⟨c, A, -⟩ := A; exact A.lt
theorem Ai.keep {h' : Heap} {a : Addr} {ty : FieldType} {vs : List Int32} {ws : List Addr} (A : Ai Z h a ty vs) (K : Keep h h' ws) (q : a ∉ ws) : Ai Z h' a ty vs := by
  obtain ⟨c, A, r⟩ := A; exact ⟨c, ⟨K.2.1 a c A.1 q, A.2⟩, r⟩
theorem Ai.ext {h' : Heap} {a : Addr} {ty : FieldType} {vs : List Int32} (A : Ai Z h a ty vs) (E : Ext h h') : Ai Z h' a ty vs := by
  obtain ⟨c, A, r⟩ := A; exact ⟨c, A.ext E, r⟩
theorem own_idx {j : Int32} {i n : Nat} (hj : j.toInt = (i : Int)) (hi : i < n) : ¬ (j < 0 ∨ n ≤ j.toNatClampNeg) ∧ j.toNatClampNeg = i := by
  have q : j.toNatClampNeg = i := by rw [own_clamp, hj]; simp
  refine ⟨?_, q⟩
  rw [q, Int32.lt_iff_toInt_lt, hj]
  simp only [Int32.reduceToInt]
  omega
theorem w_newarr (pc' : Nat) (cap : Nat) (k : Nat) (C : Cx K Z own name code maxL ret R n0 Post) (hn0 : n0 ≤ h.size) {aty : ArrayType} {n : Int32} (hd : decode code pc = .ok (.newarray aty, 2)) (hp : pc + 2 = pc') (w : (Cond.arrayClass (newarray.typeOf aty)).before a0 Z = true) (hdef : defaultValue (newarray.typeOf aty) = .int 0) (hk : n.toInt = (k : Int)) (hcap : k ≤ cap) (hb0 : cap * 8 ≤ 536870912) (hc : cells + 1 ≤ R.cells) (hs : slots + cap ≤ R.slots)
    (g : ∀ h' a, Ext h h' → n0 ≤ a → h.size ≤ a → Ai Z h' a (newarray.typeOf aty) (List.replicate k 0) → n0 ≤ h'.size → Go K h' (cells + 1) (slots + cap) pc' Ls (.ref a :: st)) : Go K h cells slots pc Ls (.int n :: st) := by
  obtain ⟨hx, hby, hml, hown, hnm, hret, hlk, hZ, hR, hn, hPost⟩ := C
  subst hp
  intro T locs X eT N
  have hnn : ¬ n < 0 := by rw [Int32.lt_iff_toInt_lt, hk]; simp only [Int32.reduceToInt]; omega
  have hkn : n.toNatClampNeg = k := by rw [own_clamp, hk]; simp
  obtain ⟨T', h', cA, X', e', E, A, st'⟩ := newP X hx hZ w eT (g := mkF K.m pc Ls.toArray (.int n :: st)) rfl (hb hby hd) rfl hnn (cap := cap) (by omega) hb0 (by rw [hR]; exact hc) (by rw [hR]; exact hs)
  refine OwnDone.of (st' ·) (g h' h.size E hn0 (Nat.le_refl _) ⟨_, A, ?_⟩ (Nat.le_trans hn0 E.1) T' locs X' e' N)
  rw [own_newA, hkn, hdef]
  simp
theorem w_len (pc' : Nat) (z : Int32) (C : Cx K Z own name code maxL ret R n0 Post) {a : Addr} {ty : FieldType} {vs : List Int32} (A : Ai Z h a ty vs) (hd : decode code pc = .ok (.arraylength, 1)) (hp : pc + 1 = pc') (hz : vs.length.toInt32 = z) (g : Go K h cells slots pc' Ls (.int z :: st)) : Go K h cells slots pc Ls (.ref a :: st) := by
  obtain ⟨c, A, hc⟩ := A
  have hn : c.slots.size = vs.length := by rw [hc]; simp
  subst hp hz
  intro T locs X eT N
  refine OwnDone.of (fun t q => X.arraylength C.1 (by rw [eT]; exact A.1) (State.isArrayOf_alike C.2.2.2.2.2.2.2.1.alike A.2.1) (g := mkF K.m pc Ls.toArray (.ref a :: st)) rfl rfl (hb C.2.1 hd) t (by rw [hn]; exact q)) (g T locs X eT N)
theorem w_iaload (pc' : Nat) (i : Nat) (v : Int32) (C : Cx K Z own name code maxL ret R n0 Post) {a : Addr} {vs : List Int32} {j : Int32} (A : Ai Z h a .int vs) (hd : decode code pc = .ok (.iaload, 1)) (hp : pc + 1 = pc') (hj : j.toInt = (i : Int)) (hv : vs[i]? = some v) (g : Go K h cells slots pc' Ls (.int v :: st)) : Go K h cells slots pc Ls (.int j :: .ref a :: st) := by
  obtain ⟨c, A, hc⟩ := A
  have hi : i < vs.length := (List.getElem?_eq_some_iff.mp hv).1
  have hn : c.slots.size = vs.length := by rw [hc]; simp
  obtain ⟨q1, q2⟩ := own_idx (n := c.slots.size) hj (by rw [hn]; exact hi)
  have hat : c.slots[j.toNatClampNeg]? = some (.int v) := by rw [hc, q2]; simp [hv]
  subst hp
  intro T locs X eT N
  exact OwnDone.of (fun t q => X.iaload C.1 (by rw [eT]; exact A.1) (State.isArrayOf_alike C.2.2.2.2.2.2.2.1.alike A.2.1) A.2.2 q1 hat (g := mkF K.m pc Ls.toArray (.int j :: .ref a :: st)) rfl rfl (hb C.2.1 hd) t q) (g T locs X eT N)
theorem w_baload (pc' : Nat) (i : Nat) (v : Int32) (C : Cx K Z own name code maxL ret R n0 Post) {a : Addr} {vs : List Int32} {j : Int32} (A : Ai Z h a .byte vs) (hd : decode code pc = .ok (.baload, 1)) (hp : pc + 1 = pc') (hj : j.toInt = (i : Int)) (hv : vs[i]? = some v) (g : Go K h cells slots pc' Ls (.int v :: st)) : Go K h cells slots pc Ls (.int j :: .ref a :: st) := by
  obtain ⟨c, A, hc⟩ := A
  have hi : i < vs.length := (List.getElem?_eq_some_iff.mp hv).1
  have hn : c.slots.size = vs.length := by rw [hc]; simp
  obtain ⟨q1, q2⟩ := own_idx (n := c.slots.size) hj (by rw [hn]; exact hi)
  have hat : c.slots[j.toNatClampNeg]? = some (.int v) := by rw [hc, q2]; simp [hv]
  subst hp
  intro T locs X eT N
  exact OwnDone.of (fun t q => X.baloadBytes C.1 (by rw [eT]; exact A.1) (State.isArrayOf_alike C.2.2.2.2.2.2.2.1.alike A.2.1) A.2.2 q1 hat (g := mkF K.m pc Ls.toArray (.int j :: .ref a :: st)) rfl rfl (hb C.2.1 hd) t q) (g T locs X eT N)
theorem own_set {h' : Heap} {a : Addr} {ty : FieldType} {vs : List Int32} {c : Cell} {i : Nat} {x : Int32} (A : Arr Z h a c ty) (hc : c.slots = (vs.map Value.int).toArray) (W : Wr h h' a i (.int x)) : Ai Z h' a ty (vs.set i x) :=
  ⟨_, A.same W, by rw [own_setSlot, hc]; simp [List.map_set]⟩
theorem w_iastore (pc' : Nat) (i : Nat) (C : Cx K Z own name code maxL ret R n0 Post) {a : Addr} {vs : List Int32} {j x : Int32} (A : Ai Z h a .int vs) (ha : n0 ≤ a) (hd : decode code pc = .ok (.iastore, 1)) (hp : pc + 1 = pc') (hj : j.toInt = (i : Int)) (hi : i < vs.length)
    (g : ∀ h', Keep h h' [a] → Ai Z h' a .int (vs.set i x) → Go K h' cells slots pc' Ls st) : Go K h cells slots pc Ls (.int x :: .int j :: .ref a :: st) := by
  obtain ⟨c, A, hc⟩ := A
  have hn : c.slots.size = vs.length := by rw [hc]; simp
  obtain ⟨q1, q2⟩ := own_idx (n := c.slots.size) hj (by rw [hn]; exact hi)
  subst hp
  intro T locs X eT N
  obtain ⟨T', h', X', e', W, st'⟩ := stI X C.1 C.2.2.2.2.2.2.2.1 eT A (j := j) (x := x) q1 (g := mkF K.m pc Ls.toArray (.int x :: .int j :: .ref a :: st)) rfl rfl (hb C.2.1 hd)
  rw [q2] at X' W
  exact OwnDone.of (st' ·) (g h' (Keep.of_wr W) (own_set A hc W) T' _ X' e' (Fr.snoc X' N (by rw [C.2.2.2.2.2.2.2.2.2.1]; exact ha)))
theorem w_bastore (pc' : Nat) (i : Nat) (x' : Int32) (C : Cx K Z own name code maxL ret R n0 Post) {a : Addr} {vs : List Int32} {j x : Int32} (A : Ai Z h a .byte vs) (ha : n0 ≤ a) (hd : decode code pc = .ok (.bastore, 1)) (hp : pc + 1 = pc') (hj : j.toInt = (i : Int)) (hi : i < vs.length) (hx' : x.toInt8.toInt32 = x')
    (g : ∀ h', Keep h h' [a] → Ai Z h' a .byte (vs.set i x') → Go K h' cells slots pc' Ls st) : Go K h cells slots pc Ls (.int x :: .int j :: .ref a :: st) := by
  obtain ⟨c, A, hc⟩ := A
  have hn : c.slots.size = vs.length := by rw [hc]; simp
  obtain ⟨q1, q2⟩ := own_idx (n := c.slots.size) hj (by rw [hn]; exact hi)
  subst hp hx'
  intro T locs X eT N
  obtain ⟨T', h', X', e', W, st'⟩ := stB X C.1 C.2.2.2.2.2.2.2.1 eT A (j := j) (x := x) q1 (g := mkF K.m pc Ls.toArray (.int x :: .int j :: .ref a :: st)) rfl rfl (hb C.2.1 hd)
  rw [q2] at X' W
  exact OwnDone.of (st' ·) (g h' (Keep.of_wr W) (own_set A hc W) T' _ X' e' (Fr.snoc X' N (by rw [C.2.2.2.2.2.2.2.2.2.1]; exact ha)))
/-! 6. objects -/
theorem w_new (pc' : Nat) {Cn : String} {n i : Nat} (C : Cx K Z own name code maxL ret R n0 Post) (hn0 : n0 ≤ h.size) (hd : decode code pc = .ok (.new i, 3)) (hp : pc + 3 = pc') (w1 : (Cond.classLink own i Cn).before a0 Z = true) (w2 : (Cond.instantiable Cn n).before a0 Z = true) (w3 : (Cond.initialized Cn).before a0 Z = true) (hc : cells + 1 ≤ R.cells) (hs : slots + n ≤ R.slots)
    (g : ∀ h' a, Ext h h' → n0 ≤ a → h.size ≤ a → Exa Z h' a Cn → (∀ {O nm d : String} {ty : FieldType}, Laid Z a0 Cn O nm d → parseFieldDescriptor d = some ty → Fld Z h' a O nm d (defaultValue ty)) → n0 ≤ h'.size → Go K h' (cells + 1) (slots + n) pc' Ls (.ref a :: st)) : Go K h cells slots pc Ls st := by
  obtain ⟨hx, hby, hml, hown, hnm, hret, hlk, hZ, hR, hn, hPost⟩ := C
  subst hp
  intro T locs X eT N
  obtain ⟨T', h', X', e', E, A, D, -, st'⟩ := newO X hx hZ hown w1 w2 w3 eT (g := mkF K.m pc Ls.toArray st) rfl (hb hby hd) (by rw [hR]; exact hc) (by rw [hR]; exact hs)
  exact OwnDone.of (st' ·) (g h' h.size E hn0 (Nat.le_refl _) A D (Nat.le_trans hn0 E.1) T' locs X' e' N)
theorem w_getF (pc' : Nat) {R0 O n d host : String} {i : Nat} (C : Cx K Z own name code maxL ret R n0 Post) {a : Addr} {v : Value} (F : Fld Z h a O n d v) (hd : decode code pc = .ok (.getfield i, 3)) (hp : pc + 3 = pc') (w : (Cond.fieldLink own i R0 n d).before a0 Z = true ∨ (Cond.fieldLinkNest own i R0 n d host).before a0 Z = true) (via : Via Z R0 O n d) (g : Go K h cells slots pc' Ls (v :: st)) : Go K h cells slots pc Ls (.ref a :: st) := by
  subst hp
  intro T locs X eT N
  obtain ⟨T', X', e', st'⟩ := getF X C.1 C.2.2.2.2.2.2.2.1 C.2.2.2.1 w via eT F (g := mkF K.m pc Ls.toArray (.ref a :: st)) rfl rfl (hb C.2.1 hd)
  exact OwnDone.of (st' ·) (g T' locs X' e' N)
theorem w_putF (pc' : Nat) {R0 O n d host Cn : String} {i kk : Nat} {ty : FieldType} (C : Cx K Z own name code maxL ret R n0 Post) {a : Addr} {v old : Value} (F : Fld Z h a O n d old) (E : Exa Z h a Cn) (ha : n0 ≤ a) (hd : decode code pc = .ok (.putfield i, 3)) (hp : pc + 3 = pc') (w : (Cond.fieldLink own i R0 n d).before a0 Z = true ∨ (Cond.fieldLinkNest own i R0 n d host).before a0 Z = true) (via : Via Z R0 O n d)
    (L : (Cond.lays Cn O n d).before a0 Z = true ∨ ((Cond.laysFinal Cn O n d).before a0 Z = true ∧ own = O ∧ name = "<init>")) (wi : (Cond.instantiable Cn kk).before a0 Z = true) (hty : parseFieldDescriptor d = some ty) (hn : narrow ty v = v) (hf : fits ty v = true)
    (g : ∀ h', Keep h h' [a] → Wr h h' a (Jvm.RoadKit.slotOf Z O n d) v → Fld Z h' a O n d v → Exa Z h' a Cn → Go K h' cells slots pc' Ls st) : Go K h cells slots pc Ls (v :: .ref a :: st) := by
  subst hp
  intro T locs X eT N
  obtain ⟨T', h', X', e', W, st'⟩ := putF X C.1 C.2.2.2.2.2.2.2.1 C.2.2.2.1 w via eT F E (L.imp id fun q => ⟨q.1, q.2.1, C.2.2.2.2.1.trans q.2.2⟩) wi hty hn hf (g := mkF K.m pc Ls.toArray (v :: .ref a :: st)) rfl rfl (hb C.2.1 hd)
  exact OwnDone.of (st' ·) (g h' (Keep.of_wr W) W (F.same W) (E.wr W) T' _ X' e' (Fr.snoc X' N (by rw [C.2.2.2.2.2.2.2.2.2.1]; exact ha)))
theorem w_initO (pc' W : Nat) {i : Nat} (C : Cx K Z own name code maxL ret R n0 Post) {a : Addr} (hd : decode code pc = .ok (.invokespecial i, 3)) (hp : pc + 3 = pc') (w1 : (Cond.methodLink own i Lib.objectInit).before a0 Z = true) (w2 : (Cond.instanceMethod Lib.objectInit).before a0 Z = true) (w3 : (Cond.code Lib.objectInit ⟨#[0xb1]⟩ 1 none).before a0 Z = true)
    (hsz : Ls.length = maxL) (hf : 1 ≤ R.frames) (hW : (st.map fun v => v.category).sum ≤ W) (hl : W + 12 ≤ R.locals) (g : Go K h cells slots pc' Ls st) : Go K h cells slots pc Ls (.ref a :: st) := by
  obtain ⟨hx, hby, hml, hown, hnm, hret, hlk, hZ, hR, hn, hPost⟩ := C
  subst hp
  intro T locs X eT N
  obtain ⟨T', X', e', st'⟩ := initO X hx hZ hown w1 w2 w3 eT (g := mkF K.m pc Ls.toArray (.ref a :: st)) rfl (by rw [hml]; simpa using hsz) rfl (hb hby hd) (by rw [hR]; exact hf) (W := W) (by show 2 * 0 + _ ≤ _; simpa using hW) (by rw [hR]; exact hl)
  exact OwnDone.of (st' ·) (g T' locs X' e' N)
/-! 7. calls -/
theorem w_callS (pc' W : Nat) {y : MethodName} {bytes : ByteArray} {mL i : Nat} {rt : Option FieldType} {rm : Room} {P : Option Value → Heap → Prop} (argsL : List Value) (C : Cx K Z own name code maxL ret R n0 Post) (hd : decode code pc = .ok (.invokestatic i, 3)) (hp : pc + 3 = pc')
    (w1 : (Cond.methodLink own i y).before a0 Z = true) (w2 : (Cond.static y).before a0 Z = true) (w3 : (Cond.initialized y.cls).before a0 Z = true) (w4 : (Cond.code y bytes mL rt).before a0 Z = true) (hy : y.cls ≠ "java/lang/invoke/MethodHandle" ∧ y.cls ≠ "java/lang/invoke/VarHandle")
    (hM : OwnMet K.l y bytes mL rt [] rm Z h n0 argsL.toArray P) {ps : List FieldType} {r : Option FieldType} (hpd : parseMethodDescriptor y.desc = some ⟨ps, r⟩) (hlen : argsL.length = ps.length)
    (hst : st = argsL.reverse ++ rest) (hsz : Ls.length = maxL) (hW : (rest.map fun v => v.category).sum ≤ W) (hf : rm.frames + 1 ≤ R.frames) (hl : W + (mL + 11) + rm.locals ≤ R.locals) (hc : cells + rm.cells ≤ R.cells) (hs : slots + rm.slots ≤ R.slots)
    (g : ∀ v h', P v h' → Go K h' (cells + rm.cells) (slots + rm.slots) pc' Ls (v.toList ++ rest)) : Go K h cells slots pc Ls st := by
  obtain ⟨hx, hby, hml, hown, hnm, hret, hlk, hZ, hR, hn, hPost⟩ := C
  subst hp hst
  intro T locs X eT N
  obtain ⟨v, vm₁, ⟨T', L', k', n'⟩, -, X', ⟨Lc, hQ, l1, y1, z1⟩, st'⟩ := Jvm.LawKit.callS X hx (y := y) hown (mvT hZ w1) (mvT hZ w2) (mvT hZ w3) (mvT hZ w4) hy (backOf (W := W) (Q := fun v h L => Fr n0 L ∧ P v h) hM hZ w4 w3 (by rw [hR]; exact hf) (by rw [hR]; exact hl)) (g := mkF K.m pc Ls.toArray (argsL.reverse ++ rest)) rfl (by rw [hml]; simpa using hsz) (argsL := argsL) (rest := rest) (lenOf hpd hlen) rfl (by show 2 * 0 + _ ≤ _; simpa using hW) (hb hby hd) (fun _ _ => ⟨rfl, eT, by rw [hR]; exact hc, by rw [hR]; exact hs⟩)
  dsimp only [Pt.U, Pt.locs, Pt.cells, Pt.slots] at X' l1 y1 z1 st' hQ
  subst l1 y1 z1
  exact OwnDone.of (st' ·) (g v T'.heap hQ.2 T' _ X' rfl (Fr.app N (by rw [hn]; exact hQ.1)))
theorem w_callI (pc' W : Nat) {y : MethodName} {bytes : ByteArray} {mL i : Nat} {rm : Room} {P : Option Value → Heap → Prop} (argsL : List Value) (C : Cx K Z own name code maxL ret R n0 Post) {a : Addr} (hd : decode code pc = .ok (.invokespecial i, 3)) (hp : pc + 3 = pc') (hy1 : y.name = "<init>")
    (w1 : (Cond.methodLink own i y).before a0 Z = true) (w2 : (Cond.instanceMethod y).before a0 Z = true) (w3 : (Cond.initialized y.cls).before a0 Z = true) (w4 : (Cond.code y bytes mL none).before a0 Z = true) (hy : y.cls ≠ "java/lang/invoke/MethodHandle" ∧ y.cls ≠ "java/lang/invoke/VarHandle")
    (hM : OwnMet K.l y bytes mL none [] rm Z h n0 (.ref a :: argsL).toArray P) {ps : List FieldType} {r : Option FieldType} (hpd : parseMethodDescriptor y.desc = some ⟨ps, r⟩) (hlen : argsL.length = ps.length)
    (hst : st = argsL.reverse ++ .ref a :: rest) (hsz : Ls.length = maxL) (hW : (rest.map fun v => v.category).sum ≤ W) (hf : rm.frames + 1 ≤ R.frames) (hl : W + (mL + 11) + rm.locals ≤ R.locals) (hc : cells + rm.cells ≤ R.cells) (hs : slots + rm.slots ≤ R.slots)
    (g : ∀ v h', P v h' → Go K h' (cells + rm.cells) (slots + rm.slots) pc' Ls (v.toList ++ rest)) : Go K h cells slots pc Ls st := by
  obtain ⟨hx, hby, hml, hown, hnm, hret, hlk, hZ, hR, hn, hPost⟩ := C
  subst hp hst
  intro T locs X eT N
  obtain ⟨v, vm₁, ⟨T', L', k', n'⟩, -, X', ⟨Lc, hQ, l1, y1, z1⟩, st'⟩ := X.specialBack hx (y := y) hy1 hown (mvT hZ w1) (mvT hZ w2) (mvT hZ w4) hy (backOf (W := W) (Q := fun v h L => Fr n0 L ∧ P v h) hM hZ w4 w3 (by rw [hR]; exact hf) (by rw [hR]; exact hl)) (g := mkF K.m pc Ls.toArray (argsL.reverse ++ .ref a :: rest)) rfl (by rw [hml]; simpa using hsz) (Steps.refl _) (a := a) (argsL := argsL) (rest := rest) (lenOf hpd hlen) rfl (by show 2 * 0 + _ ≤ _; simpa using hW) (hb hby hd) (fun _ _ => ⟨rfl, eT, by rw [hR]; exact hc, by rw [hR]; exact hs⟩)
  dsimp only [Pt.U, Pt.locs, Pt.cells, Pt.slots] at X' l1 y1 z1 st' hQ
  subst l1 y1 z1
  exact OwnDone.of (fun t q => st'.trans q) (g v T'.heap hQ.2 T' _ X' rfl (Fr.app N (by rw [hn]; exact hQ.1)))
theorem w_callIN (pc' W : Nat) {host : String} {y : MethodName} {bytes : ByteArray} {mL i : Nat} {rm : Room} {P : Option Value → Heap → Prop} (argsL : List Value) (C : Cx K Z own name code maxL ret R n0 Post) {a : Addr} (hd : decode code pc = .ok (.invokespecial i, 3)) (hp : pc + 3 = pc') (hy1 : y.name = "<init>")
    (w1 : (Cond.methodLinkNest own i y host).before a0 Z = true) (w2 : (Cond.instanceMethod y).before a0 Z = true) (w3 : (Cond.initialized y.cls).before a0 Z = true) (w4 : (Cond.code y bytes mL none).before a0 Z = true) (hy : y.cls ≠ "java/lang/invoke/MethodHandle" ∧ y.cls ≠ "java/lang/invoke/VarHandle")
    (hM : OwnMet K.l y bytes mL none [] rm Z h n0 (.ref a :: argsL).toArray P) {ps : List FieldType} {r : Option FieldType} (hpd : parseMethodDescriptor y.desc = some ⟨ps, r⟩) (hlen : argsL.length = ps.length)
    (hst : st = argsL.reverse ++ .ref a :: rest) (hsz : Ls.length = maxL) (hW : (rest.map fun v => v.category).sum ≤ W) (hf : rm.frames + 1 ≤ R.frames) (hl : W + (mL + 11) + rm.locals ≤ R.locals) (hc : cells + rm.cells ≤ R.cells) (hs : slots + rm.slots ≤ R.slots)
    (g : ∀ v h', P v h' → Go K h' (cells + rm.cells) (slots + rm.slots) pc' Ls (v.toList ++ rest)) : Go K h cells slots pc Ls st := by
  obtain ⟨hx, hby, hml, hown, hnm, hret, hlk, hZ, hR, hn, hPost⟩ := C
  subst hp hst
  intro T locs X eT N
  obtain ⟨v, vm₁, ⟨T', L', k', n'⟩, -, X', ⟨Lc, hQ, l1, y1, z1⟩, st'⟩ := X.specialBackNest hx (y := y) hy1 hown (Cond.methodLinkNest_wide hZ w1 :) (mvT hZ w2) (mvT hZ w4) hy (backOf (W := W) (Q := fun v h L => Fr n0 L ∧ P v h) hM hZ w4 w3 (by rw [hR]; exact hf) (by rw [hR]; exact hl)) (g := mkF K.m pc Ls.toArray (argsL.reverse ++ .ref a :: rest)) rfl (by rw [hml]; simpa using hsz) (Steps.refl _) (a := a) (argsL := argsL) (rest := rest) (lenOf hpd hlen) rfl (by show 2 * 0 + _ ≤ _; simpa using hW) (hb hby hd) (fun _ _ => ⟨rfl, eT, by rw [hR]; exact hc, by rw [hR]; exact hs⟩)
  dsimp only [Pt.U, Pt.locs, Pt.cells, Pt.slots] at X' l1 y1 z1 st' hQ
  subst l1 y1 z1
  exact OwnDone.of (fun t q => st'.trans q) (g v T'.heap hQ.2 T' _ X' rfl (Fr.app N (by rw [hn]; exact hQ.1)))
theorem w_callV (pc' W : Nat) {Cn : String} {y : MethodName} {bytes : ByteArray} {mL i : Nat} {rt : Option FieldType} {rm : Room} {P : Option Value → Heap → Prop} (argsL : List Value) (C : Cx K Z own name code maxL ret R n0 Post) {a : Addr} (E : Exa Z h a Cn) (hd : decode code pc = .ok (.invokevirtual i, 3)) (hp : pc + 3 = pc')
    (w1 : (Cond.methodLink own i y).before a0 Z = true) (w2 : (Cond.declares y).before a0 Z = true) (w5 : (Cond.selects Cn y y).before a0 Z = true) (w6 : (Cond.instanceMethod y).before a0 Z = true) (w3 : (Cond.initialized y.cls).before a0 Z = true) (w4 : (Cond.code y bytes mL rt).before a0 Z = true) (hy : y.cls ≠ "java/lang/invoke/MethodHandle" ∧ y.cls ≠ "java/lang/invoke/VarHandle")
    (hM : OwnMet K.l y bytes mL rt [] rm Z h n0 (.ref a :: argsL).toArray P) {ps : List FieldType} {r : Option FieldType} (hpd : parseMethodDescriptor y.desc = some ⟨ps, r⟩) (hlen : argsL.length = ps.length)
    (hst : st = argsL.reverse ++ .ref a :: rest) (hsz : Ls.length = maxL) (hW : (rest.map fun v => v.category).sum ≤ W) (hf : rm.frames + 1 ≤ R.frames) (hl : W + (mL + 11) + rm.locals ≤ R.locals) (hc : cells + rm.cells ≤ R.cells) (hs : slots + rm.slots ≤ R.slots)
    (g : ∀ v h', P v h' → Go K h' (cells + rm.cells) (slots + rm.slots) pc' Ls (v.toList ++ rest)) : Go K h cells slots pc Ls st := by
  obtain ⟨hx, hby, hml, hown, hnm, hret, hlk, hZ, hR, hn, hPost⟩ := C
  subst hp hst
  intro T locs X eT N
  obtain ⟨cq, kq, qa, qb, qc⟩ := isOf hZ eT E
  obtain ⟨v, vm₁, ⟨T', L', k', n'⟩, -, X', ⟨Lc, hQ, l1, y1, z1⟩, st'⟩ := X.virtualBack hx (y := y) (z := y) hown (mvT hZ w1) (mvT hZ w2) (notFace_of_selects (args := #[]) (mvT hZ w5)) (mvT hZ w5) (mvT hZ w6) hy (backOf (W := W) (Q := fun v h L => Fr n0 L ∧ P v h) hM hZ w4 w3 (by rw [hR]; exact hf) (by rw [hR]; exact hl)) qa qc (g := mkF K.m pc Ls.toArray (argsL.reverse ++ .ref a :: rest)) rfl (by rw [hml]; simpa using hsz) (Steps.refl _) (argsL := argsL) (rest := rest) (lenOf hpd hlen) rfl (by show 2 * 0 + _ ≤ _; simpa using hW) (hb hby hd) (fun _ _ => ⟨rfl, eT, by rw [hR]; exact hc, by rw [hR]; exact hs⟩)
  dsimp only [Pt.U, Pt.locs, Pt.cells, Pt.slots] at X' l1 y1 z1 st' hQ
  subst l1 y1 z1
  exact OwnDone.of (fun t q => st'.trans q) (g v T'.heap hQ.2 T' _ X' rfl (Fr.app N (by rw [hn]; exact hQ.1)))
theorem w_callP (pc' W : Nat) {Cn : String} {y z : MethodName} {bytes : ByteArray} {mL i : Nat} {rt : Option FieldType} {rm : Room} {P : Option Value → Heap → Prop} (argsL : List Value) (C : Cx K Z own name code maxL ret R n0 Post) {a : Addr} (E : Exa Z h a Cn) (hd : decode code pc = .ok (.invokevirtual i, 3)) (hp : pc + 3 = pc')
    (w1 : (Cond.methodLink own i y).before a0 Z = true) (w7 : (Cond.privateMethod y).before a0 Z = true) (w5 : (Cond.selects z.cls z z).before a0 Z = true) (hzy : z.cls = y.cls) (w6 : (Cond.instanceMethod y).before a0 Z = true) (w3 : (Cond.initialized y.cls).before a0 Z = true) (w4 : (Cond.code y bytes mL rt).before a0 Z = true) (hy : y.cls ≠ "java/lang/invoke/MethodHandle" ∧ y.cls ≠ "java/lang/invoke/VarHandle")
    (hM : OwnMet K.l y bytes mL rt [] rm Z h n0 (.ref a :: argsL).toArray P) {ps : List FieldType} {r : Option FieldType} (hpd : parseMethodDescriptor y.desc = some ⟨ps, r⟩) (hlen : argsL.length = ps.length)
    (hst : st = argsL.reverse ++ .ref a :: rest) (hsz : Ls.length = maxL) (hW : (rest.map fun v => v.category).sum ≤ W) (hf : rm.frames + 1 ≤ R.frames) (hl : W + (mL + 11) + rm.locals ≤ R.locals) (hc : cells + rm.cells ≤ R.cells) (hs : slots + rm.slots ≤ R.slots)
    (g : ∀ v h', P v h' → Go K h' (cells + rm.cells) (slots + rm.slots) pc' Ls (v.toList ++ rest)) : Go K h cells slots pc Ls st := by
  obtain ⟨hx, hby, hml, hown, hnm, hret, hlk, hZ, hR, hn, hPost⟩ := C
  subst hp hst
  intro T locs X eT N
  have hpriv : K.s.PrivateAt y := Cond.privateMethod_at (mvP hZ w7 (args := #[]))
  have hsel : (Cond.selects y.cls y y).before K.args K.s = true := by
    obtain ⟨c2, r2, m2, q1, q2, q3, q4, kP, hkP, hkPi⟩ := Cond.selects_spec (mvT hZ w5 (args := #[]))
    exact selects_self_of_private (by rw [← hzy]; exact findClass_of_methodNamed q3) hkP hkPi hpriv (mvT hZ w6) hy
  obtain ⟨cq, q1, q2⟩ := E.cell
  obtain ⟨v, vm₁, ⟨T', L', k', n'⟩, -, X', ⟨Lc, hQ, l1, y1, z1⟩, st'⟩ := X.privateBack hx (y := y) hown (mvT hZ w1) (mvT hZ w6) hsel hpriv (mvT hZ w4) hy (backOf (W := W) (Q := fun v h L => Fr n0 L ∧ P v h) hM hZ w4 w3 (by rw [hR]; exact hf) (by rw [hR]; exact hl)) (g := mkF K.m pc Ls.toArray (argsL.reverse ++ .ref a :: rest)) rfl (by rw [hml]; simpa using hsz) (Steps.refl _) (a := a) (by rw [eT]; exact q1) q2 (argsL := argsL) (rest := rest) (lenOf hpd hlen) rfl (by show 2 * 0 + _ ≤ _; simpa using hW) (hb hby hd) (fun _ _ => ⟨rfl, eT, by rw [hR]; exact hc, by rw [hR]; exact hs⟩)
  dsimp only [Pt.U, Pt.locs, Pt.cells, Pt.slots] at X' l1 y1 z1 st' hQ
  subst l1 y1 z1
  exact OwnDone.of (fun t q => st'.trans q) (g v T'.heap hQ.2 T' _ X' rfl (Fr.app N (by rw [hn]; exact hQ.1)))
theorem Go.more {c' s' : Nat} (g : Go K h c' s' pc Ls st) (h1 : cells ≤ c') (h2 : slots ≤ s') : Go K h cells slots pc Ls st := fun T locs X e N => g T locs (X.more h1 h2) e N
end OwnLaws
/-! 8. numbers -/
theorem own_un (x : Int32) : (x.toUInt32.toNat : Int) = x.toInt % 4294967296 := by
  have h1 : x.toInt = x.toBitVec.toInt := rfl
  have h2 : x.toUInt32.toNat = x.toBitVec.toNat := rfl
  rw [h1, h2, BitVec.toInt_eq_toNat_cond]
  have := x.toBitVec.isLt
  split <;> omega
theorem own_ul (x : Int64) : (x.toUInt64.toNat : Int) = x.toInt % 18446744073709551616 := by
  have h1 : x.toInt = x.toBitVec.toInt := rfl
  have h2 : x.toUInt64.toNat = x.toBitVec.toNat := rfl
  rw [h1, h2, BitVec.toInt_eq_toNat_cond]
  have := x.toBitVec.isLt
  split <;> omega
theorem own_in (u : UInt32) : (u.toInt32).toInt = ((u.toNat : Int) + 2147483648) % 4294967296 - 2147483648 := by
  have h1 : (u.toInt32).toInt = u.toBitVec.toInt := rfl
  have h2 : u.toNat = u.toBitVec.toNat := rfl
  rw [h1, h2, BitVec.toInt_eq_toNat_cond]
  have := u.toBitVec.isLt
  split <;> omega
theorem own_il (u : UInt64) : (u.toInt64).toInt = ((u.toNat : Int) + 9223372036854775808) % 18446744073709551616 - 9223372036854775808 := by
  have h1 : (u.toInt64).toInt = u.toBitVec.toInt := rfl
  have h2 : u.toNat = u.toBitVec.toNat := rfl
  rw [h1, h2, BitVec.toInt_eq_toNat_cond]
  have := u.toBitVec.isLt
  split <;> omega
theorem own_i2b (x : Int32) : (x.toInt8.toInt32).toInt = (x.toInt + 128) % 256 - 128 := by
  rw [Int8.toInt_toInt32, Int32.toInt_toInt8, Int.bmod_def]
  split <;> omega
theorem own_u16 (u : UInt16) : (u.toUInt32.toInt32).toInt = u.toNat := by
  have hu := u.toNat_lt
  rw [own_in, UInt16.toNat_toUInt32]
  omega
theorem own_i2c (x : Int32) : (x.toUInt32.toUInt16.toUInt32.toInt32).toInt = x.toInt % 65536 := by
  rw [own_u16, UInt32.toNat_toUInt16]
  have := own_un x
  omega
theorem own_l2i (x : Int64) : (x.toInt32).toInt = (x.toInt + 2147483648) % 4294967296 - 2147483648 := by
  rw [Int64.toInt_toInt32, Int.bmod_def]
  split <;> omega
theorem own_i2l (x : Int32) : (x.toInt64).toInt = x.toInt := Int32.toInt_toInt64 x
theorem own_iadd (x y : Int32) : (x + y).toInt = (x.toInt + y.toInt + 2147483648) % 4294967296 - 2147483648 := by
  rw [Int32.toInt_add, Int.bmod_def]; split <;> omega
theorem own_isub (x y : Int32) : (x - y).toInt = (x.toInt - y.toInt + 2147483648) % 4294967296 - 2147483648 := by
  rw [Int32.toInt_sub, Int.bmod_def]; split <;> omega
theorem own_imul (x y : Int32) : (x * y).toInt = (x.toInt * y.toInt + 2147483648) % 4294967296 - 2147483648 := by
  rw [Int32.toInt_mul, Int.bmod_def]; split <;> omega
theorem own_ladd (x y : Int64) : (x + y).toInt = (x.toInt + y.toInt + 9223372036854775808) % 18446744073709551616 - 9223372036854775808 := by
  rw [Int64.toInt_add, Int.bmod_def]; split <;> omega
theorem own_lsub (x y : Int64) : (x - y).toInt = (x.toInt - y.toInt + 9223372036854775808) % 18446744073709551616 - 9223372036854775808 := by
  rw [Int64.toInt_sub, Int.bmod_def]; split <;> omega
theorem own_iushr (x : Int32) {n : UInt32} (k : Nat) (hn : n.toNat = k) (h0 : 0 < k) (hk : k < 32) : ((x.toUInt32 >>> n).toInt32).toInt = x.toInt % 4294967296 / 2 ^ k := by
  have h1 : (x.toUInt32 >>> n).toNat = x.toUInt32.toNat / 2 ^ k := by rw [UInt32.toNat_shiftRight, hn, Nat.mod_eq_of_lt hk, Nat.shiftRight_eq_div_pow]
  have h2 := own_un x
  have h3 : x.toUInt32.toNat / 2 ^ k < 2147483648 := by
    have q : x.toUInt32.toNat < 4294967296 := x.toUInt32.toNat_lt
    have r : 2 ^ 1 ≤ 2 ^ k := Nat.pow_le_pow_right (by omega) h0
    exact Nat.div_lt_of_lt_mul (by omega)
  rw [own_in, h1, ← h2]
  have h4 : ((x.toUInt32.toNat : Int)) / 2 ^ k = ((x.toUInt32.toNat / 2 ^ k : Nat) : Int) := by simp
  rw [h4]
  omega
theorem own_lushr (x : Int64) {n : UInt64} (k : Nat) (hn : n.toNat = k) (h0 : 0 < k) (hk : k < 64) : ((x.toUInt64 >>> n).toInt64).toInt = x.toInt % 18446744073709551616 / 2 ^ k := by
  have h1 : (x.toUInt64 >>> n).toNat = x.toUInt64.toNat / 2 ^ k := by rw [UInt64.toNat_shiftRight, hn, Nat.mod_eq_of_lt hk, Nat.shiftRight_eq_div_pow]
  have h2 := own_ul x
  have h3 : x.toUInt64.toNat / 2 ^ k < 9223372036854775808 := by
    have q : x.toUInt64.toNat < 18446744073709551616 := x.toUInt64.toNat_lt
    have r : 2 ^ 1 ≤ 2 ^ k := Nat.pow_le_pow_right (by omega) h0
    exact Nat.div_lt_of_lt_mul (by omega)
  rw [own_il, h1, ← h2]
  have h4 : ((x.toUInt64.toNat : Int)) / 2 ^ k = ((x.toUInt64.toNat / 2 ^ k : Nat) : Int) := by simp
  rw [h4]
  omega
theorem own_mask (x m : Int32) (k : Nat) (hk : k < 32) (hm : m.toBitVec.toNat = 2 ^ k - 1) : (x &&& m).toInt = x.toInt % 2 ^ k := Jvm.Kit.i32_mask x m hk hm
theorem own_maskL (x m : Int64) (k : Nat) (hk : k < 64) (hm : m.toBitVec.toNat = 2 ^ k - 1) : (x &&& m).toInt = x.toInt % 2 ^ k := Jvm.Kit.i64_mask x m hk hm
theorem own_orN (a b q k : Nat) (ha : a < 2 ^ k) (hb : b = 2 ^ k * q) : a ||| b = a + b := by
  rw [Nat.or_comm, hb, ← Nat.two_pow_add_eq_or_of_lt ha, Nat.add_comm]
theorem own_or (x y : Int32) (k : Nat) (q : Nat) (h0 : 0 ≤ x.toInt) (h1 : x.toInt < 2 ^ k) (h2 : y.toInt = 2 ^ k * (q : Int)) (h3 : x.toInt + y.toInt < 2147483648) : (x ||| y).toInt = x.toInt + y.toInt := by
  have e1 := own_un x; have e2 := own_un y
  have n2 : (0 : Int) ≤ y.toInt := by rw [h2]; exact Int.mul_nonneg (Int.le_of_lt (Int.pow_pos (by decide))) (by omega)
  have a1 : x.toUInt32.toNat < 2 ^ k := by
    have : (x.toUInt32.toNat : Int) < ((2 ^ k : Nat) : Int) := by rw [e1, Int.natCast_pow]; have := x.toInt_lt; have := Int.emod_eq_of_lt h0 (by omega : x.toInt < 4294967296); rw [this]; exact h1
    omega
  have a2 : y.toUInt32.toNat = 2 ^ k * q := by
    have : (y.toUInt32.toNat : Int) = ((2 ^ k * q : Nat) : Int) := by rw [e2, Int.natCast_mul, Int.natCast_pow]; have := y.toInt_lt; rw [Int.emod_eq_of_lt n2 (by omega)]; exact h2
    omega
  have e3 : (x ||| y).toUInt32.toNat = x.toUInt32.toNat ||| y.toUInt32.toNat := rfl
  have e4 := own_un (x ||| y)
  rw [e3, own_orN _ _ q k a1 a2] at e4
  have r1 := (x ||| y).toInt_lt; have r2 := (x ||| y).le_toInt
  have s1 := x.toInt_lt; have s2 := y.toInt_lt
  omega
theorem own_xor1 (x : Int32) : (x ^^^ 1).toInt = x.toInt + 1 - 2 * (x.toInt % 2) := by
  have e1 := own_un x
  have e3 : (x ^^^ 1).toUInt32.toNat = x.toUInt32.toNat ^^^ 1 := rfl
  have e4 := own_un (x ^^^ 1)
  rw [e3] at e4
  have d1 : (x.toUInt32.toNat ^^^ 1) / 2 = x.toUInt32.toNat / 2 := by rw [Nat.xor_div_two]; simp
  have d2 : (x.toUInt32.toNat ^^^ 1) % 2 = (x.toUInt32.toNat + 1) % 2 := by
    have t0 : (x.toUInt32.toNat ^^^ 1).testBit 0 = (x.toUInt32.toNat.testBit 0 ^^ (1 : Nat).testBit 0) := Nat.testBit_xor _ _ _
    rw [Nat.testBit_zero, Nat.testBit_zero, Nat.testBit_zero] at t0
    rcases Nat.mod_two_eq_zero_or_one x.toUInt32.toNat with q | q <;> rcases Nat.mod_two_eq_zero_or_one (x.toUInt32.toNat ^^^ 1) with r | r <;> rw [q, r] at t0 <;> first | (exfalso; revert t0; decide) | omega
  have r1 := (x ^^^ 1).toInt_lt; have r2 := (x ^^^ 1).le_toInt
  have s1 := x.toInt_lt; have s2 := x.le_toInt
  omega
theorem own_eqi {x y : Int32} : x = y ↔ x.toInt = y.toInt := Int32.toInt_inj.symm
theorem own_eqli {x y : Int64} : x = y ↔ x.toInt = y.toInt := Int64.toInt_inj.symm
theorem own_eq {x y : Int32} (h : x.toInt = y.toInt) : x = y := Int32.toInt_inj.mp h
theorem own_eqL {x y : Int64} (h : x.toInt = y.toInt) : x = y := Int64.toInt_inj.mp h
theorem own_ne {x y : Int32} (h : ¬ x = y) : x.toInt ≠ y.toInt := fun q => h (Int32.toInt_inj.mp q)
theorem own_neL {x y : Int64} (h : ¬ x = y) : x.toInt ≠ y.toInt := fun q => h (Int64.toInt_inj.mp q)
theorem own_or32N (n : Nat) : n ||| 32 = n + 32 - 32 * (n / 32 % 2) := by
  have hs : ∀ s, s < 64 → s ||| 32 = s + 32 - 32 * (s / 32 % 2) ∧ s ||| 32 < 64 := by decide
  have h1 := hs (n % 64) (Nat.mod_lt _ (by decide))
  have h2 : n = 2 ^ 6 * (n / 64) ||| (n % 64) := by rw [← Nat.two_pow_add_eq_or_of_lt (i := 6) (Nat.mod_lt _ (by decide))]; omega
  have h3 : n ||| 32 = 2 ^ 6 * (n / 64) + (n % 64 ||| 32) := by
    rw [Nat.two_pow_add_eq_or_of_lt (i := 6) h1.2, ← Nat.or_assoc, ← h2]
  rw [h3, h1.1]
  omega
theorem own_or32 (x : Int32) (h0 : 0 ≤ x.toInt) (h1 : x.toInt < 65536) : (x ||| 32).toInt = x.toInt + 32 - 32 * (x.toInt / 32 % 2) := by
  have e1 := own_un x; have e4 := own_un (x ||| 32)
  have e3 : (x ||| 32).toUInt32.toNat = x.toUInt32.toNat ||| 32 := rfl
  rw [e3, own_or32N] at e4
  have r1 := (x ||| 32).toInt_lt; have r2 := (x ||| 32).le_toInt
  omega
theorem d1_0 : decode prog_109_method_9_code 0 = .ok (.aload_n 0, 1) := by decide +kernel
theorem d1_1 : decode prog_109_method_9_code 1 = .ok (.iload_n 1, 1) := by decide +kernel
theorem d1_2 : decode prog_109_method_9_code 2 = .ok (.iinc 1 1, 3) := by decide +kernel
theorem d1_5 : decode prog_109_method_9_code 5 = .ok (.baload, 1) := by decide +kernel
theorem d1_6 : decode prog_109_method_9_code 6 = .ok (.istore_n 2, 1) := by decide +kernel
theorem d1_7 : decode prog_109_method_9_code 7 = .ok (.iload_n 2, 1) := by decide +kernel
theorem d1_8 : decode prog_109_method_9_code 8 = .ok (.bipush 127, 2) := by decide +kernel
theorem d1_10 : decode prog_109_method_9_code 10 = .ok (.iand, 1) := by decide +kernel
theorem d1_11 : decode prog_109_method_9_code 11 = .ok (.istore_n 3, 1) := by decide +kernel
theorem d1_12 : decode prog_109_method_9_code 12 = .ok (.bipush 7, 2) := by decide +kernel
theorem d1_14 : decode prog_109_method_9_code 14 = .ok (.istore 4, 2) := by decide +kernel
theorem d1_16 : decode prog_109_method_9_code 16 = .ok (.iload_n 2, 1) := by decide +kernel
theorem d1_17 : decode prog_109_method_9_code 17 = .ok (.ifCond .ge 26, 3) := by decide +kernel
theorem d1_20 : decode prog_109_method_9_code 20 = .ok (.aload_n 0, 1) := by decide +kernel
theorem d1_21 : decode prog_109_method_9_code 21 = .ok (.iload_n 1, 1) := by decide +kernel
theorem d1_22 : decode prog_109_method_9_code 22 = .ok (.iinc 1 1, 3) := by decide +kernel
theorem d1_25 : decode prog_109_method_9_code 25 = .ok (.baload, 1) := by decide +kernel
theorem d1_26 : decode prog_109_method_9_code 26 = .ok (.istore_n 2, 1) := by decide +kernel
theorem d1_27 : decode prog_109_method_9_code 27 = .ok (.iload_n 3, 1) := by decide +kernel
theorem d1_28 : decode prog_109_method_9_code 28 = .ok (.iload_n 2, 1) := by decide +kernel
theorem d1_29 : decode prog_109_method_9_code 29 = .ok (.bipush 127, 2) := by decide +kernel
theorem d1_31 : decode prog_109_method_9_code 31 = .ok (.iand, 1) := by decide +kernel
theorem d1_32 : decode prog_109_method_9_code 32 = .ok (.iload 4, 2) := by decide +kernel
theorem d1_34 : decode prog_109_method_9_code 34 = .ok (.ishl, 1) := by decide +kernel
theorem d1_35 : decode prog_109_method_9_code 35 = .ok (.ior, 1) := by decide +kernel
theorem d1_36 : decode prog_109_method_9_code 36 = .ok (.istore_n 3, 1) := by decide +kernel
theorem d1_37 : decode prog_109_method_9_code 37 = .ok (.iinc 4 7, 3) := by decide +kernel
theorem d1_40 : decode prog_109_method_9_code 40 = .ok (.goto (-24), 3) := by decide +kernel
theorem d1_43 : decode prog_109_method_9_code 43 = .ok (.iload_n 1, 1) := by decide +kernel
theorem d1_44 : decode prog_109_method_9_code 44 = .ok (.i2l, 1) := by decide +kernel
theorem d1_45 : decode prog_109_method_9_code 45 = .ok (.bipush 32, 2) := by decide +kernel
theorem d1_47 : decode prog_109_method_9_code 47 = .ok (.lshl, 1) := by decide +kernel
theorem d1_48 : decode prog_109_method_9_code 48 = .ok (.iload_n 3, 1) := by decide +kernel
theorem d1_49 : decode prog_109_method_9_code 49 = .ok (.i2l, 1) := by decide +kernel
theorem d1_50 : decode prog_109_method_9_code 50 = .ok (.ldc2_w 89, 3) := by decide +kernel
theorem d1_53 : decode prog_109_method_9_code 53 = .ok (.land, 1) := by decide +kernel
theorem d1_54 : decode prog_109_method_9_code 54 = .ok (.lor, 1) := by decide +kernel
theorem d1_55 : decode prog_109_method_9_code 55 = .ok (.lreturn, 1) := by decide +kernel
theorem pn_com_example_crestline_crestline_index_PostingCursor_Numbers : plainName "com/example/crestline/crestline/index/PostingCursor$Numbers" = true := by first | (simp [plainName, overriddenIn]; done) | decide +kernel
theorem pd_aBI_to_J : parseMethodDescriptor "([BI)J" = some ⟨[(.array .byte), .int], some .long⟩ := by decide +kernel
theorem pn_com_example_crestline_crestline_index_NumbersDecodePinLaw : plainName "com/example/crestline/crestline/index/NumbersDecodePinLaw" = true := by first | (simp [plainName, overriddenIn]; done) | decide +kernel
theorem pd_IIJI_to_Z : parseMethodDescriptor "(IIJI)Z" = some ⟨[.int, .int, .long, .int], some .boolean⟩ := by decide +kernel
theorem own_shlN (x n : Int32) (k : Nat) (hn : (n.toBitVec.smod 32).toNat = k) : ((x <<< n).toInt) % 4294967296 = (x.toInt * 2 ^ k) % 4294967296 := by
  have e1 : (x <<< n).toBitVec = x.toBitVec <<< k := by
    have : (x <<< n).toBitVec = x.toBitVec <<< (n.toBitVec.smod 32) := rfl
    rw [this, BitVec.shiftLeft_eq', hn]
  have e2 : (x <<< n).toInt = (x <<< n).toBitVec.toInt := rfl
  have e3 : x.toInt = x.toBitVec.toInt := rfl
  rw [e2, e1, BitVec.toInt_shiftLeft, Nat.shiftLeft_eq, e3, BitVec.toInt_eq_toNat_cond]
  have hm : ∀ z : Int, z.bmod (2 ^ 32) % 4294967296 = z % 4294967296 := fun z => by rw [Int.bmod_def]; split <;> omega
  rw [hm]
  split
  · push_cast; rfl
  · have hk : ((x.toBitVec.toNat * 2 ^ k : Nat) : Int) = (x.toBitVec.toNat : Int) * 2 ^ k := by rw [Int.natCast_mul, Int.natCast_pow]; rfl
    have h32 : ((2 ^ 32 : Nat) : Int) = 4294967296 := by decide
    have this : ((4294967296 : Int) * 2 ^ k) % 4294967296 = 0 := Int.mul_emod_right _ _
    rw [h32, hk, Int.sub_mul, Int.sub_emod, this, Int.sub_zero, Int.emod_emod]
theorem own_orU (x y : Int32) (k q : Nat) (h1 : x.toInt % 4294967296 < 2 ^ k) (h2 : y.toInt % 4294967296 = 2 ^ k * (q : Int)) : (x ||| y).toInt % 4294967296 = x.toInt % 4294967296 + y.toInt % 4294967296 := by
  have e1 := own_un x; have e2 := own_un y; have e4 := own_un (x ||| y)
  have e3 : (x ||| y).toUInt32.toNat = x.toUInt32.toNat ||| y.toUInt32.toNat := rfl
  have a1 : x.toUInt32.toNat < 2 ^ k := by
    have : (x.toUInt32.toNat : Int) < ((2 ^ k : Nat) : Int) := by rw [e1]; push_cast; exact h1
    omega
  have a2 : y.toUInt32.toNat = 2 ^ k * q := by
    have : (y.toUInt32.toNat : Int) = ((2 ^ k * q : Nat) : Int) := by rw [e2]; push_cast; exact h2
    omega
  rw [e3, own_orN _ _ q k a1 a2] at e4
  omega
theorem own_orL (x y : Int64) (q : Nat) (h1 : 0 ≤ x.toInt) (h2 : x.toInt < 4294967296) (h3 : y.toInt = 4294967296 * (q : Int)) (h4 : q < 1000) : (y ||| x).toInt = y.toInt + x.toInt := by
  have e1 := own_ul x; have e2 := own_ul y; have e4 := own_ul (y ||| x)
  have e3 : (y ||| x).toUInt64.toNat = y.toUInt64.toNat ||| x.toUInt64.toNat := rfl
  rw [e3, Nat.or_comm, own_orN _ _ q 32 (by omega) (by omega)] at e4
  have r1 := (y ||| x).toInt_lt; have r2 := (y ||| x).le_toInt
  omega
theorem own_pack (p acc : Int32) (np : Nat) (hp : p.toInt = (np : Int)) (h : np < 1000) : ((p.toInt64 <<< ((32 : Int32) &&& 0x3f).toInt64) ||| (acc.toInt64 &&& (4294967295 : Int64))).toInt = 4294967296 * (np : Int) + acc.toInt % 4294967296 := by
  have s1 : (p.toInt64 <<< ((32 : Int32) &&& 0x3f).toInt64).toInt = 4294967296 * (np : Int) := by
    rw [Jvm.Kit.i64_shl _ _ (k := 32) (by decide) (by rw [own_i2l]; omega) (by rw [own_i2l]; omega), own_i2l]; omega
  have s2 : (acc.toInt64 &&& (4294967295 : Int64)).toInt = acc.toInt % 4294967296 := by rw [own_maskL _ _ 32 (by decide) (by decide), own_i2l]; omega
  rw [own_orL _ _ np (by omega) (by omega) s1 h, s1, s2]
set_option maxRecDepth 65536 in
set_option maxHeartbeats 40000000 in
theorem rm_dec1 (l : Launch) (Z : State) (a0 : Array Value) (hw : ∀ d ∈ tables_1, d.before a0 Z = true) (ws : List Jvm.Cond) (a : Addr) (p : Int32) (np : Nat) (vs : List Int32) (b0 : Int32) (h0 : Heap) (n0 : Nat) (hz : n0 ≤ h0.size) (A : Ai Z h0 a .byte vs) (hp0 : p.toInt = (np : Int)) (h9 : np ≤ 9) (hb0 : vs[np + 0]? = some b0) (ps : 0 ≤ b0.toInt) :
    OwnMet l (⟨"com/example/crestline/crestline/index/PostingCursor$Numbers", "decode", "([BI)J"⟩ : MethodName) prog_109_method_9_code 5 (some .long) ws ({ frames := 0, cells := 0, slots := 0, locals := 0 } : Room) Z h0 n0 #[.ref a, .int p] (fun v h => (∃ z : Int64, v = some (.long z) ∧ z.toInt = 4294967296 * ((np + 1 : Nat) : Int) + (b0.toInt % 128 * 1)) ∧ h0 = h) := by
  refine OwnMet.of (own := "com/example/crestline/crestline/index/PostingCursor$Numbers") (name := "decode") (desc := "([BI)J") (Ls := [.val (.ref a), .val (.int p), .unset, .unset, .unset]) (plainFor_of_name pn_com_example_crestline_crestline_index_PostingCursor_Numbers) (fun m => by first | (simp [entryFrame, mkF, argsToLocals, Value.category]; done) | rfl) ?_
  intro K hK C
  have e0 : (0 : Int32).toInt = 0 := by decide
  have e1 : (1 : Int32).toInt = 1 := by decide
  refine w_aloadN 1 C d1_0 rfl rfl rfl ?_
  refine w_iloadN 2 C d1_1 rfl rfl ?_
  refine w_iinc (z := (p + (1 : Int32))) 5 [.val (.ref a), .val (.int (p + (1 : Int32))), .unset, .unset, .unset] C d1_2 rfl rfl rfl rfl ?_
  generalize hv_x1 : (p + (1 : Int32)) = x1
  refine w_baload 6 (np + 0) b0 C A d1_5 rfl (by omega) hb0 ?_
  have hp1 : x1.toInt = ((np + 1 : Nat) : Int) := by rw [← hv_x1, own_iadd, hp0, e1]; omega
  refine w_istoreN 7 [.val (.ref a), .val (.int x1), .val (.int b0), .unset, .unset] C d1_6 rfl rfl ?_
  refine w_iloadN 8 C d1_7 rfl rfl ?_
  refine w_bipush 10 (127 : Int32) C d1_8 rfl rfl ?_
  refine w_iand 11 C d1_10 rfl ?_
  refine w_istoreN 12 [.val (.ref a), .val (.int x1), .val (.int b0), .val (.int (b0 &&& (127 : Int32))), .unset] C d1_11 rfl rfl ?_
  generalize hv_x2 : (b0 &&& (127 : Int32)) = x2
  refine w_bipush 14 (7 : Int32) C d1_12 rfl rfl ?_
  refine w_istore 16 [.val (.ref a), .val (.int x1), .val (.int b0), .val (.int x2), .val (.int (7 : Int32))] C d1_14 rfl rfl ?_
  refine w_iloadN 17 C d1_16 rfl rfl ?_
  have hm0 := own_mask b0 127 7 (by decide) (by decide)
  have ha0 : x2.toInt % 4294967296 = b0.toInt % 128 * 1 := by rw [← hv_x2, hm0]; omega
  refine w_ifY 43 C d1_17 rfl (show (0 : Int32).toInt ≤ b0.toInt from (by omega)) ?_
  refine w_iloadN 44 C d1_43 rfl rfl ?_
  refine w_i2l 45 C d1_44 rfl ?_
  refine w_bipush 47 (32 : Int32) C d1_45 rfl rfl ?_
  refine w_lshl 48 C d1_47 rfl ?_
  refine w_iloadN 49 C d1_48 rfl rfl ?_
  refine w_i2l 50 C d1_49 rfl ?_
  refine w_ldc2 (v := (4294967295 : Int64)) 53 C d1_50 rfl (hw _ (List.mem_of_getElem? (i := 7) rfl)) ?_
  refine w_land 54 C d1_53 rfl ?_
  refine w_lor 55 C d1_54 rfl ?_
  refine w_retL C d1_55 (by decide) (by decide) ?_
  exact ⟨⟨_, rfl, by rw [own_pack x1 x2 (np + 1) hp1 (by omega), ha0]⟩, rfl⟩
set_option maxRecDepth 65536 in
set_option maxHeartbeats 40000000 in
theorem rm_dec2 (l : Launch) (Z : State) (a0 : Array Value) (hw : ∀ d ∈ tables_1, d.before a0 Z = true) (ws : List Jvm.Cond) (a : Addr) (p : Int32) (np : Nat) (vs : List Int32) (b0 b1 : Int32) (h0 : Heap) (n0 : Nat) (hz : n0 ≤ h0.size) (A : Ai Z h0 a .byte vs) (hp0 : p.toInt = (np : Int)) (h9 : np ≤ 9) (hb0 : vs[np + 0]? = some b0) (hb1 : vs[np + 1]? = some b1) (ng0 : b0.toInt < 0) (ps : 0 ≤ b1.toInt) :
    OwnMet l (⟨"com/example/crestline/crestline/index/PostingCursor$Numbers", "decode", "([BI)J"⟩ : MethodName) prog_109_method_9_code 5 (some .long) ws ({ frames := 0, cells := 0, slots := 0, locals := 0 } : Room) Z h0 n0 #[.ref a, .int p] (fun v h => (∃ z : Int64, v = some (.long z) ∧ z.toInt = 4294967296 * ((np + 2 : Nat) : Int) + (b0.toInt % 128 * 1 + b1.toInt % 128 * 128)) ∧ h0 = h) := by
  refine OwnMet.of (own := "com/example/crestline/crestline/index/PostingCursor$Numbers") (name := "decode") (desc := "([BI)J") (Ls := [.val (.ref a), .val (.int p), .unset, .unset, .unset]) (plainFor_of_name pn_com_example_crestline_crestline_index_PostingCursor_Numbers) (fun m => by first | (simp [entryFrame, mkF, argsToLocals, Value.category]; done) | rfl) ?_
  intro K hK C
  have e0 : (0 : Int32).toInt = 0 := by decide
  have e1 : (1 : Int32).toInt = 1 := by decide
  refine w_aloadN 1 C d1_0 rfl rfl rfl ?_
  refine w_iloadN 2 C d1_1 rfl rfl ?_
  refine w_iinc (z := (p + (1 : Int32))) 5 [.val (.ref a), .val (.int (p + (1 : Int32))), .unset, .unset, .unset] C d1_2 rfl rfl rfl rfl ?_
  generalize hv_x1 : (p + (1 : Int32)) = x1
  refine w_baload 6 (np + 0) b0 C A d1_5 rfl (by omega) hb0 ?_
  have hp1 : x1.toInt = ((np + 1 : Nat) : Int) := by rw [← hv_x1, own_iadd, hp0, e1]; omega
  refine w_istoreN 7 [.val (.ref a), .val (.int x1), .val (.int b0), .unset, .unset] C d1_6 rfl rfl ?_
  refine w_iloadN 8 C d1_7 rfl rfl ?_
  refine w_bipush 10 (127 : Int32) C d1_8 rfl rfl ?_
  refine w_iand 11 C d1_10 rfl ?_
  refine w_istoreN 12 [.val (.ref a), .val (.int x1), .val (.int b0), .val (.int (b0 &&& (127 : Int32))), .unset] C d1_11 rfl rfl ?_
  generalize hv_x2 : (b0 &&& (127 : Int32)) = x2
  refine w_bipush 14 (7 : Int32) C d1_12 rfl rfl ?_
  refine w_istore 16 [.val (.ref a), .val (.int x1), .val (.int b0), .val (.int x2), .val (.int (7 : Int32))] C d1_14 rfl rfl ?_
  refine w_iloadN 17 C d1_16 rfl rfl ?_
  have hm0 := own_mask b0 127 7 (by decide) (by decide)
  have ha0 : x2.toInt % 4294967296 = b0.toInt % 128 * 1 := by rw [← hv_x2, hm0]; omega
  refine w_ifN 20 C d1_17 rfl (show ¬ ((0 : Int32).toInt ≤ b0.toInt) from (by omega)) ?_
  refine w_aloadN 21 C d1_20 rfl rfl rfl ?_
  refine w_iloadN 22 C d1_21 rfl rfl ?_
  refine w_iinc (z := (x1 + (1 : Int32))) 25 [.val (.ref a), .val (.int (x1 + (1 : Int32))), .val (.int b0), .val (.int x2), .val (.int (7 : Int32))] C d1_22 rfl rfl rfl rfl ?_
  generalize hv_x3 : (x1 + (1 : Int32)) = x3
  refine w_baload 26 (np + 1) b1 C A d1_25 rfl hp1 hb1 ?_
  have hp2 : x3.toInt = ((np + 2 : Nat) : Int) := by rw [← hv_x3, own_iadd, hp1, e1]; omega
  refine w_istoreN 27 [.val (.ref a), .val (.int x3), .val (.int b1), .val (.int x2), .val (.int (7 : Int32))] C d1_26 rfl rfl ?_
  refine w_iloadN 28 C d1_27 rfl rfl ?_
  refine w_iloadN 29 C d1_28 rfl rfl ?_
  refine w_bipush 31 (127 : Int32) C d1_29 rfl rfl ?_
  refine w_iand 32 C d1_31 rfl ?_
  refine w_iload 34 C d1_32 rfl rfl ?_
  refine w_ishl 35 C d1_34 rfl ?_
  refine w_ior 36 C d1_35 rfl ?_
  refine w_istoreN 37 [.val (.ref a), .val (.int x3), .val (.int b1), .val (.int (x2 ||| ((b1 &&& (127 : Int32)) <<< ((7 : Int32) &&& 31)))), .val (.int (7 : Int32))] C d1_36 rfl rfl ?_
  generalize hv_x4 : (x2 ||| ((b1 &&& (127 : Int32)) <<< ((7 : Int32) &&& 31))) = x4
  refine w_iinc (z := (14 : Int32)) 40 [.val (.ref a), .val (.int x3), .val (.int b1), .val (.int x4), .val (.int (14 : Int32))] C d1_37 rfl rfl rfl rfl ?_
  refine w_goto 16 C d1_40 rfl ?_
  refine w_iloadN 17 C d1_16 rfl rfl ?_
  have hm1 := own_mask b1 127 7 (by decide) (by decide)
  have hs1 := own_shlN (b1 &&& 127) ((7 : Int32) &&& 31) 7 (by decide)
  have ha1 : x4.toInt % 4294967296 = b0.toInt % 128 * 1 + b1.toInt % 128 * 128 := by
    rw [← hv_x4, own_orU _ _ 7 (b1.toInt % 128).toNat (by rw [ha0]; omega) (by rw [hs1, hm1]; omega), ha0, hs1, hm1]; omega
  refine w_ifY 43 C d1_17 rfl (show (0 : Int32).toInt ≤ b1.toInt from (by omega)) ?_
  refine w_iloadN 44 C d1_43 rfl rfl ?_
  refine w_i2l 45 C d1_44 rfl ?_
  refine w_bipush 47 (32 : Int32) C d1_45 rfl rfl ?_
  refine w_lshl 48 C d1_47 rfl ?_
  refine w_iloadN 49 C d1_48 rfl rfl ?_
  refine w_i2l 50 C d1_49 rfl ?_
  refine w_ldc2 (v := (4294967295 : Int64)) 53 C d1_50 rfl (hw _ (List.mem_of_getElem? (i := 7) rfl)) ?_
  refine w_land 54 C d1_53 rfl ?_
  refine w_lor 55 C d1_54 rfl ?_
  refine w_retL C d1_55 (by decide) (by decide) ?_
  exact ⟨⟨_, rfl, by rw [own_pack x3 x4 (np + 2) hp2 (by omega), ha1]⟩, rfl⟩
set_option maxRecDepth 65536 in
set_option maxHeartbeats 40000000 in
theorem rm_dec3 (l : Launch) (Z : State) (a0 : Array Value) (hw : ∀ d ∈ tables_1, d.before a0 Z = true) (ws : List Jvm.Cond) (a : Addr) (p : Int32) (np : Nat) (vs : List Int32) (b0 b1 b2 : Int32) (h0 : Heap) (n0 : Nat) (hz : n0 ≤ h0.size) (A : Ai Z h0 a .byte vs) (hp0 : p.toInt = (np : Int)) (h9 : np ≤ 9) (hb0 : vs[np + 0]? = some b0) (hb1 : vs[np + 1]? = some b1) (hb2 : vs[np + 2]? = some b2) (ng0 : b0.toInt < 0) (ng1 : b1.toInt < 0) (ps : 0 ≤ b2.toInt) :
    OwnMet l (⟨"com/example/crestline/crestline/index/PostingCursor$Numbers", "decode", "([BI)J"⟩ : MethodName) prog_109_method_9_code 5 (some .long) ws ({ frames := 0, cells := 0, slots := 0, locals := 0 } : Room) Z h0 n0 #[.ref a, .int p] (fun v h => (∃ z : Int64, v = some (.long z) ∧ z.toInt = 4294967296 * ((np + 3 : Nat) : Int) + (b0.toInt % 128 * 1 + b1.toInt % 128 * 128 + b2.toInt % 128 * 16384)) ∧ h0 = h) := by
  refine OwnMet.of (own := "com/example/crestline/crestline/index/PostingCursor$Numbers") (name := "decode") (desc := "([BI)J") (Ls := [.val (.ref a), .val (.int p), .unset, .unset, .unset]) (plainFor_of_name pn_com_example_crestline_crestline_index_PostingCursor_Numbers) (fun m => by first | (simp [entryFrame, mkF, argsToLocals, Value.category]; done) | rfl) ?_
  intro K hK C
  have e0 : (0 : Int32).toInt = 0 := by decide
  have e1 : (1 : Int32).toInt = 1 := by decide
  refine w_aloadN 1 C d1_0 rfl rfl rfl ?_
  refine w_iloadN 2 C d1_1 rfl rfl ?_
  refine w_iinc (z := (p + (1 : Int32))) 5 [.val (.ref a), .val (.int (p + (1 : Int32))), .unset, .unset, .unset] C d1_2 rfl rfl rfl rfl ?_
  generalize hv_x1 : (p + (1 : Int32)) = x1
  refine w_baload 6 (np + 0) b0 C A d1_5 rfl (by omega) hb0 ?_
  have hp1 : x1.toInt = ((np + 1 : Nat) : Int) := by rw [← hv_x1, own_iadd, hp0, e1]; omega
  refine w_istoreN 7 [.val (.ref a), .val (.int x1), .val (.int b0), .unset, .unset] C d1_6 rfl rfl ?_
  refine w_iloadN 8 C d1_7 rfl rfl ?_
  refine w_bipush 10 (127 : Int32) C d1_8 rfl rfl ?_
  refine w_iand 11 C d1_10 rfl ?_
  refine w_istoreN 12 [.val (.ref a), .val (.int x1), .val (.int b0), .val (.int (b0 &&& (127 : Int32))), .unset] C d1_11 rfl rfl ?_
  generalize hv_x2 : (b0 &&& (127 : Int32)) = x2
  refine w_bipush 14 (7 : Int32) C d1_12 rfl rfl ?_
  refine w_istore 16 [.val (.ref a), .val (.int x1), .val (.int b0), .val (.int x2), .val (.int (7 : Int32))] C d1_14 rfl rfl ?_
  refine w_iloadN 17 C d1_16 rfl rfl ?_
  have hm0 := own_mask b0 127 7 (by decide) (by decide)
  have ha0 : x2.toInt % 4294967296 = b0.toInt % 128 * 1 := by rw [← hv_x2, hm0]; omega
  refine w_ifN 20 C d1_17 rfl (show ¬ ((0 : Int32).toInt ≤ b0.toInt) from (by omega)) ?_
  refine w_aloadN 21 C d1_20 rfl rfl rfl ?_
  refine w_iloadN 22 C d1_21 rfl rfl ?_
  refine w_iinc (z := (x1 + (1 : Int32))) 25 [.val (.ref a), .val (.int (x1 + (1 : Int32))), .val (.int b0), .val (.int x2), .val (.int (7 : Int32))] C d1_22 rfl rfl rfl rfl ?_
  generalize hv_x3 : (x1 + (1 : Int32)) = x3
  refine w_baload 26 (np + 1) b1 C A d1_25 rfl hp1 hb1 ?_
  have hp2 : x3.toInt = ((np + 2 : Nat) : Int) := by rw [← hv_x3, own_iadd, hp1, e1]; omega
  refine w_istoreN 27 [.val (.ref a), .val (.int x3), .val (.int b1), .val (.int x2), .val (.int (7 : Int32))] C d1_26 rfl rfl ?_
  refine w_iloadN 28 C d1_27 rfl rfl ?_
  refine w_iloadN 29 C d1_28 rfl rfl ?_
  refine w_bipush 31 (127 : Int32) C d1_29 rfl rfl ?_
  refine w_iand 32 C d1_31 rfl ?_
  refine w_iload 34 C d1_32 rfl rfl ?_
  refine w_ishl 35 C d1_34 rfl ?_
  refine w_ior 36 C d1_35 rfl ?_
  refine w_istoreN 37 [.val (.ref a), .val (.int x3), .val (.int b1), .val (.int (x2 ||| ((b1 &&& (127 : Int32)) <<< ((7 : Int32) &&& 31)))), .val (.int (7 : Int32))] C d1_36 rfl rfl ?_
  generalize hv_x4 : (x2 ||| ((b1 &&& (127 : Int32)) <<< ((7 : Int32) &&& 31))) = x4
  refine w_iinc (z := (14 : Int32)) 40 [.val (.ref a), .val (.int x3), .val (.int b1), .val (.int x4), .val (.int (14 : Int32))] C d1_37 rfl rfl rfl rfl ?_
  refine w_goto 16 C d1_40 rfl ?_
  refine w_iloadN 17 C d1_16 rfl rfl ?_
  have hm1 := own_mask b1 127 7 (by decide) (by decide)
  have hs1 := own_shlN (b1 &&& 127) ((7 : Int32) &&& 31) 7 (by decide)
  have ha1 : x4.toInt % 4294967296 = b0.toInt % 128 * 1 + b1.toInt % 128 * 128 := by
    rw [← hv_x4, own_orU _ _ 7 (b1.toInt % 128).toNat (by rw [ha0]; omega) (by rw [hs1, hm1]; omega), ha0, hs1, hm1]; omega
  refine w_ifN 20 C d1_17 rfl (show ¬ ((0 : Int32).toInt ≤ b1.toInt) from (by omega)) ?_
  refine w_aloadN 21 C d1_20 rfl rfl rfl ?_
  refine w_iloadN 22 C d1_21 rfl rfl ?_
  refine w_iinc (z := (x3 + (1 : Int32))) 25 [.val (.ref a), .val (.int (x3 + (1 : Int32))), .val (.int b1), .val (.int x4), .val (.int (14 : Int32))] C d1_22 rfl rfl rfl rfl ?_
  generalize hv_x5 : (x3 + (1 : Int32)) = x5
  refine w_baload 26 (np + 2) b2 C A d1_25 rfl hp2 hb2 ?_
  have hp3 : x5.toInt = ((np + 3 : Nat) : Int) := by rw [← hv_x5, own_iadd, hp2, e1]; omega
  refine w_istoreN 27 [.val (.ref a), .val (.int x5), .val (.int b2), .val (.int x4), .val (.int (14 : Int32))] C d1_26 rfl rfl ?_
  refine w_iloadN 28 C d1_27 rfl rfl ?_
  refine w_iloadN 29 C d1_28 rfl rfl ?_
  refine w_bipush 31 (127 : Int32) C d1_29 rfl rfl ?_
  refine w_iand 32 C d1_31 rfl ?_
  refine w_iload 34 C d1_32 rfl rfl ?_
  refine w_ishl 35 C d1_34 rfl ?_
  refine w_ior 36 C d1_35 rfl ?_
  refine w_istoreN 37 [.val (.ref a), .val (.int x5), .val (.int b2), .val (.int (x4 ||| ((b2 &&& (127 : Int32)) <<< ((14 : Int32) &&& 31)))), .val (.int (14 : Int32))] C d1_36 rfl rfl ?_
  generalize hv_x6 : (x4 ||| ((b2 &&& (127 : Int32)) <<< ((14 : Int32) &&& 31))) = x6
  refine w_iinc (z := (21 : Int32)) 40 [.val (.ref a), .val (.int x5), .val (.int b2), .val (.int x6), .val (.int (21 : Int32))] C d1_37 rfl rfl rfl rfl ?_
  refine w_goto 16 C d1_40 rfl ?_
  refine w_iloadN 17 C d1_16 rfl rfl ?_
  have hm2 := own_mask b2 127 7 (by decide) (by decide)
  have hs2 := own_shlN (b2 &&& 127) ((14 : Int32) &&& 31) 14 (by decide)
  have ha2 : x6.toInt % 4294967296 = b0.toInt % 128 * 1 + b1.toInt % 128 * 128 + b2.toInt % 128 * 16384 := by
    rw [← hv_x6, own_orU _ _ 14 (b2.toInt % 128).toNat (by rw [ha1]; omega) (by rw [hs2, hm2]; omega), ha1, hs2, hm2]; omega
  refine w_ifY 43 C d1_17 rfl (show (0 : Int32).toInt ≤ b2.toInt from (by omega)) ?_
  refine w_iloadN 44 C d1_43 rfl rfl ?_
  refine w_i2l 45 C d1_44 rfl ?_
  refine w_bipush 47 (32 : Int32) C d1_45 rfl rfl ?_
  refine w_lshl 48 C d1_47 rfl ?_
  refine w_iloadN 49 C d1_48 rfl rfl ?_
  refine w_i2l 50 C d1_49 rfl ?_
  refine w_ldc2 (v := (4294967295 : Int64)) 53 C d1_50 rfl (hw _ (List.mem_of_getElem? (i := 7) rfl)) ?_
  refine w_land 54 C d1_53 rfl ?_
  refine w_lor 55 C d1_54 rfl ?_
  refine w_retL C d1_55 (by decide) (by decide) ?_
  exact ⟨⟨_, rfl, by rw [own_pack x5 x6 (np + 3) hp3 (by omega), ha2]⟩, rfl⟩
set_option maxRecDepth 65536 in
set_option maxHeartbeats 40000000 in
theorem rm_dec4 (l : Launch) (Z : State) (a0 : Array Value) (hw : ∀ d ∈ tables_1, d.before a0 Z = true) (ws : List Jvm.Cond) (a : Addr) (p : Int32) (np : Nat) (vs : List Int32) (b0 b1 b2 b3 : Int32) (h0 : Heap) (n0 : Nat) (hz : n0 ≤ h0.size) (A : Ai Z h0 a .byte vs) (hp0 : p.toInt = (np : Int)) (h9 : np ≤ 9) (hb0 : vs[np + 0]? = some b0) (hb1 : vs[np + 1]? = some b1) (hb2 : vs[np + 2]? = some b2) (hb3 : vs[np + 3]? = some b3) (ng0 : b0.toInt < 0) (ng1 : b1.toInt < 0) (ng2 : b2.toInt < 0) (ps : 0 ≤ b3.toInt) :
    OwnMet l (⟨"com/example/crestline/crestline/index/PostingCursor$Numbers", "decode", "([BI)J"⟩ : MethodName) prog_109_method_9_code 5 (some .long) ws ({ frames := 0, cells := 0, slots := 0, locals := 0 } : Room) Z h0 n0 #[.ref a, .int p] (fun v h => (∃ z : Int64, v = some (.long z) ∧ z.toInt = 4294967296 * ((np + 4 : Nat) : Int) + (b0.toInt % 128 * 1 + b1.toInt % 128 * 128 + b2.toInt % 128 * 16384 + b3.toInt % 128 * 2097152)) ∧ h0 = h) := by
  refine OwnMet.of (own := "com/example/crestline/crestline/index/PostingCursor$Numbers") (name := "decode") (desc := "([BI)J") (Ls := [.val (.ref a), .val (.int p), .unset, .unset, .unset]) (plainFor_of_name pn_com_example_crestline_crestline_index_PostingCursor_Numbers) (fun m => by first | (simp [entryFrame, mkF, argsToLocals, Value.category]; done) | rfl) ?_
  intro K hK C
  have e0 : (0 : Int32).toInt = 0 := by decide
  have e1 : (1 : Int32).toInt = 1 := by decide
  refine w_aloadN 1 C d1_0 rfl rfl rfl ?_
  refine w_iloadN 2 C d1_1 rfl rfl ?_
  refine w_iinc (z := (p + (1 : Int32))) 5 [.val (.ref a), .val (.int (p + (1 : Int32))), .unset, .unset, .unset] C d1_2 rfl rfl rfl rfl ?_
  generalize hv_x1 : (p + (1 : Int32)) = x1
  refine w_baload 6 (np + 0) b0 C A d1_5 rfl (by omega) hb0 ?_
  have hp1 : x1.toInt = ((np + 1 : Nat) : Int) := by rw [← hv_x1, own_iadd, hp0, e1]; omega
  refine w_istoreN 7 [.val (.ref a), .val (.int x1), .val (.int b0), .unset, .unset] C d1_6 rfl rfl ?_
  refine w_iloadN 8 C d1_7 rfl rfl ?_
  refine w_bipush 10 (127 : Int32) C d1_8 rfl rfl ?_
  refine w_iand 11 C d1_10 rfl ?_
  refine w_istoreN 12 [.val (.ref a), .val (.int x1), .val (.int b0), .val (.int (b0 &&& (127 : Int32))), .unset] C d1_11 rfl rfl ?_
  generalize hv_x2 : (b0 &&& (127 : Int32)) = x2
  refine w_bipush 14 (7 : Int32) C d1_12 rfl rfl ?_
  refine w_istore 16 [.val (.ref a), .val (.int x1), .val (.int b0), .val (.int x2), .val (.int (7 : Int32))] C d1_14 rfl rfl ?_
  refine w_iloadN 17 C d1_16 rfl rfl ?_
  have hm0 := own_mask b0 127 7 (by decide) (by decide)
  have ha0 : x2.toInt % 4294967296 = b0.toInt % 128 * 1 := by rw [← hv_x2, hm0]; omega
  refine w_ifN 20 C d1_17 rfl (show ¬ ((0 : Int32).toInt ≤ b0.toInt) from (by omega)) ?_
  refine w_aloadN 21 C d1_20 rfl rfl rfl ?_
  refine w_iloadN 22 C d1_21 rfl rfl ?_
  refine w_iinc (z := (x1 + (1 : Int32))) 25 [.val (.ref a), .val (.int (x1 + (1 : Int32))), .val (.int b0), .val (.int x2), .val (.int (7 : Int32))] C d1_22 rfl rfl rfl rfl ?_
  generalize hv_x3 : (x1 + (1 : Int32)) = x3
  refine w_baload 26 (np + 1) b1 C A d1_25 rfl hp1 hb1 ?_
  have hp2 : x3.toInt = ((np + 2 : Nat) : Int) := by rw [← hv_x3, own_iadd, hp1, e1]; omega
  refine w_istoreN 27 [.val (.ref a), .val (.int x3), .val (.int b1), .val (.int x2), .val (.int (7 : Int32))] C d1_26 rfl rfl ?_
  refine w_iloadN 28 C d1_27 rfl rfl ?_
  refine w_iloadN 29 C d1_28 rfl rfl ?_
  refine w_bipush 31 (127 : Int32) C d1_29 rfl rfl ?_
  refine w_iand 32 C d1_31 rfl ?_
  refine w_iload 34 C d1_32 rfl rfl ?_
  refine w_ishl 35 C d1_34 rfl ?_
  refine w_ior 36 C d1_35 rfl ?_
  refine w_istoreN 37 [.val (.ref a), .val (.int x3), .val (.int b1), .val (.int (x2 ||| ((b1 &&& (127 : Int32)) <<< ((7 : Int32) &&& 31)))), .val (.int (7 : Int32))] C d1_36 rfl rfl ?_
  generalize hv_x4 : (x2 ||| ((b1 &&& (127 : Int32)) <<< ((7 : Int32) &&& 31))) = x4
  refine w_iinc (z := (14 : Int32)) 40 [.val (.ref a), .val (.int x3), .val (.int b1), .val (.int x4), .val (.int (14 : Int32))] C d1_37 rfl rfl rfl rfl ?_
  refine w_goto 16 C d1_40 rfl ?_
  refine w_iloadN 17 C d1_16 rfl rfl ?_
  have hm1 := own_mask b1 127 7 (by decide) (by decide)
  have hs1 := own_shlN (b1 &&& 127) ((7 : Int32) &&& 31) 7 (by decide)
  have ha1 : x4.toInt % 4294967296 = b0.toInt % 128 * 1 + b1.toInt % 128 * 128 := by
    rw [← hv_x4, own_orU _ _ 7 (b1.toInt % 128).toNat (by rw [ha0]; omega) (by rw [hs1, hm1]; omega), ha0, hs1, hm1]; omega
  refine w_ifN 20 C d1_17 rfl (show ¬ ((0 : Int32).toInt ≤ b1.toInt) from (by omega)) ?_
  refine w_aloadN 21 C d1_20 rfl rfl rfl ?_
  refine w_iloadN 22 C d1_21 rfl rfl ?_
  refine w_iinc (z := (x3 + (1 : Int32))) 25 [.val (.ref a), .val (.int (x3 + (1 : Int32))), .val (.int b1), .val (.int x4), .val (.int (14 : Int32))] C d1_22 rfl rfl rfl rfl ?_
  generalize hv_x5 : (x3 + (1 : Int32)) = x5
  refine w_baload 26 (np + 2) b2 C A d1_25 rfl hp2 hb2 ?_
  have hp3 : x5.toInt = ((np + 3 : Nat) : Int) := by rw [← hv_x5, own_iadd, hp2, e1]; omega
  refine w_istoreN 27 [.val (.ref a), .val (.int x5), .val (.int b2), .val (.int x4), .val (.int (14 : Int32))] C d1_26 rfl rfl ?_
  refine w_iloadN 28 C d1_27 rfl rfl ?_
  refine w_iloadN 29 C d1_28 rfl rfl ?_
  refine w_bipush 31 (127 : Int32) C d1_29 rfl rfl ?_
  refine w_iand 32 C d1_31 rfl ?_
  refine w_iload 34 C d1_32 rfl rfl ?_
  refine w_ishl 35 C d1_34 rfl ?_
  refine w_ior 36 C d1_35 rfl ?_
  refine w_istoreN 37 [.val (.ref a), .val (.int x5), .val (.int b2), .val (.int (x4 ||| ((b2 &&& (127 : Int32)) <<< ((14 : Int32) &&& 31)))), .val (.int (14 : Int32))] C d1_36 rfl rfl ?_
  generalize hv_x6 : (x4 ||| ((b2 &&& (127 : Int32)) <<< ((14 : Int32) &&& 31))) = x6
  refine w_iinc (z := (21 : Int32)) 40 [.val (.ref a), .val (.int x5), .val (.int b2), .val (.int x6), .val (.int (21 : Int32))] C d1_37 rfl rfl rfl rfl ?_
  refine w_goto 16 C d1_40 rfl ?_
  refine w_iloadN 17 C d1_16 rfl rfl ?_
  have hm2 := own_mask b2 127 7 (by decide) (by decide)
  have hs2 := own_shlN (b2 &&& 127) ((14 : Int32) &&& 31) 14 (by decide)
  have ha2 : x6.toInt % 4294967296 = b0.toInt % 128 * 1 + b1.toInt % 128 * 128 + b2.toInt % 128 * 16384 := by
    rw [← hv_x6, own_orU _ _ 14 (b2.toInt % 128).toNat (by rw [ha1]; omega) (by rw [hs2, hm2]; omega), ha1, hs2, hm2]; omega
  refine w_ifN 20 C d1_17 rfl (show ¬ ((0 : Int32).toInt ≤ b2.toInt) from (by omega)) ?_
  refine w_aloadN 21 C d1_20 rfl rfl rfl ?_
  refine w_iloadN 22 C d1_21 rfl rfl ?_
  refine w_iinc (z := (x5 + (1 : Int32))) 25 [.val (.ref a), .val (.int (x5 + (1 : Int32))), .val (.int b2), .val (.int x6), .val (.int (21 : Int32))] C d1_22 rfl rfl rfl rfl ?_
  generalize hv_x7 : (x5 + (1 : Int32)) = x7
  refine w_baload 26 (np + 3) b3 C A d1_25 rfl hp3 hb3 ?_
  have hp4 : x7.toInt = ((np + 4 : Nat) : Int) := by rw [← hv_x7, own_iadd, hp3, e1]; omega
  refine w_istoreN 27 [.val (.ref a), .val (.int x7), .val (.int b3), .val (.int x6), .val (.int (21 : Int32))] C d1_26 rfl rfl ?_
  refine w_iloadN 28 C d1_27 rfl rfl ?_
  refine w_iloadN 29 C d1_28 rfl rfl ?_
  refine w_bipush 31 (127 : Int32) C d1_29 rfl rfl ?_
  refine w_iand 32 C d1_31 rfl ?_
  refine w_iload 34 C d1_32 rfl rfl ?_
  refine w_ishl 35 C d1_34 rfl ?_
  refine w_ior 36 C d1_35 rfl ?_
  refine w_istoreN 37 [.val (.ref a), .val (.int x7), .val (.int b3), .val (.int (x6 ||| ((b3 &&& (127 : Int32)) <<< ((21 : Int32) &&& 31)))), .val (.int (21 : Int32))] C d1_36 rfl rfl ?_
  generalize hv_x8 : (x6 ||| ((b3 &&& (127 : Int32)) <<< ((21 : Int32) &&& 31))) = x8
  refine w_iinc (z := (28 : Int32)) 40 [.val (.ref a), .val (.int x7), .val (.int b3), .val (.int x8), .val (.int (28 : Int32))] C d1_37 rfl rfl rfl rfl ?_
  refine w_goto 16 C d1_40 rfl ?_
  refine w_iloadN 17 C d1_16 rfl rfl ?_
  have hm3 := own_mask b3 127 7 (by decide) (by decide)
  have hs3 := own_shlN (b3 &&& 127) ((21 : Int32) &&& 31) 21 (by decide)
  have ha3 : x8.toInt % 4294967296 = b0.toInt % 128 * 1 + b1.toInt % 128 * 128 + b2.toInt % 128 * 16384 + b3.toInt % 128 * 2097152 := by
    rw [← hv_x8, own_orU _ _ 21 (b3.toInt % 128).toNat (by rw [ha2]; omega) (by rw [hs3, hm3]; omega), ha2, hs3, hm3]; omega
  refine w_ifY 43 C d1_17 rfl (show (0 : Int32).toInt ≤ b3.toInt from (by omega)) ?_
  refine w_iloadN 44 C d1_43 rfl rfl ?_
  refine w_i2l 45 C d1_44 rfl ?_
  refine w_bipush 47 (32 : Int32) C d1_45 rfl rfl ?_
  refine w_lshl 48 C d1_47 rfl ?_
  refine w_iloadN 49 C d1_48 rfl rfl ?_
  refine w_i2l 50 C d1_49 rfl ?_
  refine w_ldc2 (v := (4294967295 : Int64)) 53 C d1_50 rfl (hw _ (List.mem_of_getElem? (i := 7) rfl)) ?_
  refine w_land 54 C d1_53 rfl ?_
  refine w_lor 55 C d1_54 rfl ?_
  refine w_retL C d1_55 (by decide) (by decide) ?_
  exact ⟨⟨_, rfl, by rw [own_pack x7 x8 (np + 4) hp4 (by omega), ha3]⟩, rfl⟩
set_option maxRecDepth 65536 in
set_option maxHeartbeats 40000000 in
theorem rm_dec5 (l : Launch) (Z : State) (a0 : Array Value) (hw : ∀ d ∈ tables_1, d.before a0 Z = true) (ws : List Jvm.Cond) (a : Addr) (p : Int32) (np : Nat) (vs : List Int32) (b0 b1 b2 b3 b4 : Int32) (h0 : Heap) (n0 : Nat) (hz : n0 ≤ h0.size) (A : Ai Z h0 a .byte vs) (hp0 : p.toInt = (np : Int)) (h9 : np ≤ 9) (hb0 : vs[np + 0]? = some b0) (hb1 : vs[np + 1]? = some b1) (hb2 : vs[np + 2]? = some b2) (hb3 : vs[np + 3]? = some b3) (hb4 : vs[np + 4]? = some b4) (ng0 : b0.toInt < 0) (ng1 : b1.toInt < 0) (ng2 : b2.toInt < 0) (ng3 : b3.toInt < 0) (ps : 0 ≤ b4.toInt) (lo : b4.toInt % 128 ≤ 15) :
    OwnMet l (⟨"com/example/crestline/crestline/index/PostingCursor$Numbers", "decode", "([BI)J"⟩ : MethodName) prog_109_method_9_code 5 (some .long) ws ({ frames := 0, cells := 0, slots := 0, locals := 0 } : Room) Z h0 n0 #[.ref a, .int p] (fun v h => (∃ z : Int64, v = some (.long z) ∧ z.toInt = 4294967296 * ((np + 5 : Nat) : Int) + (b0.toInt % 128 * 1 + b1.toInt % 128 * 128 + b2.toInt % 128 * 16384 + b3.toInt % 128 * 2097152 + b4.toInt % 128 * 268435456)) ∧ h0 = h) := by
  refine OwnMet.of (own := "com/example/crestline/crestline/index/PostingCursor$Numbers") (name := "decode") (desc := "([BI)J") (Ls := [.val (.ref a), .val (.int p), .unset, .unset, .unset]) (plainFor_of_name pn_com_example_crestline_crestline_index_PostingCursor_Numbers) (fun m => by first | (simp [entryFrame, mkF, argsToLocals, Value.category]; done) | rfl) ?_
  intro K hK C
  have e0 : (0 : Int32).toInt = 0 := by decide
  have e1 : (1 : Int32).toInt = 1 := by decide
  refine w_aloadN 1 C d1_0 rfl rfl rfl ?_
  refine w_iloadN 2 C d1_1 rfl rfl ?_
  refine w_iinc (z := (p + (1 : Int32))) 5 [.val (.ref a), .val (.int (p + (1 : Int32))), .unset, .unset, .unset] C d1_2 rfl rfl rfl rfl ?_
  generalize hv_x1 : (p + (1 : Int32)) = x1
  refine w_baload 6 (np + 0) b0 C A d1_5 rfl (by omega) hb0 ?_
  have hp1 : x1.toInt = ((np + 1 : Nat) : Int) := by rw [← hv_x1, own_iadd, hp0, e1]; omega
  refine w_istoreN 7 [.val (.ref a), .val (.int x1), .val (.int b0), .unset, .unset] C d1_6 rfl rfl ?_
  refine w_iloadN 8 C d1_7 rfl rfl ?_
  refine w_bipush 10 (127 : Int32) C d1_8 rfl rfl ?_
  refine w_iand 11 C d1_10 rfl ?_
  refine w_istoreN 12 [.val (.ref a), .val (.int x1), .val (.int b0), .val (.int (b0 &&& (127 : Int32))), .unset] C d1_11 rfl rfl ?_
  generalize hv_x2 : (b0 &&& (127 : Int32)) = x2
  refine w_bipush 14 (7 : Int32) C d1_12 rfl rfl ?_
  refine w_istore 16 [.val (.ref a), .val (.int x1), .val (.int b0), .val (.int x2), .val (.int (7 : Int32))] C d1_14 rfl rfl ?_
  refine w_iloadN 17 C d1_16 rfl rfl ?_
  have hm0 := own_mask b0 127 7 (by decide) (by decide)
  have ha0 : x2.toInt % 4294967296 = b0.toInt % 128 * 1 := by rw [← hv_x2, hm0]; omega
  refine w_ifN 20 C d1_17 rfl (show ¬ ((0 : Int32).toInt ≤ b0.toInt) from (by omega)) ?_
  refine w_aloadN 21 C d1_20 rfl rfl rfl ?_
  refine w_iloadN 22 C d1_21 rfl rfl ?_
  refine w_iinc (z := (x1 + (1 : Int32))) 25 [.val (.ref a), .val (.int (x1 + (1 : Int32))), .val (.int b0), .val (.int x2), .val (.int (7 : Int32))] C d1_22 rfl rfl rfl rfl ?_
  generalize hv_x3 : (x1 + (1 : Int32)) = x3
  refine w_baload 26 (np + 1) b1 C A d1_25 rfl hp1 hb1 ?_
  have hp2 : x3.toInt = ((np + 2 : Nat) : Int) := by rw [← hv_x3, own_iadd, hp1, e1]; omega
  refine w_istoreN 27 [.val (.ref a), .val (.int x3), .val (.int b1), .val (.int x2), .val (.int (7 : Int32))] C d1_26 rfl rfl ?_
  refine w_iloadN 28 C d1_27 rfl rfl ?_
  refine w_iloadN 29 C d1_28 rfl rfl ?_
  refine w_bipush 31 (127 : Int32) C d1_29 rfl rfl ?_
  refine w_iand 32 C d1_31 rfl ?_
  refine w_iload 34 C d1_32 rfl rfl ?_
  refine w_ishl 35 C d1_34 rfl ?_
  refine w_ior 36 C d1_35 rfl ?_
  refine w_istoreN 37 [.val (.ref a), .val (.int x3), .val (.int b1), .val (.int (x2 ||| ((b1 &&& (127 : Int32)) <<< ((7 : Int32) &&& 31)))), .val (.int (7 : Int32))] C d1_36 rfl rfl ?_
  generalize hv_x4 : (x2 ||| ((b1 &&& (127 : Int32)) <<< ((7 : Int32) &&& 31))) = x4
  refine w_iinc (z := (14 : Int32)) 40 [.val (.ref a), .val (.int x3), .val (.int b1), .val (.int x4), .val (.int (14 : Int32))] C d1_37 rfl rfl rfl rfl ?_
  refine w_goto 16 C d1_40 rfl ?_
  refine w_iloadN 17 C d1_16 rfl rfl ?_
  have hm1 := own_mask b1 127 7 (by decide) (by decide)
  have hs1 := own_shlN (b1 &&& 127) ((7 : Int32) &&& 31) 7 (by decide)
  have ha1 : x4.toInt % 4294967296 = b0.toInt % 128 * 1 + b1.toInt % 128 * 128 := by
    rw [← hv_x4, own_orU _ _ 7 (b1.toInt % 128).toNat (by rw [ha0]; omega) (by rw [hs1, hm1]; omega), ha0, hs1, hm1]; omega
  refine w_ifN 20 C d1_17 rfl (show ¬ ((0 : Int32).toInt ≤ b1.toInt) from (by omega)) ?_
  refine w_aloadN 21 C d1_20 rfl rfl rfl ?_
  refine w_iloadN 22 C d1_21 rfl rfl ?_
  refine w_iinc (z := (x3 + (1 : Int32))) 25 [.val (.ref a), .val (.int (x3 + (1 : Int32))), .val (.int b1), .val (.int x4), .val (.int (14 : Int32))] C d1_22 rfl rfl rfl rfl ?_
  generalize hv_x5 : (x3 + (1 : Int32)) = x5
  refine w_baload 26 (np + 2) b2 C A d1_25 rfl hp2 hb2 ?_
  have hp3 : x5.toInt = ((np + 3 : Nat) : Int) := by rw [← hv_x5, own_iadd, hp2, e1]; omega
  refine w_istoreN 27 [.val (.ref a), .val (.int x5), .val (.int b2), .val (.int x4), .val (.int (14 : Int32))] C d1_26 rfl rfl ?_
  refine w_iloadN 28 C d1_27 rfl rfl ?_
  refine w_iloadN 29 C d1_28 rfl rfl ?_
  refine w_bipush 31 (127 : Int32) C d1_29 rfl rfl ?_
  refine w_iand 32 C d1_31 rfl ?_
  refine w_iload 34 C d1_32 rfl rfl ?_
  refine w_ishl 35 C d1_34 rfl ?_
  refine w_ior 36 C d1_35 rfl ?_
  refine w_istoreN 37 [.val (.ref a), .val (.int x5), .val (.int b2), .val (.int (x4 ||| ((b2 &&& (127 : Int32)) <<< ((14 : Int32) &&& 31)))), .val (.int (14 : Int32))] C d1_36 rfl rfl ?_
  generalize hv_x6 : (x4 ||| ((b2 &&& (127 : Int32)) <<< ((14 : Int32) &&& 31))) = x6
  refine w_iinc (z := (21 : Int32)) 40 [.val (.ref a), .val (.int x5), .val (.int b2), .val (.int x6), .val (.int (21 : Int32))] C d1_37 rfl rfl rfl rfl ?_
  refine w_goto 16 C d1_40 rfl ?_
  refine w_iloadN 17 C d1_16 rfl rfl ?_
  have hm2 := own_mask b2 127 7 (by decide) (by decide)
  have hs2 := own_shlN (b2 &&& 127) ((14 : Int32) &&& 31) 14 (by decide)
  have ha2 : x6.toInt % 4294967296 = b0.toInt % 128 * 1 + b1.toInt % 128 * 128 + b2.toInt % 128 * 16384 := by
    rw [← hv_x6, own_orU _ _ 14 (b2.toInt % 128).toNat (by rw [ha1]; omega) (by rw [hs2, hm2]; omega), ha1, hs2, hm2]; omega
  refine w_ifN 20 C d1_17 rfl (show ¬ ((0 : Int32).toInt ≤ b2.toInt) from (by omega)) ?_
  refine w_aloadN 21 C d1_20 rfl rfl rfl ?_
  refine w_iloadN 22 C d1_21 rfl rfl ?_
  refine w_iinc (z := (x5 + (1 : Int32))) 25 [.val (.ref a), .val (.int (x5 + (1 : Int32))), .val (.int b2), .val (.int x6), .val (.int (21 : Int32))] C d1_22 rfl rfl rfl rfl ?_
  generalize hv_x7 : (x5 + (1 : Int32)) = x7
  refine w_baload 26 (np + 3) b3 C A d1_25 rfl hp3 hb3 ?_
  have hp4 : x7.toInt = ((np + 4 : Nat) : Int) := by rw [← hv_x7, own_iadd, hp3, e1]; omega
  refine w_istoreN 27 [.val (.ref a), .val (.int x7), .val (.int b3), .val (.int x6), .val (.int (21 : Int32))] C d1_26 rfl rfl ?_
  refine w_iloadN 28 C d1_27 rfl rfl ?_
  refine w_iloadN 29 C d1_28 rfl rfl ?_
  refine w_bipush 31 (127 : Int32) C d1_29 rfl rfl ?_
  refine w_iand 32 C d1_31 rfl ?_
  refine w_iload 34 C d1_32 rfl rfl ?_
  refine w_ishl 35 C d1_34 rfl ?_
  refine w_ior 36 C d1_35 rfl ?_
  refine w_istoreN 37 [.val (.ref a), .val (.int x7), .val (.int b3), .val (.int (x6 ||| ((b3 &&& (127 : Int32)) <<< ((21 : Int32) &&& 31)))), .val (.int (21 : Int32))] C d1_36 rfl rfl ?_
  generalize hv_x8 : (x6 ||| ((b3 &&& (127 : Int32)) <<< ((21 : Int32) &&& 31))) = x8
  refine w_iinc (z := (28 : Int32)) 40 [.val (.ref a), .val (.int x7), .val (.int b3), .val (.int x8), .val (.int (28 : Int32))] C d1_37 rfl rfl rfl rfl ?_
  refine w_goto 16 C d1_40 rfl ?_
  refine w_iloadN 17 C d1_16 rfl rfl ?_
  have hm3 := own_mask b3 127 7 (by decide) (by decide)
  have hs3 := own_shlN (b3 &&& 127) ((21 : Int32) &&& 31) 21 (by decide)
  have ha3 : x8.toInt % 4294967296 = b0.toInt % 128 * 1 + b1.toInt % 128 * 128 + b2.toInt % 128 * 16384 + b3.toInt % 128 * 2097152 := by
    rw [← hv_x8, own_orU _ _ 21 (b3.toInt % 128).toNat (by rw [ha2]; omega) (by rw [hs3, hm3]; omega), ha2, hs3, hm3]; omega
  refine w_ifN 20 C d1_17 rfl (show ¬ ((0 : Int32).toInt ≤ b3.toInt) from (by omega)) ?_
  refine w_aloadN 21 C d1_20 rfl rfl rfl ?_
  refine w_iloadN 22 C d1_21 rfl rfl ?_
  refine w_iinc (z := (x7 + (1 : Int32))) 25 [.val (.ref a), .val (.int (x7 + (1 : Int32))), .val (.int b3), .val (.int x8), .val (.int (28 : Int32))] C d1_22 rfl rfl rfl rfl ?_
  generalize hv_x9 : (x7 + (1 : Int32)) = x9
  refine w_baload 26 (np + 4) b4 C A d1_25 rfl hp4 hb4 ?_
  have hp5 : x9.toInt = ((np + 5 : Nat) : Int) := by rw [← hv_x9, own_iadd, hp4, e1]; omega
  refine w_istoreN 27 [.val (.ref a), .val (.int x9), .val (.int b4), .val (.int x8), .val (.int (28 : Int32))] C d1_26 rfl rfl ?_
  refine w_iloadN 28 C d1_27 rfl rfl ?_
  refine w_iloadN 29 C d1_28 rfl rfl ?_
  refine w_bipush 31 (127 : Int32) C d1_29 rfl rfl ?_
  refine w_iand 32 C d1_31 rfl ?_
  refine w_iload 34 C d1_32 rfl rfl ?_
  refine w_ishl 35 C d1_34 rfl ?_
  refine w_ior 36 C d1_35 rfl ?_
  refine w_istoreN 37 [.val (.ref a), .val (.int x9), .val (.int b4), .val (.int (x8 ||| ((b4 &&& (127 : Int32)) <<< ((28 : Int32) &&& 31)))), .val (.int (28 : Int32))] C d1_36 rfl rfl ?_
  generalize hv_x10 : (x8 ||| ((b4 &&& (127 : Int32)) <<< ((28 : Int32) &&& 31))) = x10
  refine w_iinc (z := (35 : Int32)) 40 [.val (.ref a), .val (.int x9), .val (.int b4), .val (.int x10), .val (.int (35 : Int32))] C d1_37 rfl rfl rfl rfl ?_
  refine w_goto 16 C d1_40 rfl ?_
  refine w_iloadN 17 C d1_16 rfl rfl ?_
  have hm4 := own_mask b4 127 7 (by decide) (by decide)
  have hs4 := own_shlN (b4 &&& 127) ((28 : Int32) &&& 31) 28 (by decide)
  have ha4 : x10.toInt % 4294967296 = b0.toInt % 128 * 1 + b1.toInt % 128 * 128 + b2.toInt % 128 * 16384 + b3.toInt % 128 * 2097152 + b4.toInt % 128 * 268435456 := by
    rw [← hv_x10, own_orU _ _ 28 (b4.toInt % 128).toNat (by rw [ha3]; omega) (by rw [hs4, hm4]; omega), ha3, hs4, hm4]; omega
  refine w_ifY 43 C d1_17 rfl (show (0 : Int32).toInt ≤ b4.toInt from (by omega)) ?_
  refine w_iloadN 44 C d1_43 rfl rfl ?_
  refine w_i2l 45 C d1_44 rfl ?_
  refine w_bipush 47 (32 : Int32) C d1_45 rfl rfl ?_
  refine w_lshl 48 C d1_47 rfl ?_
  refine w_iloadN 49 C d1_48 rfl rfl ?_
  refine w_i2l 50 C d1_49 rfl ?_
  refine w_ldc2 (v := (4294967295 : Int64)) 53 C d1_50 rfl (hw _ (List.mem_of_getElem? (i := 7) rfl)) ?_
  refine w_land 54 C d1_53 rfl ?_
  refine w_lor 55 C d1_54 rfl ?_
  refine w_retL C d1_55 (by decide) (by decide) ?_
  exact ⟨⟨_, rfl, by rw [own_pack x9 x10 (np + 5) hp5 (by omega), ha4]⟩, rfl⟩
set_option maxRecDepth 65536 in
set_option maxHeartbeats 40000000 in
theorem rm0 (l : Launch) (Z : State) (a0 : Array Value) (hw : ∀ d ∈ tables_1, d.before a0 Z = true) (ws : List Jvm.Cond) (p0 p1 : Int32) (p2 : Int64) (p3 : Int32) (h0 : Heap) (n0 : Nat) (hz : n0 ≤ h0.size) :
    OwnMet l x code maxLocals ret ws room_1 Z h0 n0 #[.int p0, .int p1, .long p2, .int p3] (fun v h => v = some (.int 1)) := by
  refine OwnMet.of (own := "com/example/crestline/crestline/index/NumbersDecodePinLaw") (name := "law") (desc := "(IIJI)Z") (Ls := [.val (.int p0), .val (.int p1), .val (.long p2), .second, .val (.int p3), .unset, .unset, .unset, .unset, .unset, .unset, .unset, .unset, .unset, .unset, .unset, .unset]) (plainFor_of_name pn_com_example_crestline_crestline_index_NumbersDecodePinLaw) (fun m => by first | (simp [entryFrame, mkF, argsToLocals, Value.category, maxLocals]; done) | rfl) ?_
  intro K hK C
  refine w_iconst 1 (1 : Int32) C at_0 rfl rfl ?_
  refine w_iloadN 2 C at_1 rfl rfl ?_
  refine w_ldc (v := (2147483647 : Int32)) 4 C at_2 rfl (hw _ (List.mem_of_getElem? (i := 0) rfl)) ?_
  refine w_iand 5 C at_4 rfl ?_
  refine w_iconst 6 (5 : Int32) C at_5 rfl rfl ?_
  refine w_irem 7 C at_6 rfl (by decide) ?_
  refine w_iadd 8 C at_7 rfl ?_
  refine w_istore 10 [.val (.int p0), .val (.int p1), .val (.long p2), .second, .val (.int p3), .val (.int ((1 : Int32) + ((p1 &&& (2147483647 : Int32)) % (5 : Int32)))), .unset, .unset, .unset, .unset, .unset, .unset, .unset, .unset, .unset, .unset, .unset] C at_8 rfl rfl ?_
  generalize hv_x1 : ((1 : Int32) + ((p1 &&& (2147483647 : Int32)) % (5 : Int32))) = x1
  refine w_iloadN 11 C at_10 rfl rfl ?_
  refine w_bipush 13 (16 : Int32) C at_11 rfl rfl ?_
  refine w_iushr 14 C at_13 rfl ?_
  refine w_iconst 15 (3 : Int32) C at_14 rfl rfl ?_
  refine w_iand 16 C at_15 rfl ?_
  refine w_istore 18 [.val (.int p0), .val (.int p1), .val (.long p2), .second, .val (.int p3), .val (.int x1), .val (.int (((p1.toUInt32 >>> ((16 : Int32) &&& 31).toUInt32).toInt32) &&& (3 : Int32))), .unset, .unset, .unset, .unset, .unset, .unset, .unset, .unset, .unset, .unset] C at_16 rfl rfl ?_
  generalize hv_x2 : (((p1.toUInt32 >>> ((16 : Int32) &&& 31).toUInt32).toInt32) &&& (3 : Int32)) = x2
  refine w_bipush 20 (10 : Int32) C at_18 rfl rfl ?_
  refine w_newarr 22 10 10 C hz at_20 rfl (hw _ (List.mem_of_getElem? (i := 1) rfl)) rfl (by decide) (by decide) (by decide) (by decide) (by decide) ?_
  intro h3 b4 X_b4 g_b4 sz0_b4 A_b4 hz_
  replace hz := hz_
  replace A_b4 : Ai Z h3 b4 .byte [(0 : Int32), (0 : Int32), (0 : Int32), (0 : Int32), (0 : Int32), (0 : Int32), (0 : Int32), (0 : Int32), (0 : Int32), (0 : Int32)] := A_b4
  show Go K h3 1 10 22 [.val (.int p0), .val (.int p1), .val (.long p2), .second, .val (.int p3), .val (.int x1), .val (.int x2), .unset, .unset, .unset, .unset, .unset, .unset, .unset, .unset, .unset, .unset] [.ref b4]
  refine w_astore 24 [.val (.int p0), .val (.int p1), .val (.long p2), .second, .val (.int p3), .val (.int x1), .val (.int x2), .val (.ref b4), .unset, .unset, .unset, .unset, .unset, .unset, .unset, .unset, .unset] C at_22 rfl rfl rfl ?_
  refine w_aload 26 C at_24 rfl rfl rfl ?_
  refine w_iconst 27 (0 : Int32) C at_26 rfl rfl ?_
  refine w_lloadN 28 C at_27 rfl rfl ?_
  refine w_l2i 29 C at_28 rfl ?_
  refine w_i2b 30 C at_29 rfl ?_
  obtain ⟨y6, hv_y6⟩ : ∃ z : Int32, ((p2.toInt32).toInt8.toInt32).toInt8.toInt32 = z := ⟨_, rfl⟩
  refine w_bastore 31 0 y6 C A_b4 g_b4 at_30 rfl (by decide) (Nat.le_of_ble_eq_true rfl) hv_y6 ?_
  intro h5 K_h5 A_b4'
  replace A_b4 : Ai Z h5 b4 .byte [y6, (0 : Int32), (0 : Int32), (0 : Int32), (0 : Int32), (0 : Int32), (0 : Int32), (0 : Int32), (0 : Int32), (0 : Int32)] := A_b4'
  replace hz := Nat.le_trans hz K_h5.1
  refine w_aload 33 C at_31 rfl rfl rfl ?_
  refine w_iconst 34 (1 : Int32) C at_33 rfl rfl ?_
  refine w_lloadN 35 C at_34 rfl rfl ?_
  refine w_bipush 37 (8 : Int32) C at_35 rfl rfl ?_
  refine w_lushr 38 C at_37 rfl ?_
  refine w_l2i 39 C at_38 rfl ?_
  refine w_i2b 40 C at_39 rfl ?_
  obtain ⟨y8, hv_y8⟩ : ∃ z : Int32, ((((p2.toUInt64 >>> ((8 : Int32) &&& 0x3f).toInt64.toUInt64).toInt64).toInt32).toInt8.toInt32).toInt8.toInt32 = z := ⟨_, rfl⟩
  refine w_bastore 41 1 y8 C A_b4 g_b4 at_40 rfl (by decide) (Nat.le_of_ble_eq_true rfl) hv_y8 ?_
  intro h7 K_h7 A_b4'
  replace A_b4 : Ai Z h7 b4 .byte [y6, y8, (0 : Int32), (0 : Int32), (0 : Int32), (0 : Int32), (0 : Int32), (0 : Int32), (0 : Int32), (0 : Int32)] := A_b4'
  replace hz := Nat.le_trans hz K_h7.1
  refine w_aload 43 C at_41 rfl rfl rfl ?_
  refine w_iconst 44 (2 : Int32) C at_43 rfl rfl ?_
  refine w_lloadN 45 C at_44 rfl rfl ?_
  refine w_bipush 47 (16 : Int32) C at_45 rfl rfl ?_
  refine w_lushr 48 C at_47 rfl ?_
  refine w_l2i 49 C at_48 rfl ?_
  refine w_i2b 50 C at_49 rfl ?_
  obtain ⟨y10, hv_y10⟩ : ∃ z : Int32, ((((p2.toUInt64 >>> ((16 : Int32) &&& 0x3f).toInt64.toUInt64).toInt64).toInt32).toInt8.toInt32).toInt8.toInt32 = z := ⟨_, rfl⟩
  refine w_bastore 51 2 y10 C A_b4 g_b4 at_50 rfl (by decide) (Nat.le_of_ble_eq_true rfl) hv_y10 ?_
  intro h9 K_h9 A_b4'
  replace A_b4 : Ai Z h9 b4 .byte [y6, y8, y10, (0 : Int32), (0 : Int32), (0 : Int32), (0 : Int32), (0 : Int32), (0 : Int32), (0 : Int32)] := A_b4'
  replace hz := Nat.le_trans hz K_h9.1
  refine w_aload 53 C at_51 rfl rfl rfl ?_
  refine w_iconst 54 (3 : Int32) C at_53 rfl rfl ?_
  refine w_lloadN 55 C at_54 rfl rfl ?_
  refine w_bipush 57 (24 : Int32) C at_55 rfl rfl ?_
  refine w_lushr 58 C at_57 rfl ?_
  refine w_l2i 59 C at_58 rfl ?_
  refine w_i2b 60 C at_59 rfl ?_
  obtain ⟨y12, hv_y12⟩ : ∃ z : Int32, ((((p2.toUInt64 >>> ((24 : Int32) &&& 0x3f).toInt64.toUInt64).toInt64).toInt32).toInt8.toInt32).toInt8.toInt32 = z := ⟨_, rfl⟩
  refine w_bastore 61 3 y12 C A_b4 g_b4 at_60 rfl (by decide) (Nat.le_of_ble_eq_true rfl) hv_y12 ?_
  intro h11 K_h11 A_b4'
  replace A_b4 : Ai Z h11 b4 .byte [y6, y8, y10, y12, (0 : Int32), (0 : Int32), (0 : Int32), (0 : Int32), (0 : Int32), (0 : Int32)] := A_b4'
  replace hz := Nat.le_trans hz K_h11.1
  refine w_aload 63 C at_61 rfl rfl rfl ?_
  refine w_iconst 64 (4 : Int32) C at_63 rfl rfl ?_
  refine w_lloadN 65 C at_64 rfl rfl ?_
  refine w_bipush 67 (32 : Int32) C at_65 rfl rfl ?_
  refine w_lushr 68 C at_67 rfl ?_
  refine w_l2i 69 C at_68 rfl ?_
  refine w_i2b 70 C at_69 rfl ?_
  obtain ⟨y14, hv_y14⟩ : ∃ z : Int32, ((((p2.toUInt64 >>> ((32 : Int32) &&& 0x3f).toInt64.toUInt64).toInt64).toInt32).toInt8.toInt32).toInt8.toInt32 = z := ⟨_, rfl⟩
  refine w_bastore 71 4 y14 C A_b4 g_b4 at_70 rfl (by decide) (Nat.le_of_ble_eq_true rfl) hv_y14 ?_
  intro h13 K_h13 A_b4'
  replace A_b4 : Ai Z h13 b4 .byte [y6, y8, y10, y12, y14, (0 : Int32), (0 : Int32), (0 : Int32), (0 : Int32), (0 : Int32)] := A_b4'
  replace hz := Nat.le_trans hz K_h13.1
  refine w_aload 73 C at_71 rfl rfl rfl ?_
  refine w_iconst 74 (5 : Int32) C at_73 rfl rfl ?_
  refine w_lloadN 75 C at_74 rfl rfl ?_
  refine w_bipush 77 (40 : Int32) C at_75 rfl rfl ?_
  refine w_lushr 78 C at_77 rfl ?_
  refine w_l2i 79 C at_78 rfl ?_
  refine w_i2b 80 C at_79 rfl ?_
  obtain ⟨y16, hv_y16⟩ : ∃ z : Int32, ((((p2.toUInt64 >>> ((40 : Int32) &&& 0x3f).toInt64.toUInt64).toInt64).toInt32).toInt8.toInt32).toInt8.toInt32 = z := ⟨_, rfl⟩
  refine w_bastore 81 5 y16 C A_b4 g_b4 at_80 rfl (by decide) (Nat.le_of_ble_eq_true rfl) hv_y16 ?_
  intro h15 K_h15 A_b4'
  replace A_b4 : Ai Z h15 b4 .byte [y6, y8, y10, y12, y14, y16, (0 : Int32), (0 : Int32), (0 : Int32), (0 : Int32)] := A_b4'
  replace hz := Nat.le_trans hz K_h15.1
  refine w_aload 83 C at_81 rfl rfl rfl ?_
  refine w_bipush 85 (6 : Int32) C at_83 rfl rfl ?_
  refine w_lloadN 86 C at_85 rfl rfl ?_
  refine w_bipush 88 (48 : Int32) C at_86 rfl rfl ?_
  refine w_lushr 89 C at_88 rfl ?_
  refine w_l2i 90 C at_89 rfl ?_
  refine w_i2b 91 C at_90 rfl ?_
  obtain ⟨y18, hv_y18⟩ : ∃ z : Int32, ((((p2.toUInt64 >>> ((48 : Int32) &&& 0x3f).toInt64.toUInt64).toInt64).toInt32).toInt8.toInt32).toInt8.toInt32 = z := ⟨_, rfl⟩
  refine w_bastore 92 6 y18 C A_b4 g_b4 at_91 rfl (by decide) (Nat.le_of_ble_eq_true rfl) hv_y18 ?_
  intro h17 K_h17 A_b4'
  replace A_b4 : Ai Z h17 b4 .byte [y6, y8, y10, y12, y14, y16, y18, (0 : Int32), (0 : Int32), (0 : Int32)] := A_b4'
  replace hz := Nat.le_trans hz K_h17.1
  refine w_aload 94 C at_92 rfl rfl rfl ?_
  refine w_bipush 96 (7 : Int32) C at_94 rfl rfl ?_
  refine w_lloadN 97 C at_96 rfl rfl ?_
  refine w_bipush 99 (56 : Int32) C at_97 rfl rfl ?_
  refine w_lushr 100 C at_99 rfl ?_
  refine w_l2i 101 C at_100 rfl ?_
  refine w_i2b 102 C at_101 rfl ?_
  obtain ⟨y20, hv_y20⟩ : ∃ z : Int32, ((((p2.toUInt64 >>> ((56 : Int32) &&& 0x3f).toInt64.toUInt64).toInt64).toInt32).toInt8.toInt32).toInt8.toInt32 = z := ⟨_, rfl⟩
  refine w_bastore 103 7 y20 C A_b4 g_b4 at_102 rfl (by decide) (Nat.le_of_ble_eq_true rfl) hv_y20 ?_
  intro h19 K_h19 A_b4'
  replace A_b4 : Ai Z h19 b4 .byte [y6, y8, y10, y12, y14, y16, y18, y20, (0 : Int32), (0 : Int32)] := A_b4'
  replace hz := Nat.le_trans hz K_h19.1
  refine w_aload 105 C at_103 rfl rfl rfl ?_
  refine w_bipush 107 (8 : Int32) C at_105 rfl rfl ?_
  refine w_iload 109 C at_107 rfl rfl ?_
  refine w_i2b 110 C at_109 rfl ?_
  obtain ⟨y22, hv_y22⟩ : ∃ z : Int32, (p3.toInt8.toInt32).toInt8.toInt32 = z := ⟨_, rfl⟩
  refine w_bastore 111 8 y22 C A_b4 g_b4 at_110 rfl (by decide) (Nat.le_of_ble_eq_true rfl) hv_y22 ?_
  intro h21 K_h21 A_b4'
  replace A_b4 : Ai Z h21 b4 .byte [y6, y8, y10, y12, y14, y16, y18, y20, y22, (0 : Int32)] := A_b4'
  replace hz := Nat.le_trans hz K_h21.1
  refine w_aload 113 C at_111 rfl rfl rfl ?_
  refine w_bipush 115 (9 : Int32) C at_113 rfl rfl ?_
  refine w_iload 117 C at_115 rfl rfl ?_
  refine w_bipush 119 (8 : Int32) C at_117 rfl rfl ?_
  refine w_iushr 120 C at_119 rfl ?_
  refine w_i2b 121 C at_120 rfl ?_
  obtain ⟨y24, hv_y24⟩ : ∃ z : Int32, (((p3.toUInt32 >>> ((8 : Int32) &&& 31).toUInt32).toInt32).toInt8.toInt32).toInt8.toInt32 = z := ⟨_, rfl⟩
  refine w_bastore 122 9 y24 C A_b4 g_b4 at_121 rfl (by decide) (Nat.le_of_ble_eq_true rfl) hv_y24 ?_
  intro h23 K_h23 A_b4'
  replace A_b4 : Ai Z h23 b4 .byte [y6, y8, y10, y12, y14, y16, y18, y20, y22, y24] := A_b4'
  replace hz := Nat.le_trans hz K_h23.1
  refine w_iloadN 123 C at_122 rfl rfl ?_
  refine w_bipush 125 (127 : Int32) C at_123 rfl rfl ?_
  refine w_iand 126 C at_125 rfl ?_
  refine w_istore 128 [.val (.int p0), .val (.int p1), .val (.long p2), .second, .val (.int p3), .val (.int x1), .val (.int x2), .val (.ref b4), .val (.int (p0 &&& (127 : Int32))), .unset, .unset, .unset, .unset, .unset, .unset, .unset, .unset] C at_126 rfl rfl ?_
  generalize hv_x25 : (p0 &&& (127 : Int32)) = x25
  refine w_iloadN 129 C at_128 rfl rfl ?_
  refine w_bipush 131 (7 : Int32) C at_129 rfl rfl ?_
  refine w_iushr 132 C at_131 rfl ?_
  refine w_bipush 134 (127 : Int32) C at_132 rfl rfl ?_
  refine w_iand 135 C at_134 rfl ?_
  refine w_istore 137 [.val (.int p0), .val (.int p1), .val (.long p2), .second, .val (.int p3), .val (.int x1), .val (.int x2), .val (.ref b4), .val (.int x25), .val (.int (((p0.toUInt32 >>> ((7 : Int32) &&& 31).toUInt32).toInt32) &&& (127 : Int32))), .unset, .unset, .unset, .unset, .unset, .unset, .unset] C at_135 rfl rfl ?_
  generalize hv_x26 : (((p0.toUInt32 >>> ((7 : Int32) &&& 31).toUInt32).toInt32) &&& (127 : Int32)) = x26
  refine w_iloadN 138 C at_137 rfl rfl ?_
  refine w_bipush 140 (14 : Int32) C at_138 rfl rfl ?_
  refine w_iushr 141 C at_140 rfl ?_
  refine w_bipush 143 (127 : Int32) C at_141 rfl rfl ?_
  refine w_iand 144 C at_143 rfl ?_
  refine w_istore 146 [.val (.int p0), .val (.int p1), .val (.long p2), .second, .val (.int p3), .val (.int x1), .val (.int x2), .val (.ref b4), .val (.int x25), .val (.int x26), .val (.int (((p0.toUInt32 >>> ((14 : Int32) &&& 31).toUInt32).toInt32) &&& (127 : Int32))), .unset, .unset, .unset, .unset, .unset, .unset] C at_144 rfl rfl ?_
  generalize hv_x27 : (((p0.toUInt32 >>> ((14 : Int32) &&& 31).toUInt32).toInt32) &&& (127 : Int32)) = x27
  refine w_iloadN 147 C at_146 rfl rfl ?_
  refine w_bipush 149 (21 : Int32) C at_147 rfl rfl ?_
  refine w_iushr 150 C at_149 rfl ?_
  refine w_bipush 152 (127 : Int32) C at_150 rfl rfl ?_
  refine w_iand 153 C at_152 rfl ?_
  refine w_istore 155 [.val (.int p0), .val (.int p1), .val (.long p2), .second, .val (.int p3), .val (.int x1), .val (.int x2), .val (.ref b4), .val (.int x25), .val (.int x26), .val (.int x27), .val (.int (((p0.toUInt32 >>> ((21 : Int32) &&& 31).toUInt32).toInt32) &&& (127 : Int32))), .unset, .unset, .unset, .unset, .unset] C at_153 rfl rfl ?_
  generalize hv_x28 : (((p0.toUInt32 >>> ((21 : Int32) &&& 31).toUInt32).toInt32) &&& (127 : Int32)) = x28
  refine w_iloadN 156 C at_155 rfl rfl ?_
  refine w_bipush 158 (28 : Int32) C at_156 rfl rfl ?_
  refine w_iushr 159 C at_158 rfl ?_
  refine w_bipush 161 (15 : Int32) C at_159 rfl rfl ?_
  refine w_iand 162 C at_161 rfl ?_
  refine w_istore 164 [.val (.int p0), .val (.int p1), .val (.long p2), .second, .val (.int p3), .val (.int x1), .val (.int x2), .val (.ref b4), .val (.int x25), .val (.int x26), .val (.int x27), .val (.int x28), .val (.int (((p0.toUInt32 >>> ((28 : Int32) &&& 31).toUInt32).toInt32) &&& (15 : Int32))), .unset, .unset, .unset, .unset] C at_162 rfl rfl ?_
  generalize hv_x29 : (((p0.toUInt32 >>> ((28 : Int32) &&& 31).toUInt32).toInt32) &&& (15 : Int32)) = x29
  have e1 : (1 : Int32).toInt = 1 := by decide
  have hl : x1.toInt = 1 ∨ x1.toInt = 2 ∨ x1.toInt = 3 ∨ x1.toInt = 4 ∨ x1.toInt = 5 := by
    have m := own_mask p1 2147483647 31 (by decide) (by decide)
    rw [← hv_x1, own_iadd, Jvm.Kit.i32_rem_nonneg (by omega), e1, show (5 : Int32).toInt = 5 from by decide]; omega
  have hm := own_mask ((p1.toUInt32 >>> ((16 : Int32) &&& 31).toUInt32).toInt32) 3 2 (by decide) (by decide)
  rw [hv_x2] at hm
  obtain ⟨np, hp⟩ : ∃ np : Nat, x2.toInt = (np : Int) := ⟨x2.toInt.toNat, by omega⟩
  have hp3 : np ≤ 3 := by omega
  obtain ⟨U, hU⟩ : ∃ U : Int, U = p0.toInt % 4294967296 := ⟨_, rfl⟩
  have hU1 : 0 ≤ U ∧ U < 4294967296 := by omega
  have g0 : x25.toInt = U % 128 := by rw [← hv_x25, own_mask _ 127 7 (by decide) (by decide)]; omega
  have g1 : x26.toInt = U / 128 % 128 := by rw [← hv_x26, own_mask _ 127 7 (by decide) (by decide), own_iushr p0 7 (by decide) (by decide) (by decide)]; omega
  have g2 : x27.toInt = U / 16384 % 128 := by rw [← hv_x27, own_mask _ 127 7 (by decide) (by decide), own_iushr p0 14 (by decide) (by decide) (by decide)]; omega
  have g3 : x28.toInt = U / 2097152 % 128 := by rw [← hv_x28, own_mask _ 127 7 (by decide) (by decide), own_iushr p0 21 (by decide) (by decide) (by decide)]; omega
  have g4 : x29.toInt = U / 268435456 := by rw [← hv_x29, own_mask _ 15 4 (by decide) (by decide), own_iushr p0 28 (by decide) (by decide) (by decide)]; omega
  have e128 : (128 : Int32).toInt = 128 := by decide
  have e00 : (0 : Int32).toInt = 0 := by decide
  rcases hl with hl | hl | hl | hl | hl
  · obtain rfl : x1 = (1 : Int32) := own_eq (by rw [hl]; decide)
    refine w_aload 166 C at_164 rfl rfl rfl ?_
    refine w_iload 168 C at_166 rfl rfl ?_
    refine w_iload 170 C at_168 rfl rfl ?_
    refine w_iload 172 C at_170 rfl rfl ?_
    refine w_iconst 173 (1 : Int32) C at_172 rfl rfl ?_
    refine w_icmpY 182 C at_173 rfl (show (1 : Int32).toInt ≤ (1 : Int32).toInt from (by decide)) ?_
    refine w_iconst 183 (0 : Int32) C at_182 rfl rfl ?_
    refine w_ior 184 C at_183 rfl ?_
    refine w_i2b 185 C at_184 rfl ?_
    obtain ⟨c0, hc_c0⟩ : ∃ z : Int32, ((x25 ||| (0 : Int32)).toInt8.toInt32).toInt8.toInt32 = z := ⟨_, rfl⟩
    refine w_bastore 186 (np) c0 C A_b4 g_b4 at_185 rfl hp (by simp; omega) hc_c0 ?_
    intro h30 K_h30 A_b4'
    replace A_b4 : Ai Z h30 b4 .byte (([y6, y8, y10, y12, y14, y16, y18, y20, y22, y24]).set np c0) := A_b4'
    replace hz := Nat.le_trans hz K_h30.1
    have v0 : c0.toInt = x25.toInt := by rw [← hc_c0, own_i2b, own_i2b, own_or x25 0 7 0 (by omega) (by omega) (by decide) (by omega), e00]; omega
    refine w_iload 188 C at_186 rfl rfl ?_
    refine w_iconst 189 (1 : Int32) C at_188 rfl rfl ?_
    refine w_icmpY 216 C at_189 rfl (show (1 : Int32).toInt ≤ (1 : Int32).toInt from (by decide)) ?_
    refine w_iload 218 C at_216 rfl rfl ?_
    refine w_iconst 219 (2 : Int32) C at_218 rfl rfl ?_
    refine w_icmpY 246 C at_219 rfl (show (1 : Int32).toInt ≤ (2 : Int32).toInt from (by decide)) ?_
    refine w_iload 248 C at_246 rfl rfl ?_
    refine w_iconst 249 (3 : Int32) C at_248 rfl rfl ?_
    refine w_icmpY 276 C at_249 rfl (show (1 : Int32).toInt ≤ (3 : Int32).toInt from (by decide)) ?_
    refine w_iload 278 C at_276 rfl rfl ?_
    refine w_iconst 279 (4 : Int32) C at_278 rfl rfl ?_
    refine w_icmpY 292 C at_279 rfl (show (1 : Int32).toInt ≤ (4 : Int32).toInt from (by decide)) ?_
    refine w_iloadN 293 C at_292 rfl rfl ?_
    refine w_i2l 294 C at_293 rfl ?_
    refine w_ldc2 (v := (4294967295 : Int64)) 297 C at_294 rfl (hw _ (List.mem_of_getElem? (i := 2) rfl)) ?_
    refine w_land 298 C at_297 rfl ?_
    refine w_lconst 299 (1 : Int64) C at_298 rfl rfl ?_
    refine w_bipush 301 (7 : Int32) C at_299 rfl rfl ?_
    refine w_iload 303 C at_301 rfl rfl ?_
    refine w_imul 304 C at_303 rfl ?_
    rw [show ((7 : Int32) * (1 : Int32)) = (7 : Int32) from by decide]
    refine w_lshl 305 C at_304 rfl ?_
    refine w_lconst 306 (1 : Int64) C at_305 rfl rfl ?_
    refine w_lsub 307 C at_306 rfl ?_
    refine w_land 308 C at_307 rfl ?_
    refine w_lstore 310 [.val (.int p0), .val (.int p1), .val (.long p2), .second, .val (.int p3), .val (.int (1 : Int32)), .val (.int x2), .val (.ref b4), .val (.int x25), .val (.int x26), .val (.int x27), .val (.int x28), .val (.int x29), .val (.long (((p0.toInt64) &&& (4294967295 : Int64)) &&& (((1 : Int64) <<< ((7 : Int32) &&& 0x3f).toInt64) - (1 : Int64)))), .second, .unset, .unset] C at_308 rfl rfl ?_
    generalize hv_x31 : (((p0.toInt64) &&& (4294967295 : Int64)) &&& (((1 : Int64) <<< ((7 : Int32) &&& 0x3f).toInt64) - (1 : Int64))) = x31
    refine w_iload 312 C at_310 rfl rfl ?_
    refine w_iload 314 C at_312 rfl rfl ?_
    refine w_iadd 315 C at_314 rfl ?_
    refine w_i2l 316 C at_315 rfl ?_
    refine w_bipush 318 (32 : Int32) C at_316 rfl rfl ?_
    refine w_lshl 319 C at_318 rfl ?_
    refine w_lload 321 C at_319 rfl rfl ?_
    refine w_lor 322 C at_321 rfl ?_
    refine w_lstore 324 [.val (.int p0), .val (.int p1), .val (.long p2), .second, .val (.int p3), .val (.int (1 : Int32)), .val (.int x2), .val (.ref b4), .val (.int x25), .val (.int x26), .val (.int x27), .val (.int x28), .val (.int x29), .val (.long x31), .second, .val (.long ((((x2 + (1 : Int32)).toInt64) <<< ((32 : Int32) &&& 0x3f).toInt64) ||| x31)), .second] C at_322 rfl rfl ?_
    generalize hv_x32 : ((((x2 + (1 : Int32)).toInt64) <<< ((32 : Int32) &&& 0x3f).toInt64) ||| x31) = x32
    refine w_aload 326 C at_324 rfl rfl rfl ?_
    refine w_iload 328 C at_326 rfl rfl ?_
    have k0 : (([y6, y8, y10, y12, y14, y16, y18, y20, y22, y24]).set np c0)[np + 0]? = some c0 := by simp [List.getElem?_set]; omega
    refine w_callS (y := (⟨"com/example/crestline/crestline/index/PostingCursor$Numbers", "decode", "([BI)J"⟩ : MethodName)) 331 0 [.ref b4, .int x2] C at_328 rfl (hw _ (List.mem_of_getElem? (i := 3) rfl)) (hw _ (List.mem_of_getElem? (i := 4) rfl)) (hw _ (List.mem_of_getElem? (i := 5) rfl)) (hw _ (List.mem_of_getElem? (i := 6) rfl)) (by decide) (rm_dec1 K.l Z a0 hw [] b4 x2 np (([y6, y8, y10, y12, y14, y16, y18, y20, y22, y24]).set np c0) c0 h30 n0 hz A_b4 hp (by omega) k0  (by omega)) pd_aBI_to_J rfl (rest := []) rfl rfl (Nat.le_of_eq rfl) (by decide) (by decide) (by decide) (by decide) ?_
    rintro v34 h33 ⟨⟨z, rfl, hzz⟩, rfl⟩
    show Go K h30 1 10 331 [.val (.int p0), .val (.int p1), .val (.long p2), .second, .val (.int p3), .val (.int (1 : Int32)), .val (.int x2), .val (.ref b4), .val (.int x25), .val (.int x26), .val (.int x27), .val (.int x28), .val (.int x29), .val (.long x31), .second, .val (.long x32), .second] [.long z]
    refine w_lload 333 C at_331 rfl rfl ?_
    have hva : x31.toInt = U % 128 := by
      rw [← hv_x31]
      rw [own_maskL _ _ 7 (by decide) (by decide), own_maskL _ 4294967295 32 (by decide) (by decide), own_i2l]; omega
    have hex : x32.toInt = 4294967296 * ((np + 1 : Nat) : Int) + U % 128 := by
      rw [← hv_x32]
      have q1 : (x2 + (1 : Int32)).toInt = ((np + 1 : Nat) : Int) := by rw [own_iadd, hp, show (1 : Int32).toInt = 1 from by decide]; omega
      have s1 : ((x2 + (1 : Int32)).toInt64 <<< ((32 : Int32) &&& 0x3f).toInt64).toInt = 4294967296 * ((np + 1 : Nat) : Int) := by
        rw [Jvm.Kit.i64_shl _ _ (k := 32) (by decide) (by rw [own_i2l]; omega) (by rw [own_i2l]; omega), own_i2l]; omega
      rw [own_orL _ _ (np + 1) (by omega) (by omega) s1 (by omega), s1, hva]
    have e : z = x32 := own_eqL (by rw [hzz, hex]; omega)
    refine w_lifN 334 337 C at_333 rfl at_334 rfl (show ¬ (¬ (z = x32)) from (fun q => q e)) ?_
    refine w_iconst 338 (1 : Int32) C at_337 rfl rfl ?_
    refine w_goto 342 C at_338 rfl ?_
    refine w_retN C (by simp) at_342 rfl (by decide) (by decide) ?_
    exact rfl
  · obtain rfl : x1 = (2 : Int32) := own_eq (by rw [hl]; decide)
    refine w_aload 166 C at_164 rfl rfl rfl ?_
    refine w_iload 168 C at_166 rfl rfl ?_
    refine w_iload 170 C at_168 rfl rfl ?_
    refine w_iload 172 C at_170 rfl rfl ?_
    refine w_iconst 173 (1 : Int32) C at_172 rfl rfl ?_
    refine w_icmpN 176 C at_173 rfl (show ¬ ((2 : Int32).toInt ≤ (1 : Int32).toInt) from (by decide)) ?_
    refine w_sipush 179 (128 : Int32) C at_176 rfl rfl ?_
    refine w_goto 183 C at_179 rfl ?_
    refine w_ior 184 C at_183 rfl ?_
    refine w_i2b 185 C at_184 rfl ?_
    obtain ⟨c0, hc_c0⟩ : ∃ z : Int32, ((x25 ||| (128 : Int32)).toInt8.toInt32).toInt8.toInt32 = z := ⟨_, rfl⟩
    refine w_bastore 186 (np) c0 C A_b4 g_b4 at_185 rfl hp (by simp; omega) hc_c0 ?_
    intro h35 K_h35 A_b4'
    replace A_b4 : Ai Z h35 b4 .byte (([y6, y8, y10, y12, y14, y16, y18, y20, y22, y24]).set np c0) := A_b4'
    replace hz := Nat.le_trans hz K_h35.1
    have v0 : c0.toInt = x25.toInt - 128 := by rw [← hc_c0, own_i2b, own_i2b, own_or x25 128 7 1 (by omega) (by omega) (by decide) (by omega), e128]; omega
    refine w_iload 188 C at_186 rfl rfl ?_
    refine w_iconst 189 (1 : Int32) C at_188 rfl rfl ?_
    refine w_icmpN 192 C at_189 rfl (show ¬ ((2 : Int32).toInt ≤ (1 : Int32).toInt) from (by decide)) ?_
    refine w_aload 194 C at_192 rfl rfl rfl ?_
    refine w_iload 196 C at_194 rfl rfl ?_
    refine w_iconst 197 (1 : Int32) C at_196 rfl rfl ?_
    refine w_iadd 198 C at_197 rfl ?_
    refine w_iload 200 C at_198 rfl rfl ?_
    refine w_iload 202 C at_200 rfl rfl ?_
    refine w_iconst 203 (2 : Int32) C at_202 rfl rfl ?_
    refine w_icmpY 212 C at_203 rfl (show (2 : Int32).toInt ≤ (2 : Int32).toInt from (by decide)) ?_
    refine w_iconst 213 (0 : Int32) C at_212 rfl rfl ?_
    refine w_ior 214 C at_213 rfl ?_
    refine w_i2b 215 C at_214 rfl ?_
    obtain ⟨c1, hc_c1⟩ : ∃ z : Int32, ((x26 ||| (0 : Int32)).toInt8.toInt32).toInt8.toInt32 = z := ⟨_, rfl⟩
    refine w_bastore 216 (np + 1) c1 C A_b4 g_b4 at_215 rfl (by rw [own_iadd, hp, show (1 : Int32).toInt = 1 from by decide]; omega) (by simp; omega) hc_c1 ?_
    intro h36 K_h36 A_b4'
    replace A_b4 : Ai Z h36 b4 .byte ((([y6, y8, y10, y12, y14, y16, y18, y20, y22, y24]).set np c0).set (np + 1) c1) := A_b4'
    replace hz := Nat.le_trans hz K_h36.1
    have v1 : c1.toInt = x26.toInt := by rw [← hc_c1, own_i2b, own_i2b, own_or x26 0 7 0 (by omega) (by omega) (by decide) (by omega), e00]; omega
    refine w_iload 218 C at_216 rfl rfl ?_
    refine w_iconst 219 (2 : Int32) C at_218 rfl rfl ?_
    refine w_icmpY 246 C at_219 rfl (show (2 : Int32).toInt ≤ (2 : Int32).toInt from (by decide)) ?_
    refine w_iload 248 C at_246 rfl rfl ?_
    refine w_iconst 249 (3 : Int32) C at_248 rfl rfl ?_
    refine w_icmpY 276 C at_249 rfl (show (2 : Int32).toInt ≤ (3 : Int32).toInt from (by decide)) ?_
    refine w_iload 278 C at_276 rfl rfl ?_
    refine w_iconst 279 (4 : Int32) C at_278 rfl rfl ?_
    refine w_icmpY 292 C at_279 rfl (show (2 : Int32).toInt ≤ (4 : Int32).toInt from (by decide)) ?_
    refine w_iloadN 293 C at_292 rfl rfl ?_
    refine w_i2l 294 C at_293 rfl ?_
    refine w_ldc2 (v := (4294967295 : Int64)) 297 C at_294 rfl (hw _ (List.mem_of_getElem? (i := 2) rfl)) ?_
    refine w_land 298 C at_297 rfl ?_
    refine w_lconst 299 (1 : Int64) C at_298 rfl rfl ?_
    refine w_bipush 301 (7 : Int32) C at_299 rfl rfl ?_
    refine w_iload 303 C at_301 rfl rfl ?_
    refine w_imul 304 C at_303 rfl ?_
    rw [show ((7 : Int32) * (2 : Int32)) = (14 : Int32) from by decide]
    refine w_lshl 305 C at_304 rfl ?_
    refine w_lconst 306 (1 : Int64) C at_305 rfl rfl ?_
    refine w_lsub 307 C at_306 rfl ?_
    refine w_land 308 C at_307 rfl ?_
    refine w_lstore 310 [.val (.int p0), .val (.int p1), .val (.long p2), .second, .val (.int p3), .val (.int (2 : Int32)), .val (.int x2), .val (.ref b4), .val (.int x25), .val (.int x26), .val (.int x27), .val (.int x28), .val (.int x29), .val (.long (((p0.toInt64) &&& (4294967295 : Int64)) &&& (((1 : Int64) <<< ((14 : Int32) &&& 0x3f).toInt64) - (1 : Int64)))), .second, .unset, .unset] C at_308 rfl rfl ?_
    generalize hv_x37 : (((p0.toInt64) &&& (4294967295 : Int64)) &&& (((1 : Int64) <<< ((14 : Int32) &&& 0x3f).toInt64) - (1 : Int64))) = x37
    refine w_iload 312 C at_310 rfl rfl ?_
    refine w_iload 314 C at_312 rfl rfl ?_
    refine w_iadd 315 C at_314 rfl ?_
    refine w_i2l 316 C at_315 rfl ?_
    refine w_bipush 318 (32 : Int32) C at_316 rfl rfl ?_
    refine w_lshl 319 C at_318 rfl ?_
    refine w_lload 321 C at_319 rfl rfl ?_
    refine w_lor 322 C at_321 rfl ?_
    refine w_lstore 324 [.val (.int p0), .val (.int p1), .val (.long p2), .second, .val (.int p3), .val (.int (2 : Int32)), .val (.int x2), .val (.ref b4), .val (.int x25), .val (.int x26), .val (.int x27), .val (.int x28), .val (.int x29), .val (.long x37), .second, .val (.long ((((x2 + (2 : Int32)).toInt64) <<< ((32 : Int32) &&& 0x3f).toInt64) ||| x37)), .second] C at_322 rfl rfl ?_
    generalize hv_x38 : ((((x2 + (2 : Int32)).toInt64) <<< ((32 : Int32) &&& 0x3f).toInt64) ||| x37) = x38
    refine w_aload 326 C at_324 rfl rfl rfl ?_
    refine w_iload 328 C at_326 rfl rfl ?_
    have k0 : ((([y6, y8, y10, y12, y14, y16, y18, y20, y22, y24]).set np c0).set (np + 1) c1)[np + 0]? = some c0 := by simp [List.getElem?_set]; omega
    have k1 : ((([y6, y8, y10, y12, y14, y16, y18, y20, y22, y24]).set np c0).set (np + 1) c1)[np + 1]? = some c1 := by simp [List.getElem?_set]; omega
    refine w_callS (y := (⟨"com/example/crestline/crestline/index/PostingCursor$Numbers", "decode", "([BI)J"⟩ : MethodName)) 331 0 [.ref b4, .int x2] C at_328 rfl (hw _ (List.mem_of_getElem? (i := 3) rfl)) (hw _ (List.mem_of_getElem? (i := 4) rfl)) (hw _ (List.mem_of_getElem? (i := 5) rfl)) (hw _ (List.mem_of_getElem? (i := 6) rfl)) (by decide) (rm_dec2 K.l Z a0 hw [] b4 x2 np ((([y6, y8, y10, y12, y14, y16, y18, y20, y22, y24]).set np c0).set (np + 1) c1) c0 c1 h36 n0 hz A_b4 hp (by omega) k0 k1 (by omega) (by omega)) pd_aBI_to_J rfl (rest := []) rfl rfl (Nat.le_of_eq rfl) (by decide) (by decide) (by decide) (by decide) ?_
    rintro v40 h39 ⟨⟨z, rfl, hzz⟩, rfl⟩
    show Go K h36 1 10 331 [.val (.int p0), .val (.int p1), .val (.long p2), .second, .val (.int p3), .val (.int (2 : Int32)), .val (.int x2), .val (.ref b4), .val (.int x25), .val (.int x26), .val (.int x27), .val (.int x28), .val (.int x29), .val (.long x37), .second, .val (.long x38), .second] [.long z]
    refine w_lload 333 C at_331 rfl rfl ?_
    have hva : x37.toInt = U % 16384 := by
      rw [← hv_x37]
      rw [own_maskL _ _ 14 (by decide) (by decide), own_maskL _ 4294967295 32 (by decide) (by decide), own_i2l]; omega
    have hex : x38.toInt = 4294967296 * ((np + 2 : Nat) : Int) + U % 16384 := by
      rw [← hv_x38]
      have q1 : (x2 + (2 : Int32)).toInt = ((np + 2 : Nat) : Int) := by rw [own_iadd, hp, show (2 : Int32).toInt = 2 from by decide]; omega
      have s1 : ((x2 + (2 : Int32)).toInt64 <<< ((32 : Int32) &&& 0x3f).toInt64).toInt = 4294967296 * ((np + 2 : Nat) : Int) := by
        rw [Jvm.Kit.i64_shl _ _ (k := 32) (by decide) (by rw [own_i2l]; omega) (by rw [own_i2l]; omega), own_i2l]; omega
      rw [own_orL _ _ (np + 2) (by omega) (by omega) s1 (by omega), s1, hva]
    have e : z = x38 := own_eqL (by rw [hzz, hex]; omega)
    refine w_lifN 334 337 C at_333 rfl at_334 rfl (show ¬ (¬ (z = x38)) from (fun q => q e)) ?_
    refine w_iconst 338 (1 : Int32) C at_337 rfl rfl ?_
    refine w_goto 342 C at_338 rfl ?_
    refine w_retN C (by simp) at_342 rfl (by decide) (by decide) ?_
    exact rfl
  · obtain rfl : x1 = (3 : Int32) := own_eq (by rw [hl]; decide)
    refine w_aload 166 C at_164 rfl rfl rfl ?_
    refine w_iload 168 C at_166 rfl rfl ?_
    refine w_iload 170 C at_168 rfl rfl ?_
    refine w_iload 172 C at_170 rfl rfl ?_
    refine w_iconst 173 (1 : Int32) C at_172 rfl rfl ?_
    refine w_icmpN 176 C at_173 rfl (show ¬ ((3 : Int32).toInt ≤ (1 : Int32).toInt) from (by decide)) ?_
    refine w_sipush 179 (128 : Int32) C at_176 rfl rfl ?_
    refine w_goto 183 C at_179 rfl ?_
    refine w_ior 184 C at_183 rfl ?_
    refine w_i2b 185 C at_184 rfl ?_
    obtain ⟨c0, hc_c0⟩ : ∃ z : Int32, ((x25 ||| (128 : Int32)).toInt8.toInt32).toInt8.toInt32 = z := ⟨_, rfl⟩
    refine w_bastore 186 (np) c0 C A_b4 g_b4 at_185 rfl hp (by simp; omega) hc_c0 ?_
    intro h41 K_h41 A_b4'
    replace A_b4 : Ai Z h41 b4 .byte (([y6, y8, y10, y12, y14, y16, y18, y20, y22, y24]).set np c0) := A_b4'
    replace hz := Nat.le_trans hz K_h41.1
    have v0 : c0.toInt = x25.toInt - 128 := by rw [← hc_c0, own_i2b, own_i2b, own_or x25 128 7 1 (by omega) (by omega) (by decide) (by omega), e128]; omega
    refine w_iload 188 C at_186 rfl rfl ?_
    refine w_iconst 189 (1 : Int32) C at_188 rfl rfl ?_
    refine w_icmpN 192 C at_189 rfl (show ¬ ((3 : Int32).toInt ≤ (1 : Int32).toInt) from (by decide)) ?_
    refine w_aload 194 C at_192 rfl rfl rfl ?_
    refine w_iload 196 C at_194 rfl rfl ?_
    refine w_iconst 197 (1 : Int32) C at_196 rfl rfl ?_
    refine w_iadd 198 C at_197 rfl ?_
    refine w_iload 200 C at_198 rfl rfl ?_
    refine w_iload 202 C at_200 rfl rfl ?_
    refine w_iconst 203 (2 : Int32) C at_202 rfl rfl ?_
    refine w_icmpN 206 C at_203 rfl (show ¬ ((3 : Int32).toInt ≤ (2 : Int32).toInt) from (by decide)) ?_
    refine w_sipush 209 (128 : Int32) C at_206 rfl rfl ?_
    refine w_goto 213 C at_209 rfl ?_
    refine w_ior 214 C at_213 rfl ?_
    refine w_i2b 215 C at_214 rfl ?_
    obtain ⟨c1, hc_c1⟩ : ∃ z : Int32, ((x26 ||| (128 : Int32)).toInt8.toInt32).toInt8.toInt32 = z := ⟨_, rfl⟩
    refine w_bastore 216 (np + 1) c1 C A_b4 g_b4 at_215 rfl (by rw [own_iadd, hp, show (1 : Int32).toInt = 1 from by decide]; omega) (by simp; omega) hc_c1 ?_
    intro h42 K_h42 A_b4'
    replace A_b4 : Ai Z h42 b4 .byte ((([y6, y8, y10, y12, y14, y16, y18, y20, y22, y24]).set np c0).set (np + 1) c1) := A_b4'
    replace hz := Nat.le_trans hz K_h42.1
    have v1 : c1.toInt = x26.toInt - 128 := by rw [← hc_c1, own_i2b, own_i2b, own_or x26 128 7 1 (by omega) (by omega) (by decide) (by omega), e128]; omega
    refine w_iload 218 C at_216 rfl rfl ?_
    refine w_iconst 219 (2 : Int32) C at_218 rfl rfl ?_
    refine w_icmpN 222 C at_219 rfl (show ¬ ((3 : Int32).toInt ≤ (2 : Int32).toInt) from (by decide)) ?_
    refine w_aload 224 C at_222 rfl rfl rfl ?_
    refine w_iload 226 C at_224 rfl rfl ?_
    refine w_iconst 227 (2 : Int32) C at_226 rfl rfl ?_
    refine w_iadd 228 C at_227 rfl ?_
    refine w_iload 230 C at_228 rfl rfl ?_
    refine w_iload 232 C at_230 rfl rfl ?_
    refine w_iconst 233 (3 : Int32) C at_232 rfl rfl ?_
    refine w_icmpY 242 C at_233 rfl (show (3 : Int32).toInt ≤ (3 : Int32).toInt from (by decide)) ?_
    refine w_iconst 243 (0 : Int32) C at_242 rfl rfl ?_
    refine w_ior 244 C at_243 rfl ?_
    refine w_i2b 245 C at_244 rfl ?_
    obtain ⟨c2, hc_c2⟩ : ∃ z : Int32, ((x27 ||| (0 : Int32)).toInt8.toInt32).toInt8.toInt32 = z := ⟨_, rfl⟩
    refine w_bastore 246 (np + 2) c2 C A_b4 g_b4 at_245 rfl (by rw [own_iadd, hp, show (2 : Int32).toInt = 2 from by decide]; omega) (by simp; omega) hc_c2 ?_
    intro h43 K_h43 A_b4'
    replace A_b4 : Ai Z h43 b4 .byte (((([y6, y8, y10, y12, y14, y16, y18, y20, y22, y24]).set np c0).set (np + 1) c1).set (np + 2) c2) := A_b4'
    replace hz := Nat.le_trans hz K_h43.1
    have v2 : c2.toInt = x27.toInt := by rw [← hc_c2, own_i2b, own_i2b, own_or x27 0 7 0 (by omega) (by omega) (by decide) (by omega), e00]; omega
    refine w_iload 248 C at_246 rfl rfl ?_
    refine w_iconst 249 (3 : Int32) C at_248 rfl rfl ?_
    refine w_icmpY 276 C at_249 rfl (show (3 : Int32).toInt ≤ (3 : Int32).toInt from (by decide)) ?_
    refine w_iload 278 C at_276 rfl rfl ?_
    refine w_iconst 279 (4 : Int32) C at_278 rfl rfl ?_
    refine w_icmpY 292 C at_279 rfl (show (3 : Int32).toInt ≤ (4 : Int32).toInt from (by decide)) ?_
    refine w_iloadN 293 C at_292 rfl rfl ?_
    refine w_i2l 294 C at_293 rfl ?_
    refine w_ldc2 (v := (4294967295 : Int64)) 297 C at_294 rfl (hw _ (List.mem_of_getElem? (i := 2) rfl)) ?_
    refine w_land 298 C at_297 rfl ?_
    refine w_lconst 299 (1 : Int64) C at_298 rfl rfl ?_
    refine w_bipush 301 (7 : Int32) C at_299 rfl rfl ?_
    refine w_iload 303 C at_301 rfl rfl ?_
    refine w_imul 304 C at_303 rfl ?_
    rw [show ((7 : Int32) * (3 : Int32)) = (21 : Int32) from by decide]
    refine w_lshl 305 C at_304 rfl ?_
    refine w_lconst 306 (1 : Int64) C at_305 rfl rfl ?_
    refine w_lsub 307 C at_306 rfl ?_
    refine w_land 308 C at_307 rfl ?_
    refine w_lstore 310 [.val (.int p0), .val (.int p1), .val (.long p2), .second, .val (.int p3), .val (.int (3 : Int32)), .val (.int x2), .val (.ref b4), .val (.int x25), .val (.int x26), .val (.int x27), .val (.int x28), .val (.int x29), .val (.long (((p0.toInt64) &&& (4294967295 : Int64)) &&& (((1 : Int64) <<< ((21 : Int32) &&& 0x3f).toInt64) - (1 : Int64)))), .second, .unset, .unset] C at_308 rfl rfl ?_
    generalize hv_x44 : (((p0.toInt64) &&& (4294967295 : Int64)) &&& (((1 : Int64) <<< ((21 : Int32) &&& 0x3f).toInt64) - (1 : Int64))) = x44
    refine w_iload 312 C at_310 rfl rfl ?_
    refine w_iload 314 C at_312 rfl rfl ?_
    refine w_iadd 315 C at_314 rfl ?_
    refine w_i2l 316 C at_315 rfl ?_
    refine w_bipush 318 (32 : Int32) C at_316 rfl rfl ?_
    refine w_lshl 319 C at_318 rfl ?_
    refine w_lload 321 C at_319 rfl rfl ?_
    refine w_lor 322 C at_321 rfl ?_
    refine w_lstore 324 [.val (.int p0), .val (.int p1), .val (.long p2), .second, .val (.int p3), .val (.int (3 : Int32)), .val (.int x2), .val (.ref b4), .val (.int x25), .val (.int x26), .val (.int x27), .val (.int x28), .val (.int x29), .val (.long x44), .second, .val (.long ((((x2 + (3 : Int32)).toInt64) <<< ((32 : Int32) &&& 0x3f).toInt64) ||| x44)), .second] C at_322 rfl rfl ?_
    generalize hv_x45 : ((((x2 + (3 : Int32)).toInt64) <<< ((32 : Int32) &&& 0x3f).toInt64) ||| x44) = x45
    refine w_aload 326 C at_324 rfl rfl rfl ?_
    refine w_iload 328 C at_326 rfl rfl ?_
    have k0 : (((([y6, y8, y10, y12, y14, y16, y18, y20, y22, y24]).set np c0).set (np + 1) c1).set (np + 2) c2)[np + 0]? = some c0 := by simp [List.getElem?_set]; omega
    have k1 : (((([y6, y8, y10, y12, y14, y16, y18, y20, y22, y24]).set np c0).set (np + 1) c1).set (np + 2) c2)[np + 1]? = some c1 := by simp [List.getElem?_set]; omega
    have k2 : (((([y6, y8, y10, y12, y14, y16, y18, y20, y22, y24]).set np c0).set (np + 1) c1).set (np + 2) c2)[np + 2]? = some c2 := by simp [List.getElem?_set]; omega
    refine w_callS (y := (⟨"com/example/crestline/crestline/index/PostingCursor$Numbers", "decode", "([BI)J"⟩ : MethodName)) 331 0 [.ref b4, .int x2] C at_328 rfl (hw _ (List.mem_of_getElem? (i := 3) rfl)) (hw _ (List.mem_of_getElem? (i := 4) rfl)) (hw _ (List.mem_of_getElem? (i := 5) rfl)) (hw _ (List.mem_of_getElem? (i := 6) rfl)) (by decide) (rm_dec3 K.l Z a0 hw [] b4 x2 np (((([y6, y8, y10, y12, y14, y16, y18, y20, y22, y24]).set np c0).set (np + 1) c1).set (np + 2) c2) c0 c1 c2 h43 n0 hz A_b4 hp (by omega) k0 k1 k2 (by omega) (by omega) (by omega)) pd_aBI_to_J rfl (rest := []) rfl rfl (Nat.le_of_eq rfl) (by decide) (by decide) (by decide) (by decide) ?_
    rintro v47 h46 ⟨⟨z, rfl, hzz⟩, rfl⟩
    show Go K h43 1 10 331 [.val (.int p0), .val (.int p1), .val (.long p2), .second, .val (.int p3), .val (.int (3 : Int32)), .val (.int x2), .val (.ref b4), .val (.int x25), .val (.int x26), .val (.int x27), .val (.int x28), .val (.int x29), .val (.long x44), .second, .val (.long x45), .second] [.long z]
    refine w_lload 333 C at_331 rfl rfl ?_
    have hva : x44.toInt = U % 2097152 := by
      rw [← hv_x44]
      rw [own_maskL _ _ 21 (by decide) (by decide), own_maskL _ 4294967295 32 (by decide) (by decide), own_i2l]; omega
    have hex : x45.toInt = 4294967296 * ((np + 3 : Nat) : Int) + U % 2097152 := by
      rw [← hv_x45]
      have q1 : (x2 + (3 : Int32)).toInt = ((np + 3 : Nat) : Int) := by rw [own_iadd, hp, show (3 : Int32).toInt = 3 from by decide]; omega
      have s1 : ((x2 + (3 : Int32)).toInt64 <<< ((32 : Int32) &&& 0x3f).toInt64).toInt = 4294967296 * ((np + 3 : Nat) : Int) := by
        rw [Jvm.Kit.i64_shl _ _ (k := 32) (by decide) (by rw [own_i2l]; omega) (by rw [own_i2l]; omega), own_i2l]; omega
      rw [own_orL _ _ (np + 3) (by omega) (by omega) s1 (by omega), s1, hva]
    have e : z = x45 := own_eqL (by rw [hzz, hex]; omega)
    refine w_lifN 334 337 C at_333 rfl at_334 rfl (show ¬ (¬ (z = x45)) from (fun q => q e)) ?_
    refine w_iconst 338 (1 : Int32) C at_337 rfl rfl ?_
    refine w_goto 342 C at_338 rfl ?_
    refine w_retN C (by simp) at_342 rfl (by decide) (by decide) ?_
    exact rfl
  · obtain rfl : x1 = (4 : Int32) := own_eq (by rw [hl]; decide)
    refine w_aload 166 C at_164 rfl rfl rfl ?_
    refine w_iload 168 C at_166 rfl rfl ?_
    refine w_iload 170 C at_168 rfl rfl ?_
    refine w_iload 172 C at_170 rfl rfl ?_
    refine w_iconst 173 (1 : Int32) C at_172 rfl rfl ?_
    refine w_icmpN 176 C at_173 rfl (show ¬ ((4 : Int32).toInt ≤ (1 : Int32).toInt) from (by decide)) ?_
    refine w_sipush 179 (128 : Int32) C at_176 rfl rfl ?_
    refine w_goto 183 C at_179 rfl ?_
    refine w_ior 184 C at_183 rfl ?_
    refine w_i2b 185 C at_184 rfl ?_
    obtain ⟨c0, hc_c0⟩ : ∃ z : Int32, ((x25 ||| (128 : Int32)).toInt8.toInt32).toInt8.toInt32 = z := ⟨_, rfl⟩
    refine w_bastore 186 (np) c0 C A_b4 g_b4 at_185 rfl hp (by simp; omega) hc_c0 ?_
    intro h48 K_h48 A_b4'
    replace A_b4 : Ai Z h48 b4 .byte (([y6, y8, y10, y12, y14, y16, y18, y20, y22, y24]).set np c0) := A_b4'
    replace hz := Nat.le_trans hz K_h48.1
    have v0 : c0.toInt = x25.toInt - 128 := by rw [← hc_c0, own_i2b, own_i2b, own_or x25 128 7 1 (by omega) (by omega) (by decide) (by omega), e128]; omega
    refine w_iload 188 C at_186 rfl rfl ?_
    refine w_iconst 189 (1 : Int32) C at_188 rfl rfl ?_
    refine w_icmpN 192 C at_189 rfl (show ¬ ((4 : Int32).toInt ≤ (1 : Int32).toInt) from (by decide)) ?_
    refine w_aload 194 C at_192 rfl rfl rfl ?_
    refine w_iload 196 C at_194 rfl rfl ?_
    refine w_iconst 197 (1 : Int32) C at_196 rfl rfl ?_
    refine w_iadd 198 C at_197 rfl ?_
    refine w_iload 200 C at_198 rfl rfl ?_
    refine w_iload 202 C at_200 rfl rfl ?_
    refine w_iconst 203 (2 : Int32) C at_202 rfl rfl ?_
    refine w_icmpN 206 C at_203 rfl (show ¬ ((4 : Int32).toInt ≤ (2 : Int32).toInt) from (by decide)) ?_
    refine w_sipush 209 (128 : Int32) C at_206 rfl rfl ?_
    refine w_goto 213 C at_209 rfl ?_
    refine w_ior 214 C at_213 rfl ?_
    refine w_i2b 215 C at_214 rfl ?_
    obtain ⟨c1, hc_c1⟩ : ∃ z : Int32, ((x26 ||| (128 : Int32)).toInt8.toInt32).toInt8.toInt32 = z := ⟨_, rfl⟩
    refine w_bastore 216 (np + 1) c1 C A_b4 g_b4 at_215 rfl (by rw [own_iadd, hp, show (1 : Int32).toInt = 1 from by decide]; omega) (by simp; omega) hc_c1 ?_
    intro h49 K_h49 A_b4'
    replace A_b4 : Ai Z h49 b4 .byte ((([y6, y8, y10, y12, y14, y16, y18, y20, y22, y24]).set np c0).set (np + 1) c1) := A_b4'
    replace hz := Nat.le_trans hz K_h49.1
    have v1 : c1.toInt = x26.toInt - 128 := by rw [← hc_c1, own_i2b, own_i2b, own_or x26 128 7 1 (by omega) (by omega) (by decide) (by omega), e128]; omega
    refine w_iload 218 C at_216 rfl rfl ?_
    refine w_iconst 219 (2 : Int32) C at_218 rfl rfl ?_
    refine w_icmpN 222 C at_219 rfl (show ¬ ((4 : Int32).toInt ≤ (2 : Int32).toInt) from (by decide)) ?_
    refine w_aload 224 C at_222 rfl rfl rfl ?_
    refine w_iload 226 C at_224 rfl rfl ?_
    refine w_iconst 227 (2 : Int32) C at_226 rfl rfl ?_
    refine w_iadd 228 C at_227 rfl ?_
    refine w_iload 230 C at_228 rfl rfl ?_
    refine w_iload 232 C at_230 rfl rfl ?_
    refine w_iconst 233 (3 : Int32) C at_232 rfl rfl ?_
    refine w_icmpN 236 C at_233 rfl (show ¬ ((4 : Int32).toInt ≤ (3 : Int32).toInt) from (by decide)) ?_
    refine w_sipush 239 (128 : Int32) C at_236 rfl rfl ?_
    refine w_goto 243 C at_239 rfl ?_
    refine w_ior 244 C at_243 rfl ?_
    refine w_i2b 245 C at_244 rfl ?_
    obtain ⟨c2, hc_c2⟩ : ∃ z : Int32, ((x27 ||| (128 : Int32)).toInt8.toInt32).toInt8.toInt32 = z := ⟨_, rfl⟩
    refine w_bastore 246 (np + 2) c2 C A_b4 g_b4 at_245 rfl (by rw [own_iadd, hp, show (2 : Int32).toInt = 2 from by decide]; omega) (by simp; omega) hc_c2 ?_
    intro h50 K_h50 A_b4'
    replace A_b4 : Ai Z h50 b4 .byte (((([y6, y8, y10, y12, y14, y16, y18, y20, y22, y24]).set np c0).set (np + 1) c1).set (np + 2) c2) := A_b4'
    replace hz := Nat.le_trans hz K_h50.1
    have v2 : c2.toInt = x27.toInt - 128 := by rw [← hc_c2, own_i2b, own_i2b, own_or x27 128 7 1 (by omega) (by omega) (by decide) (by omega), e128]; omega
    refine w_iload 248 C at_246 rfl rfl ?_
    refine w_iconst 249 (3 : Int32) C at_248 rfl rfl ?_
    refine w_icmpN 252 C at_249 rfl (show ¬ ((4 : Int32).toInt ≤ (3 : Int32).toInt) from (by decide)) ?_
    refine w_aload 254 C at_252 rfl rfl rfl ?_
    refine w_iload 256 C at_254 rfl rfl ?_
    refine w_iconst 257 (3 : Int32) C at_256 rfl rfl ?_
    refine w_iadd 258 C at_257 rfl ?_
    refine w_iload 260 C at_258 rfl rfl ?_
    refine w_iload 262 C at_260 rfl rfl ?_
    refine w_iconst 263 (4 : Int32) C at_262 rfl rfl ?_
    refine w_icmpY 272 C at_263 rfl (show (4 : Int32).toInt ≤ (4 : Int32).toInt from (by decide)) ?_
    refine w_iconst 273 (0 : Int32) C at_272 rfl rfl ?_
    refine w_ior 274 C at_273 rfl ?_
    refine w_i2b 275 C at_274 rfl ?_
    obtain ⟨c3, hc_c3⟩ : ∃ z : Int32, ((x28 ||| (0 : Int32)).toInt8.toInt32).toInt8.toInt32 = z := ⟨_, rfl⟩
    refine w_bastore 276 (np + 3) c3 C A_b4 g_b4 at_275 rfl (by rw [own_iadd, hp, show (3 : Int32).toInt = 3 from by decide]; omega) (by simp; omega) hc_c3 ?_
    intro h51 K_h51 A_b4'
    replace A_b4 : Ai Z h51 b4 .byte ((((([y6, y8, y10, y12, y14, y16, y18, y20, y22, y24]).set np c0).set (np + 1) c1).set (np + 2) c2).set (np + 3) c3) := A_b4'
    replace hz := Nat.le_trans hz K_h51.1
    have v3 : c3.toInt = x28.toInt := by rw [← hc_c3, own_i2b, own_i2b, own_or x28 0 7 0 (by omega) (by omega) (by decide) (by omega), e00]; omega
    refine w_iload 278 C at_276 rfl rfl ?_
    refine w_iconst 279 (4 : Int32) C at_278 rfl rfl ?_
    refine w_icmpY 292 C at_279 rfl (show (4 : Int32).toInt ≤ (4 : Int32).toInt from (by decide)) ?_
    refine w_iloadN 293 C at_292 rfl rfl ?_
    refine w_i2l 294 C at_293 rfl ?_
    refine w_ldc2 (v := (4294967295 : Int64)) 297 C at_294 rfl (hw _ (List.mem_of_getElem? (i := 2) rfl)) ?_
    refine w_land 298 C at_297 rfl ?_
    refine w_lconst 299 (1 : Int64) C at_298 rfl rfl ?_
    refine w_bipush 301 (7 : Int32) C at_299 rfl rfl ?_
    refine w_iload 303 C at_301 rfl rfl ?_
    refine w_imul 304 C at_303 rfl ?_
    rw [show ((7 : Int32) * (4 : Int32)) = (28 : Int32) from by decide]
    refine w_lshl 305 C at_304 rfl ?_
    refine w_lconst 306 (1 : Int64) C at_305 rfl rfl ?_
    refine w_lsub 307 C at_306 rfl ?_
    refine w_land 308 C at_307 rfl ?_
    refine w_lstore 310 [.val (.int p0), .val (.int p1), .val (.long p2), .second, .val (.int p3), .val (.int (4 : Int32)), .val (.int x2), .val (.ref b4), .val (.int x25), .val (.int x26), .val (.int x27), .val (.int x28), .val (.int x29), .val (.long (((p0.toInt64) &&& (4294967295 : Int64)) &&& (((1 : Int64) <<< ((28 : Int32) &&& 0x3f).toInt64) - (1 : Int64)))), .second, .unset, .unset] C at_308 rfl rfl ?_
    generalize hv_x52 : (((p0.toInt64) &&& (4294967295 : Int64)) &&& (((1 : Int64) <<< ((28 : Int32) &&& 0x3f).toInt64) - (1 : Int64))) = x52
    refine w_iload 312 C at_310 rfl rfl ?_
    refine w_iload 314 C at_312 rfl rfl ?_
    refine w_iadd 315 C at_314 rfl ?_
    refine w_i2l 316 C at_315 rfl ?_
    refine w_bipush 318 (32 : Int32) C at_316 rfl rfl ?_
    refine w_lshl 319 C at_318 rfl ?_
    refine w_lload 321 C at_319 rfl rfl ?_
    refine w_lor 322 C at_321 rfl ?_
    refine w_lstore 324 [.val (.int p0), .val (.int p1), .val (.long p2), .second, .val (.int p3), .val (.int (4 : Int32)), .val (.int x2), .val (.ref b4), .val (.int x25), .val (.int x26), .val (.int x27), .val (.int x28), .val (.int x29), .val (.long x52), .second, .val (.long ((((x2 + (4 : Int32)).toInt64) <<< ((32 : Int32) &&& 0x3f).toInt64) ||| x52)), .second] C at_322 rfl rfl ?_
    generalize hv_x53 : ((((x2 + (4 : Int32)).toInt64) <<< ((32 : Int32) &&& 0x3f).toInt64) ||| x52) = x53
    refine w_aload 326 C at_324 rfl rfl rfl ?_
    refine w_iload 328 C at_326 rfl rfl ?_
    have k0 : ((((([y6, y8, y10, y12, y14, y16, y18, y20, y22, y24]).set np c0).set (np + 1) c1).set (np + 2) c2).set (np + 3) c3)[np + 0]? = some c0 := by simp [List.getElem?_set]; omega
    have k1 : ((((([y6, y8, y10, y12, y14, y16, y18, y20, y22, y24]).set np c0).set (np + 1) c1).set (np + 2) c2).set (np + 3) c3)[np + 1]? = some c1 := by simp [List.getElem?_set]; omega
    have k2 : ((((([y6, y8, y10, y12, y14, y16, y18, y20, y22, y24]).set np c0).set (np + 1) c1).set (np + 2) c2).set (np + 3) c3)[np + 2]? = some c2 := by simp [List.getElem?_set]; omega
    have k3 : ((((([y6, y8, y10, y12, y14, y16, y18, y20, y22, y24]).set np c0).set (np + 1) c1).set (np + 2) c2).set (np + 3) c3)[np + 3]? = some c3 := by simp [List.getElem?_set]; omega
    refine w_callS (y := (⟨"com/example/crestline/crestline/index/PostingCursor$Numbers", "decode", "([BI)J"⟩ : MethodName)) 331 0 [.ref b4, .int x2] C at_328 rfl (hw _ (List.mem_of_getElem? (i := 3) rfl)) (hw _ (List.mem_of_getElem? (i := 4) rfl)) (hw _ (List.mem_of_getElem? (i := 5) rfl)) (hw _ (List.mem_of_getElem? (i := 6) rfl)) (by decide) (rm_dec4 K.l Z a0 hw [] b4 x2 np ((((([y6, y8, y10, y12, y14, y16, y18, y20, y22, y24]).set np c0).set (np + 1) c1).set (np + 2) c2).set (np + 3) c3) c0 c1 c2 c3 h51 n0 hz A_b4 hp (by omega) k0 k1 k2 k3 (by omega) (by omega) (by omega) (by omega)) pd_aBI_to_J rfl (rest := []) rfl rfl (Nat.le_of_eq rfl) (by decide) (by decide) (by decide) (by decide) ?_
    rintro v55 h54 ⟨⟨z, rfl, hzz⟩, rfl⟩
    show Go K h51 1 10 331 [.val (.int p0), .val (.int p1), .val (.long p2), .second, .val (.int p3), .val (.int (4 : Int32)), .val (.int x2), .val (.ref b4), .val (.int x25), .val (.int x26), .val (.int x27), .val (.int x28), .val (.int x29), .val (.long x52), .second, .val (.long x53), .second] [.long z]
    refine w_lload 333 C at_331 rfl rfl ?_
    have hva : x52.toInt = U % 268435456 := by
      rw [← hv_x52]
      rw [own_maskL _ _ 28 (by decide) (by decide), own_maskL _ 4294967295 32 (by decide) (by decide), own_i2l]; omega
    have hex : x53.toInt = 4294967296 * ((np + 4 : Nat) : Int) + U % 268435456 := by
      rw [← hv_x53]
      have q1 : (x2 + (4 : Int32)).toInt = ((np + 4 : Nat) : Int) := by rw [own_iadd, hp, show (4 : Int32).toInt = 4 from by decide]; omega
      have s1 : ((x2 + (4 : Int32)).toInt64 <<< ((32 : Int32) &&& 0x3f).toInt64).toInt = 4294967296 * ((np + 4 : Nat) : Int) := by
        rw [Jvm.Kit.i64_shl _ _ (k := 32) (by decide) (by rw [own_i2l]; omega) (by rw [own_i2l]; omega), own_i2l]; omega
      rw [own_orL _ _ (np + 4) (by omega) (by omega) s1 (by omega), s1, hva]
    have e : z = x53 := own_eqL (by rw [hzz, hex]; omega)
    refine w_lifN 334 337 C at_333 rfl at_334 rfl (show ¬ (¬ (z = x53)) from (fun q => q e)) ?_
    refine w_iconst 338 (1 : Int32) C at_337 rfl rfl ?_
    refine w_goto 342 C at_338 rfl ?_
    refine w_retN C (by simp) at_342 rfl (by decide) (by decide) ?_
    exact rfl
  · obtain rfl : x1 = (5 : Int32) := own_eq (by rw [hl]; decide)
    refine w_aload 166 C at_164 rfl rfl rfl ?_
    refine w_iload 168 C at_166 rfl rfl ?_
    refine w_iload 170 C at_168 rfl rfl ?_
    refine w_iload 172 C at_170 rfl rfl ?_
    refine w_iconst 173 (1 : Int32) C at_172 rfl rfl ?_
    refine w_icmpN 176 C at_173 rfl (show ¬ ((5 : Int32).toInt ≤ (1 : Int32).toInt) from (by decide)) ?_
    refine w_sipush 179 (128 : Int32) C at_176 rfl rfl ?_
    refine w_goto 183 C at_179 rfl ?_
    refine w_ior 184 C at_183 rfl ?_
    refine w_i2b 185 C at_184 rfl ?_
    obtain ⟨c0, hc_c0⟩ : ∃ z : Int32, ((x25 ||| (128 : Int32)).toInt8.toInt32).toInt8.toInt32 = z := ⟨_, rfl⟩
    refine w_bastore 186 (np) c0 C A_b4 g_b4 at_185 rfl hp (by simp; omega) hc_c0 ?_
    intro h56 K_h56 A_b4'
    replace A_b4 : Ai Z h56 b4 .byte (([y6, y8, y10, y12, y14, y16, y18, y20, y22, y24]).set np c0) := A_b4'
    replace hz := Nat.le_trans hz K_h56.1
    have v0 : c0.toInt = x25.toInt - 128 := by rw [← hc_c0, own_i2b, own_i2b, own_or x25 128 7 1 (by omega) (by omega) (by decide) (by omega), e128]; omega
    refine w_iload 188 C at_186 rfl rfl ?_
    refine w_iconst 189 (1 : Int32) C at_188 rfl rfl ?_
    refine w_icmpN 192 C at_189 rfl (show ¬ ((5 : Int32).toInt ≤ (1 : Int32).toInt) from (by decide)) ?_
    refine w_aload 194 C at_192 rfl rfl rfl ?_
    refine w_iload 196 C at_194 rfl rfl ?_
    refine w_iconst 197 (1 : Int32) C at_196 rfl rfl ?_
    refine w_iadd 198 C at_197 rfl ?_
    refine w_iload 200 C at_198 rfl rfl ?_
    refine w_iload 202 C at_200 rfl rfl ?_
    refine w_iconst 203 (2 : Int32) C at_202 rfl rfl ?_
    refine w_icmpN 206 C at_203 rfl (show ¬ ((5 : Int32).toInt ≤ (2 : Int32).toInt) from (by decide)) ?_
    refine w_sipush 209 (128 : Int32) C at_206 rfl rfl ?_
    refine w_goto 213 C at_209 rfl ?_
    refine w_ior 214 C at_213 rfl ?_
    refine w_i2b 215 C at_214 rfl ?_
    obtain ⟨c1, hc_c1⟩ : ∃ z : Int32, ((x26 ||| (128 : Int32)).toInt8.toInt32).toInt8.toInt32 = z := ⟨_, rfl⟩
    refine w_bastore 216 (np + 1) c1 C A_b4 g_b4 at_215 rfl (by rw [own_iadd, hp, show (1 : Int32).toInt = 1 from by decide]; omega) (by simp; omega) hc_c1 ?_
    intro h57 K_h57 A_b4'
    replace A_b4 : Ai Z h57 b4 .byte ((([y6, y8, y10, y12, y14, y16, y18, y20, y22, y24]).set np c0).set (np + 1) c1) := A_b4'
    replace hz := Nat.le_trans hz K_h57.1
    have v1 : c1.toInt = x26.toInt - 128 := by rw [← hc_c1, own_i2b, own_i2b, own_or x26 128 7 1 (by omega) (by omega) (by decide) (by omega), e128]; omega
    refine w_iload 218 C at_216 rfl rfl ?_
    refine w_iconst 219 (2 : Int32) C at_218 rfl rfl ?_
    refine w_icmpN 222 C at_219 rfl (show ¬ ((5 : Int32).toInt ≤ (2 : Int32).toInt) from (by decide)) ?_
    refine w_aload 224 C at_222 rfl rfl rfl ?_
    refine w_iload 226 C at_224 rfl rfl ?_
    refine w_iconst 227 (2 : Int32) C at_226 rfl rfl ?_
    refine w_iadd 228 C at_227 rfl ?_
    refine w_iload 230 C at_228 rfl rfl ?_
    refine w_iload 232 C at_230 rfl rfl ?_
    refine w_iconst 233 (3 : Int32) C at_232 rfl rfl ?_
    refine w_icmpN 236 C at_233 rfl (show ¬ ((5 : Int32).toInt ≤ (3 : Int32).toInt) from (by decide)) ?_
    refine w_sipush 239 (128 : Int32) C at_236 rfl rfl ?_
    refine w_goto 243 C at_239 rfl ?_
    refine w_ior 244 C at_243 rfl ?_
    refine w_i2b 245 C at_244 rfl ?_
    obtain ⟨c2, hc_c2⟩ : ∃ z : Int32, ((x27 ||| (128 : Int32)).toInt8.toInt32).toInt8.toInt32 = z := ⟨_, rfl⟩
    refine w_bastore 246 (np + 2) c2 C A_b4 g_b4 at_245 rfl (by rw [own_iadd, hp, show (2 : Int32).toInt = 2 from by decide]; omega) (by simp; omega) hc_c2 ?_
    intro h58 K_h58 A_b4'
    replace A_b4 : Ai Z h58 b4 .byte (((([y6, y8, y10, y12, y14, y16, y18, y20, y22, y24]).set np c0).set (np + 1) c1).set (np + 2) c2) := A_b4'
    replace hz := Nat.le_trans hz K_h58.1
    have v2 : c2.toInt = x27.toInt - 128 := by rw [← hc_c2, own_i2b, own_i2b, own_or x27 128 7 1 (by omega) (by omega) (by decide) (by omega), e128]; omega
    refine w_iload 248 C at_246 rfl rfl ?_
    refine w_iconst 249 (3 : Int32) C at_248 rfl rfl ?_
    refine w_icmpN 252 C at_249 rfl (show ¬ ((5 : Int32).toInt ≤ (3 : Int32).toInt) from (by decide)) ?_
    refine w_aload 254 C at_252 rfl rfl rfl ?_
    refine w_iload 256 C at_254 rfl rfl ?_
    refine w_iconst 257 (3 : Int32) C at_256 rfl rfl ?_
    refine w_iadd 258 C at_257 rfl ?_
    refine w_iload 260 C at_258 rfl rfl ?_
    refine w_iload 262 C at_260 rfl rfl ?_
    refine w_iconst 263 (4 : Int32) C at_262 rfl rfl ?_
    refine w_icmpN 266 C at_263 rfl (show ¬ ((5 : Int32).toInt ≤ (4 : Int32).toInt) from (by decide)) ?_
    refine w_sipush 269 (128 : Int32) C at_266 rfl rfl ?_
    refine w_goto 273 C at_269 rfl ?_
    refine w_ior 274 C at_273 rfl ?_
    refine w_i2b 275 C at_274 rfl ?_
    obtain ⟨c3, hc_c3⟩ : ∃ z : Int32, ((x28 ||| (128 : Int32)).toInt8.toInt32).toInt8.toInt32 = z := ⟨_, rfl⟩
    refine w_bastore 276 (np + 3) c3 C A_b4 g_b4 at_275 rfl (by rw [own_iadd, hp, show (3 : Int32).toInt = 3 from by decide]; omega) (by simp; omega) hc_c3 ?_
    intro h59 K_h59 A_b4'
    replace A_b4 : Ai Z h59 b4 .byte ((((([y6, y8, y10, y12, y14, y16, y18, y20, y22, y24]).set np c0).set (np + 1) c1).set (np + 2) c2).set (np + 3) c3) := A_b4'
    replace hz := Nat.le_trans hz K_h59.1
    have v3 : c3.toInt = x28.toInt - 128 := by rw [← hc_c3, own_i2b, own_i2b, own_or x28 128 7 1 (by omega) (by omega) (by decide) (by omega), e128]; omega
    refine w_iload 278 C at_276 rfl rfl ?_
    refine w_iconst 279 (4 : Int32) C at_278 rfl rfl ?_
    refine w_icmpN 282 C at_279 rfl (show ¬ ((5 : Int32).toInt ≤ (4 : Int32).toInt) from (by decide)) ?_
    refine w_aload 284 C at_282 rfl rfl rfl ?_
    refine w_iload 286 C at_284 rfl rfl ?_
    refine w_iconst 287 (4 : Int32) C at_286 rfl rfl ?_
    refine w_iadd 288 C at_287 rfl ?_
    refine w_iload 290 C at_288 rfl rfl ?_
    refine w_i2b 291 C at_290 rfl ?_
    obtain ⟨c4, hc_c4⟩ : ∃ z : Int32, (x29.toInt8.toInt32).toInt8.toInt32 = z := ⟨_, rfl⟩
    refine w_bastore 292 (np + 4) c4 C A_b4 g_b4 at_291 rfl (by rw [own_iadd, hp, show (4 : Int32).toInt = 4 from by decide]; omega) (by simp; omega) hc_c4 ?_
    intro h60 K_h60 A_b4'
    replace A_b4 : Ai Z h60 b4 .byte (((((([y6, y8, y10, y12, y14, y16, y18, y20, y22, y24]).set np c0).set (np + 1) c1).set (np + 2) c2).set (np + 3) c3).set (np + 4) c4) := A_b4'
    replace hz := Nat.le_trans hz K_h60.1
    have v4 : c4.toInt = x29.toInt := by rw [← hc_c4, own_i2b, own_i2b]; omega
    refine w_iloadN 293 C at_292 rfl rfl ?_
    refine w_i2l 294 C at_293 rfl ?_
    refine w_ldc2 (v := (4294967295 : Int64)) 297 C at_294 rfl (hw _ (List.mem_of_getElem? (i := 2) rfl)) ?_
    refine w_land 298 C at_297 rfl ?_
    refine w_lconst 299 (1 : Int64) C at_298 rfl rfl ?_
    refine w_bipush 301 (7 : Int32) C at_299 rfl rfl ?_
    refine w_iload 303 C at_301 rfl rfl ?_
    refine w_imul 304 C at_303 rfl ?_
    rw [show ((7 : Int32) * (5 : Int32)) = (35 : Int32) from by decide]
    refine w_lshl 305 C at_304 rfl ?_
    refine w_lconst 306 (1 : Int64) C at_305 rfl rfl ?_
    refine w_lsub 307 C at_306 rfl ?_
    refine w_land 308 C at_307 rfl ?_
    refine w_lstore 310 [.val (.int p0), .val (.int p1), .val (.long p2), .second, .val (.int p3), .val (.int (5 : Int32)), .val (.int x2), .val (.ref b4), .val (.int x25), .val (.int x26), .val (.int x27), .val (.int x28), .val (.int x29), .val (.long (((p0.toInt64) &&& (4294967295 : Int64)) &&& (((1 : Int64) <<< ((35 : Int32) &&& 0x3f).toInt64) - (1 : Int64)))), .second, .unset, .unset] C at_308 rfl rfl ?_
    generalize hv_x61 : (((p0.toInt64) &&& (4294967295 : Int64)) &&& (((1 : Int64) <<< ((35 : Int32) &&& 0x3f).toInt64) - (1 : Int64))) = x61
    refine w_iload 312 C at_310 rfl rfl ?_
    refine w_iload 314 C at_312 rfl rfl ?_
    refine w_iadd 315 C at_314 rfl ?_
    refine w_i2l 316 C at_315 rfl ?_
    refine w_bipush 318 (32 : Int32) C at_316 rfl rfl ?_
    refine w_lshl 319 C at_318 rfl ?_
    refine w_lload 321 C at_319 rfl rfl ?_
    refine w_lor 322 C at_321 rfl ?_
    refine w_lstore 324 [.val (.int p0), .val (.int p1), .val (.long p2), .second, .val (.int p3), .val (.int (5 : Int32)), .val (.int x2), .val (.ref b4), .val (.int x25), .val (.int x26), .val (.int x27), .val (.int x28), .val (.int x29), .val (.long x61), .second, .val (.long ((((x2 + (5 : Int32)).toInt64) <<< ((32 : Int32) &&& 0x3f).toInt64) ||| x61)), .second] C at_322 rfl rfl ?_
    generalize hv_x62 : ((((x2 + (5 : Int32)).toInt64) <<< ((32 : Int32) &&& 0x3f).toInt64) ||| x61) = x62
    refine w_aload 326 C at_324 rfl rfl rfl ?_
    refine w_iload 328 C at_326 rfl rfl ?_
    have k0 : (((((([y6, y8, y10, y12, y14, y16, y18, y20, y22, y24]).set np c0).set (np + 1) c1).set (np + 2) c2).set (np + 3) c3).set (np + 4) c4)[np + 0]? = some c0 := by simp [List.getElem?_set]; omega
    have k1 : (((((([y6, y8, y10, y12, y14, y16, y18, y20, y22, y24]).set np c0).set (np + 1) c1).set (np + 2) c2).set (np + 3) c3).set (np + 4) c4)[np + 1]? = some c1 := by simp [List.getElem?_set]; omega
    have k2 : (((((([y6, y8, y10, y12, y14, y16, y18, y20, y22, y24]).set np c0).set (np + 1) c1).set (np + 2) c2).set (np + 3) c3).set (np + 4) c4)[np + 2]? = some c2 := by simp [List.getElem?_set]; omega
    have k3 : (((((([y6, y8, y10, y12, y14, y16, y18, y20, y22, y24]).set np c0).set (np + 1) c1).set (np + 2) c2).set (np + 3) c3).set (np + 4) c4)[np + 3]? = some c3 := by simp [List.getElem?_set]; omega
    have k4 : (((((([y6, y8, y10, y12, y14, y16, y18, y20, y22, y24]).set np c0).set (np + 1) c1).set (np + 2) c2).set (np + 3) c3).set (np + 4) c4)[np + 4]? = some c4 := by simp [List.getElem?_set]; omega
    refine w_callS (y := (⟨"com/example/crestline/crestline/index/PostingCursor$Numbers", "decode", "([BI)J"⟩ : MethodName)) 331 0 [.ref b4, .int x2] C at_328 rfl (hw _ (List.mem_of_getElem? (i := 3) rfl)) (hw _ (List.mem_of_getElem? (i := 4) rfl)) (hw _ (List.mem_of_getElem? (i := 5) rfl)) (hw _ (List.mem_of_getElem? (i := 6) rfl)) (by decide) (rm_dec5 K.l Z a0 hw [] b4 x2 np (((((([y6, y8, y10, y12, y14, y16, y18, y20, y22, y24]).set np c0).set (np + 1) c1).set (np + 2) c2).set (np + 3) c3).set (np + 4) c4) c0 c1 c2 c3 c4 h60 n0 hz A_b4 hp (by omega) k0 k1 k2 k3 k4 (by omega) (by omega) (by omega) (by omega) (by omega) (by omega)) pd_aBI_to_J rfl (rest := []) rfl rfl (Nat.le_of_eq rfl) (by decide) (by decide) (by decide) (by decide) ?_
    rintro v64 h63 ⟨⟨z, rfl, hzz⟩, rfl⟩
    show Go K h60 1 10 331 [.val (.int p0), .val (.int p1), .val (.long p2), .second, .val (.int p3), .val (.int (5 : Int32)), .val (.int x2), .val (.ref b4), .val (.int x25), .val (.int x26), .val (.int x27), .val (.int x28), .val (.int x29), .val (.long x61), .second, .val (.long x62), .second] [.long z]
    refine w_lload 333 C at_331 rfl rfl ?_
    have hva : x61.toInt = U % 34359738368 := by
      rw [← hv_x61]
      rw [own_maskL _ _ 35 (by decide) (by decide), own_maskL _ 4294967295 32 (by decide) (by decide), own_i2l]; omega
    have hex : x62.toInt = 4294967296 * ((np + 5 : Nat) : Int) + U % 34359738368 := by
      rw [← hv_x62]
      have q1 : (x2 + (5 : Int32)).toInt = ((np + 5 : Nat) : Int) := by rw [own_iadd, hp, show (5 : Int32).toInt = 5 from by decide]; omega
      have s1 : ((x2 + (5 : Int32)).toInt64 <<< ((32 : Int32) &&& 0x3f).toInt64).toInt = 4294967296 * ((np + 5 : Nat) : Int) := by
        rw [Jvm.Kit.i64_shl _ _ (k := 32) (by decide) (by rw [own_i2l]; omega) (by rw [own_i2l]; omega), own_i2l]; omega
      rw [own_orL _ _ (np + 5) (by omega) (by omega) s1 (by omega), s1, hva]
    have e : z = x62 := own_eqL (by rw [hzz, hex]; omega)
    refine w_lifN 334 337 C at_333 rfl at_334 rfl (show ¬ (¬ (z = x62)) from (fun q => q e)) ?_
    refine w_iconst 338 (1 : Int32) C at_337 rfl rfl ?_
    refine w_goto 342 C at_338 rfl ?_
    refine w_retN C (by simp) at_342 rfl (by decide) (by decide) ?_
    exact rfl
set_option maxRecDepth 65536 in
set_option maxHeartbeats 40000000 in
theorem comes_1 {Post : Tables → Env → Array Value → State → Outcome → State → Prop} (hpost : ∀ tb e args s v u, (limb_1_1.after args s (.returned v) u = true ∧ limb_1_2.after args s (.returned v) u = true ∧ True) → FrameEnd s (.returned v) u (Jvm.fieldLocs frame_1_writes args s ++ Jvm.arrayLocs frame_1_arrays args s ++ Jvm.staticLocs frame_1_statics s) 16 128 → Post tb e args s (.returned v) u) :
    ArmFor flags0 classFile x code maxLocals ret World_1 tables_1 room_1 Calls_1 rest_1 Pre_1 Post := by
  intro l hfl _ _ p e ha hc hk s m args below hf hA hF happ hP
  obtain ⟨hcalls, hrest, hpre⟩ := hP
  obtain ⟨-, -, -, hnamed, -, -, -, hat⟩ := (Spec.applies_iff hf).mp happ
  obtain ⟨hg, hn⟩ := and_e (Cond.before_iff.mp (show (Jvm.Cond.and given_1 narrow_1).before args s = true from hpre))
  obtain ⟨gc, r0⟩ := and_e hg
  obtain ⟨g0, r1⟩ := and_e r0
  obtain ⟨g1, r2⟩ := and_e r1
  obtain ⟨g2, r3⟩ := and_e r2
  obtain ⟨w0, w1, w2, w3, rfl⟩ : ∃ w0 w1 w2 w3 : Value, args = #[w0, w1, w2, w3] := by
    have hs : args.size = 4 := by simpa [Cond.value, given_1] using gc
    obtain ⟨L⟩ := args
    match L, hs with
    | [w0, w1, w2, w3], _ => exact ⟨w0, w1, w2, w3, rfl⟩
  have hw := fun d (hd : d ∈ tables_1) => atoms_spec (ws := Jvm.Cond.code x code maxLocals ret :: tables_1) hat d (List.mem_cons_of_mem _ hd)
  obtain ⟨i0, ei0⟩ := is_v g0
  obtain rfl : w0 = (.int i0) := Option.some.inj ei0
  obtain ⟨i1, ei1⟩ := is_v g1
  obtain rfl : w1 = (.int i1) := Option.some.inj ei1
  obtain ⟨i2, ei2⟩ := isL_v g2
  obtain rfl : w2 = (.long i2) := Option.some.inj ei2
  obtain ⟨i3, ei3⟩ := is_v r3
  obtain rfl : w3 = (.int i3) := Option.some.inj ei3
  obtain ⟨n, o, h1, h2, h3, _, L, rfl, ⟨N, rfl⟩, hq⟩ := rm0 l s _ hw tables_1 i0 i1 i2 i3 s.heap s.heap.size (Nat.le_refl _) p e ha hc hk s m _ below hf ((Spec.applies_iff_loose hf).mp happ).1 ⟨rfl, State.Warmed39.refl s, rfl⟩ trivial
  refine ⟨n, _, h1, h2, h3, hpost _ _ _ _ _ _ ⟨Cond.after_iff.mpr rfl, Cond.after_iff.mpr (eq_i res_at (Term.int_eval (1)) rfl), trivial⟩ ⟨hq.1, hq.2.1, (hq.2.2.sift fun y hy => Or.inr (N y hy)).mono (by decide) (by decide)⟩⟩
theorem main_1_1 : Claimed_1_1 := comes_1 fun _ _ _ _ _ _ h hF => ⟨h.1, hF⟩
theorem main_1_2 : Claimed_1_2 := comes_1 fun _ _ _ _ _ _ h hF => ⟨h.2.1, hF⟩
end Jvm.Pilot.@@N@@
namespace Jvm.Pilot.@@N@@
open Jvm Jvm.ClassFile Sem Op Lib Jvm.Free Jvm.Stand Jvm.Pilot.@@N@@.Jvm.D
/-! MADE BY PROGRAM (witnessworld.py) out of the Statement's table words and the real class files: 9 classes; the members and pool entries that the words name. The judged class is class 1, her method 1. -/
namespace start1
open Jvm.ClassFile
def u (s : String) : CpInfo := .utf8 (stringToUtf16 s)
/-- a pool by its gaps: so many unusable entries, then the entry; so many at the end -/
def gap : Nat → List CpInfo → List CpInfo
  | 0, r => r
  | n + 1, r => .unusable :: gap n r
def poolList (es : List (Nat × CpInfo)) (last : Nat) : List CpInfo := es.foldr (fun e r => gap e.1 (e.2 :: r)) (gap last [])
def pool (es : List (Nat × CpInfo)) (last : Nat) : Array CpInfo := ⟨poolList es last⟩
def fileOf (pool : Array CpInfo) (this : Nat) (attrs : Array Attribute := #[]) (ms : Array MethodInfo := #[]) (fl : Nat := 33) (sup : Nat := 0) (ifs : Array Nat := #[]) (fds : Array FieldInfo := #[]) : ClassFile where
  minorVersion := 0
  majorVersion := 65
  constantPool := pool
  accessFlags := fl
  thisClass := this
  superClass := sup
  interfaces := ifs
  fields := fds
  methods := ms
  attributes := attrs
def plain (name : String) (sup : Option ClassId) : Class where
  name := name
  kind := .ordinary
  loader := none
  accessFlags := 33
  super := sup
  interfaces := #[]
  cf := none
  fields := #[]
  methods := #[]
  instanceTypes := #[]
  staticTypes := #[]
  resolved := #[]
  callSites := []
  init := .initialized
  statics := none
  mirror := none

def pool0 : Array CpInfo := pool [(5, u "<init>"), (0, u "()V"), (1, .class_ 10), (1, u "java/lang/Object")] 113

def k0m0 : Method := { name := "<init>", desc := "()V", sig := { parameters := [], returnType := none }, accessFlags := 1, code := none }
/-- java/lang/Object -/
def k0 : Class := { plain "java/lang/Object" none with
  accessFlags := 33
  interfaces := #[]
  cf := some (fileOf pool0 8 #[] #[{ accessFlags := 1, nameIndex := 5, descriptorIndex := 6, attributes := #[] }] 33 0 #[] #[])
  fields := #[]
  methods := #[k0m0]
  instanceTypes := #[]
  staticTypes := #[]
  resolved := Array.replicate 124 none
  statics := none }

def pool1 : Array CpInfo := pool [(2, .class_ 4), (1, u "java/lang/Object"), (0, u "<init>"), (0, u "()V"), (0, .integer 2147483647), (0, .long 4294967295), (1, .methodref 11 12), (0, .class_ 13), (0, .nameAndType 14 15), (0, u "com/example/crestline/crestline/index/PostingCursor$Numbers"), (0, u "decode"), (0, u "([BI)J"), (0, .class_ 17), (0, u "com/example/crestline/crestline/index/NumbersDecodePinLaw"), (2, u "law"), (0, u "(IIJI)Z")] 9

def k1m0 : Method := { name := "<init>", desc := "()V", sig := { parameters := [], returnType := none }, accessFlags := 1, code := none }
def k1c1 : Code := { maxStack := 6, maxLocals := 17, code := code, exceptionTable := #[], attributes := #[] }
def k1m1 : Method := { name := "law", desc := "(IIJI)Z", sig := { parameters := [.int, .int, .long, .int], returnType := some .boolean }, accessFlags := 9, code := some k1c1 }
/-- com/example/crestline/crestline/index/NumbersDecodePinLaw -/
def k1 : Class := { plain "com/example/crestline/crestline/index/NumbersDecodePinLaw" (some 0) with
  accessFlags := 49
  interfaces := #[]
  cf := some (fileOf pool1 16 #[] #[{ accessFlags := 1, nameIndex := 5, descriptorIndex := 6, attributes := #[] }, { accessFlags := 9, nameIndex := 20, descriptorIndex := 21, attributes := #[] }] 49 2 #[] #[])
  fields := #[]
  methods := #[k1m0, k1m1]
  instanceTypes := #[]
  staticTypes := #[]
  resolved := Array.replicate 31 none
  statics := none }

def pool2 : Array CpInfo := pool [(1, .class_ 2), (0, u "com/example/crestline/crestline/index/PostingCursor"), (0, .class_ 4), (0, u "com/example/crestline/crestline/index/PostingCursor$Numbers"), (5, .class_ 12), (1, u "java/lang/Object"), (3, u "last"), (0, u "I"), (2, u "file"), (0, u "Lcom/example/crestline/crestline/index/MappedFile;"), (2, u "position"), (0, u "J"), (2, u "blockBytes"), (2, u "at"), (5, u "block"), (0, u "[B"), (2, u "decode"), (0, u "([BI)J"), (10, u "end"), (20, u "EIGHT_BYTES"), (0, u "Ljava/lang/invoke/VarHandle;"), (13, .long 4294967295), (27, u "BLOCK_BYTES"), (2, u "HIGH_BITS")] 30

def k2c0 : Code := { maxStack := 6, maxLocals := 5, code := prog_109_method_9_code, exceptionTable := #[], attributes := #[] }
def k2m0 : Method := { name := "decode", desc := "([BI)J", sig := { parameters := [(.array .byte), .int], returnType := some .long }, accessFlags := 8, code := some k2c0 }
/-- com/example/crestline/crestline/index/PostingCursor$Numbers -/
def k2 : Class := { plain "com/example/crestline/crestline/index/PostingCursor$Numbers" (some 0) with
  accessFlags := 48
  interfaces := #[]
  cf := some (fileOf pool2 3 #[.nestHost 1] #[{ accessFlags := 8, nameIndex := 41, descriptorIndex := 42, attributes := #[] }] 48 10 #[] #[{ accessFlags := 24, nameIndex := 117, descriptorIndex := 17, attributes := #[] }, { accessFlags := 26, nameIndex := 74, descriptorIndex := 75, attributes := #[] }, { accessFlags := 26, nameIndex := 120, descriptorIndex := 25, attributes := #[] }, { accessFlags := 18, nameIndex := 20, descriptorIndex := 21, attributes := #[] }, { accessFlags := 2, nameIndex := 24, descriptorIndex := 25, attributes := #[] }, { accessFlags := 2, nameIndex := 37, descriptorIndex := 38, attributes := #[] }, { accessFlags := 2, nameIndex := 31, descriptorIndex := 17, attributes := #[] }, { accessFlags := 2, nameIndex := 16, descriptorIndex := 17, attributes := #[] }, { accessFlags := 2, nameIndex := 53, descriptorIndex := 17, attributes := #[] }, { accessFlags := 18, nameIndex := 28, descriptorIndex := 17, attributes := #[] }])
  fields := #[{ name := "BLOCK_BYTES", type := .int, accessFlags := 24, slot := 0, constantValue := 0 }, { name := "EIGHT_BYTES", type := (.object "java/lang/invoke/VarHandle"), accessFlags := 26, slot := 1, constantValue := 0 }, { name := "HIGH_BITS", type := .long, accessFlags := 26, slot := 2, constantValue := 0 }, { name := "file", type := (.object "com/example/crestline/crestline/index/MappedFile"), accessFlags := 18, slot := 0, constantValue := 0 }, { name := "position", type := .long, accessFlags := 2, slot := 1, constantValue := 0 }, { name := "block", type := (.array .byte), accessFlags := 2, slot := 2, constantValue := 0 }, { name := "at", type := .int, accessFlags := 2, slot := 3, constantValue := 0 }, { name := "last", type := .int, accessFlags := 2, slot := 4, constantValue := 0 }, { name := "end", type := .int, accessFlags := 2, slot := 5, constantValue := 0 }, { name := "blockBytes", type := .int, accessFlags := 18, slot := 6, constantValue := 0 }]
  methods := #[k2m0]
  instanceTypes := #[(.object "com/example/crestline/crestline/index/MappedFile"), .long, (.array .byte), .int, .int, .int, .int]
  staticTypes := #[.int, (.object "java/lang/invoke/VarHandle"), .long]
  resolved := Array.replicate 151 none
  statics := none }

def pool3 : Array CpInfo := pool [(1, u "java/lang/Cloneable"), (0, .class_ 1), (0, u "java/lang/Object"), (0, .class_ 3)] 3

/-- java/lang/Cloneable -/
def k3 : Class := { plain "java/lang/Cloneable" (some 0) with
  accessFlags := 1537
  interfaces := #[]
  cf := some (fileOf pool3 2 #[] #[] 1537 4 #[] #[])
  fields := #[]
  methods := #[]
  instanceTypes := #[]
  staticTypes := #[]
  resolved := Array.replicate 8 none
  statics := none }

def pool4 : Array CpInfo := pool [(1, u "java/io/Serializable"), (0, .class_ 1), (0, u "java/lang/Object"), (0, .class_ 3)] 3

/-- java/io/Serializable -/
def k4 : Class := { plain "java/io/Serializable" (some 0) with
  accessFlags := 1537
  interfaces := #[]
  cf := some (fileOf pool4 2 #[] #[] 1537 4 #[] #[])
  fields := #[]
  methods := #[]
  instanceTypes := #[]
  staticTypes := #[]
  resolved := Array.replicate 8 none
  statics := none }

/-- the primitive byte -/
def k5 : Class := { plain "byte" none with kind := .primitive 'B', accessFlags := 0x411 }
/-- [B -/
def k6 : Class := { plain "[B" (some 0) with kind := .array 5 .byte, interfaces := #[3, 4], accessFlags := 1041 }

/-- the primitive int -/
def k7 : Class := { plain "int" none with kind := .primitive 'I', accessFlags := 0x411 }
/-- [I -/
def k8 : Class := { plain "[I" (some 0) with kind := .array 7 .int, interfaces := #[3, 4], accessFlags := 1041 }

def heap : Heap := #[]
def classes : Array Class := #[k0, k1, k2, k3, k4, k5, k6, k7, k8]
def interned : List (Array UInt16 × Addr) := []
def slotsUsed : Nat := 0
def theMethod : MethodId := ⟨1, 1⟩
def args0 : Array Value := #[.int 5, .int 1, .long 3, .int 7]
def aboutOver (below : List Frame) : State where
  vm := { classes := classes, interned := interned.toArray }
  heap := heap
  slotsUsed := slotsUsed
  threads := #[{ frames := .invoking theMethod args0 :: below }]
def below0 : List Frame := [.native { method := ⟨0, 0⟩, args := #[] }]
def about1 : State := aboutOver below0
def p0 : Program := .bare "" "" ""
def e0 : Env := launch0.env 0 0 0
theorem w_frames : about1.frames = Frame.invoking theMethod args0 :: below0 := rfl
set_option maxRecDepth 65536 in
theorem w_args : argsFit about1.vm theMethod args0 = true := by decide +kernel
set_option maxRecDepth 65536 in
theorem w_heap : heapFits about1 = true := by decide +kernel
set_option maxRecDepth 65536 in
theorem w_runnable : about1.curStatus? = some .runnable := by decide +kernel
set_option maxRecDepth 65536 in
theorem w_alone : about1.alone = true := by decide +kernel
set_option maxRecDepth 65536 in
theorem w_named : about1.methodNamed? x = some theMethod := by decide +kernel
set_option maxRecDepth 65536 in
theorem w_hears : about1.hears theMethod below0 = true := by decide +kernel
set_option maxRecDepth 65536 in
theorem w_ripe : about1.ripe theMethod args0 below0 = true := by decide +kernel
theorem w_running : about1.status = .running := rfl
set_option maxRecDepth 65536 in
theorem w_room : about1.hasRoom e0.platform room_1 = true :=
  launch0.hasRoom_least _ room_1 (by decide +kernel) (by decide +kernel) (by decide +kernel) (by decide +kernel) (by decide +kernel) (by decide +kernel)
theorem allAtoms_all (ts : List Jvm.Cond) (a : Array Jvm.Value) (st : Jvm.State) : (allAtoms ts).before a st = ts.all (fun c => c.before a st) := by
  induction ts with
  | nil => rfl
  | cons c t ih =>
    show (Jvm.Cond.and c (allAtoms t)).before a st = _
    rw [Jvm.Cond.before_and, ih, List.all_cons]
def words1 : List Jvm.Cond := Jvm.Cond.code x code maxLocals ret :: tables_1
/-- a 'code' word, met by the world's own term for the bytes: nothing is compared byte by byte -/
theorem code_word {y : MethodName} {bytes : ByteArray} {mx : Nat} {rt : Option FieldType} {a : Array Value} {s : State} {m : MethodId} {meth : Method} {c : Code} (h1 : s.methodNamed? y = some m) (h2 : s.vm.method? m = some meth) (h3 : meth.code = some c) (h4 : c.code = bytes)
    (h5 : (c.maxLocals == mx && c.exceptionTable.isEmpty && decide (c.maxStack ≤ mostOperands) && decide (meth.sig.returnType = rt) && !meth.locks && decide (parseMethodDescriptor y.desc = some meth.sig)) = true) : (Jvm.Cond.code y bytes mx rt).before a s = true := by
  simp only [Bool.and_eq_true, beq_iff_eq, Bool.not_eq_true', decide_eq_true_eq] at h5
  obtain ⟨⟨⟨⟨⟨g1, g2⟩, g3⟩, g4⟩, g5⟩, g6⟩ := h5
  simp [Cond.before, Cond.holds, Cond.value, h1, h2, h3, h4, g1, g2, g3, g4, g5, g6]
def isCode : Jvm.Cond → Bool
  | .code _ _ _ _ => true
  | _ => false
theorem all_split {L : List Jvm.Cond} {P : Jvm.Cond → Bool} (h1 : L.all (fun c => isCode c || P c) = true) (h2 : ∀ c ∈ L.filter isCode, P c = true) : L.all P = true := by
  refine List.all_eq_true.mpr fun c hc => ?_
  have h := List.all_eq_true.mp h1 c hc
  rcases Bool.eq_false_or_eq_true (isCode c) with hi | hi
  · exact h2 c (List.mem_filter.mpr ⟨hc, hi⟩)
  · simpa [hi] using h
set_option maxRecDepth 65536 in
theorem w_c0 : (Jvm.Cond.code x code maxLocals ret).before args0 about1 = true := code_word (m := ⟨1, 1⟩) (meth := k1m1) (c := k1c1) (by decide +kernel) rfl rfl rfl (by decide +kernel)
set_option maxRecDepth 65536 in
theorem w_c1 : (Jvm.Cond.code ({ cls := "com/example/crestline/crestline/index/PostingCursor$Numbers", name := "decode", desc := "([BI)J" } : Jvm.MethodName) prog_109_method_9_code (5 : Nat) (Option.some Jvm.ClassFile.FieldType.long)).before args0 about1 = true := code_word (m := ⟨2, 0⟩) (meth := k2m0) (c := k2c0) (by decide +kernel) rfl rfl rfl (by decide +kernel)
def codes1 : List Jvm.Cond := [Jvm.Cond.code x code maxLocals ret, Jvm.Cond.code ({ cls := "com/example/crestline/crestline/index/PostingCursor$Numbers", name := "decode", desc := "([BI)J" } : Jvm.MethodName) prog_109_method_9_code (5 : Nat) (Option.some Jvm.ClassFile.FieldType.long)]
set_option maxRecDepth 65536 in
theorem codes_eq : words1.filter isCode = codes1 := rfl
theorem w_codes : ∀ c ∈ words1.filter isCode, c.before args0 about1 = true := by
  rw [codes_eq]
  intro c hc
  simp only [codes1, List.mem_cons, List.not_mem_nil, or_false] at hc
  rcases hc with rfl | rfl
  · exact w_c0
  · exact w_c1
set_option maxRecDepth 65536 in
theorem w_t1 : words1.all (fun c => isCode c || c.before args0 about1) = true := by decide +kernel
theorem w_tables : (allAtoms (Jvm.Cond.code x code maxLocals ret :: tables_1)).before args0 about1 = true := by
  rw [allAtoms_all]
  show words1.all (fun c => c.before args0 about1) = true
  refine all_split ?_ w_codes
  rw [w_t1]
set_option maxRecDepth 65536 in
theorem w_case : (Jvm.Cond.and given_1 narrow_1).before args0 about1 = true := by decide +kernel
theorem w_applies : (headSpec (Jvm.Cond.code x code maxLocals ret :: tables_1) room_1).applies x e0.platform about1 = true :=
  (Spec.applies_iff w_frames).mpr ⟨w_running, w_runnable, w_alone, w_named, w_hears, w_ripe, w_room, w_tables⟩
theorem atStart : AtStart classFile x code maxLocals ret World_1 tables_1 room_1 Calls_1 rest_1 Pre_1 launch0 p0 e0 about1 theMethod args0 below0 :=
  ⟨lists_1, trivial, launch0.admits_env _ _ _, launch0.least_env, fairChoices_fair.cas, fairChoices_fair.clock, w_frames, w_args, w_heap, w_applies, trivial, trivial, w_case⟩
end start1
theorem witness_1 : WitnessClaimed_1 := ⟨start1.p0, start1.e0, start1.about1, start1.theMethod, start1.args0, start1.below0, start1.atStart⟩
end Jvm.Pilot.@@N@@
