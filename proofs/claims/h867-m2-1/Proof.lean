import JvmDerived
import JvmDerived.Pilot.@@N@@Statement
import JvmDerived.Pilot.@@N@@Code
set_option linter.unusedVariables false
set_option linter.unusedSimpArgs false
@@BLOCK:NumsL.lean.txt@@
namespace Jvm.Pilot.@@N@@
open Jvm Jvm.ClassFile Sem Op Lib Jvm.Free Jvm.Stand Jvm.LawKit Jvm.RoadKit Bundle Jvm.Pilot.@@N@@.Jvm.D
/-! OWN LAYER (one text for all claims of this seat): a walk's goal with its state hidden ('Go'), one rule an instruction. -/
/-- all that a walk through one body holds fixed -/
abbrev OwnK : Type := Program × Launch × Env × Room × State × MethodId × Array Value × List Frame × Method × Code × Nat × (Option Value → Heap → Prop)
namespace OwnK
abbrev p (K : OwnK) : Program := K.1
abbrev l (K : OwnK) : Launch := K.2.1
abbrev e (K : OwnK) : Env := K.2.2.1
abbrev R (K : OwnK) : Room := K.2.2.2.1
abbrev s (K : OwnK) : State := K.2.2.2.2.1
abbrev m (K : OwnK) : MethodId := K.2.2.2.2.2.1
abbrev args (K : OwnK) : Array Value := K.2.2.2.2.2.2.1
abbrev below (K : OwnK) : List Frame := K.2.2.2.2.2.2.2.1
abbrev meth (K : OwnK) : Method := K.2.2.2.2.2.2.2.2.1
abbrev c (K : OwnK) : Code := K.2.2.2.2.2.2.2.2.2.1
abbrev n0 (K : OwnK) : Nat := K.2.2.2.2.2.2.2.2.2.2.1
abbrev Post (K : OwnK) : Option Value → Heap → Prop := K.2.2.2.2.2.2.2.2.2.2.2
end OwnK
/-- a place of the walk -/
abbrev OwnSt (K : OwnK) (T : State) (locs : List Loc) (cells slots : Nat) : Prop := Stand K.p K.l K.e K.R K.s K.m K.args K.below K.meth K.c T locs cells slots
/-- from this state the run ends as the contract says -/
def OwnDone (K : OwnK) (t : State) : Prop :=
  ∃ s₂ o, Steps K.p.tables K.e K.below t s₂ ∧ s₂.status = .running ∧ Ended s₂ K.below o ∧ ∃ v L, o = .returned v ∧ (Fr K.n0 L ∧ K.Post v s₂.heap) ∧ FrameEnd K.s o s₂ L K.R.cells K.R.slots
/-- from every state at this pc, with these locals, this stack and this heap the run ends as the contract says -/
def Go (K : OwnK) (h : Heap) (cells slots pc : Nat) (Ls : List Slot) (st : List Value) : Prop :=
  ∀ T locs, OwnSt K T locs cells slots → T.heap = h → Fr K.n0 locs → OwnDone K (T.setTop (mkF K.m pc Ls.toArray st))
/-- what the walk through one body may lean on -/
def Cx (K : OwnK) (Z : State) (own name : String) (code : ByteArray) (maxL : Nat) (ret : Option FieldType) (R : Room) (n0 : Nat) (Post : Option Value → Heap → Prop) : Prop :=
  K.p.tables.exec = Jvm.exec ∧ K.c.code = code ∧ K.c.maxLocals = maxL ∧ K.s.vm.findClass own = some K.m.cls ∧ K.meth.name = name ∧ K.meth.sig.returnType = ret ∧ K.meth.locks = false ∧ Z.Warmed39 K.s.vm ∧ K.R = R ∧ K.n0 = n0 ∧ K.Post = Post
/-- a body's contract -/
def OwnMet (l : Launch) (y : MethodName) (bytes : ByteArray) (maxL : Nat) (ret : Option FieldType) (ws : List Jvm.Cond) (rm : Room) (Z : State) (h : Heap) (n0 : Nat) (as : Array Value) (P : Option Value → Heap → Prop) : Prop :=
  MetFree l y (head1 (Jvm.Cond.code y bytes maxL ret :: ws) rm) (fun a U => a = as ∧ Z.Warmed39 U.vm ∧ U.heap = h) (fun _ _ _ _ _ => True) (fun _ U o U' => ∃ v L, o = .returned v ∧ (Fr n0 L ∧ P v U'.heap) ∧ FrameEnd U o U' L rm.cells rm.slots)
theorem own_clamp (n : Int32) : n.toNatClampNeg = n.toInt.toNat := rfl
theorem own_newA (cA : ClassId) (ty : FieldType) (n : Int32) : (newA cA ty n).slots = Array.replicate n.toNatClampNeg (defaultValue ty) := rfl
theorem own_setSlot (c : Cell) (i : Nat) (v : Value) : (c.setSlot i v).slots = c.slots.setIfInBounds i v := rfl
theorem own_dnull (C : String) : defaultValue (.object C) = .null := rfl
section OwnLaws
variable {K : OwnK} {Z : State} {own name : String} {code : ByteArray} {maxL : Nat} {ret : Option FieldType} {R : Room} {n0 : Nat} {Post : Option Value → Heap → Prop} {h : Heap} {cells slots pc : Nat} {Ls Ls' : List Slot} {st rest : List Value} {a0 : Array Value}
theorem OwnDone.of {t t' : State} (k : ∀ target, Steps K.p.tables K.e K.below t' target → Steps K.p.tables K.e K.below t target) (d : OwnDone K t') : OwnDone K t := by
  obtain ⟨s₂, o, h1, r⟩ := d
  exact ⟨s₂, o, k _ h1, r⟩
theorem OwnMet.of {l : Launch} {desc : String} {bytes : ByteArray} {ws : List Jvm.Cond} {as : Array Value} (hp : plainFor (⟨own, name, desc⟩ : MethodName) = true) (ef : ∀ m, entryFrame m as maxL = mkF m 0 Ls.toArray [])
    (go : ∀ K : OwnK, K.l = l → Cx K Z own name bytes maxL ret R n0 Post → Go K h 0 0 0 Ls []) : OwnMet l ⟨own, name, desc⟩ bytes maxL ret ws R Z h n0 as Post := by
  refine MetFree.of_bodySF hp hisR ?_
  intro p e s m args below meth c s₁ Bd hml0 hP hK
  obtain ⟨rfl, hZ, hh⟩ := hP
  have g := go (p, l, e, R, s, m, args, below, meth, c, n0, Post) rfl ⟨Bd.exec, Bd.bytes, hml0, findClass_of_methodNamed Bd.named, (name_of_methodNamed Bd.named Bd.method).1, Bd.returns, Bd.notSynchronized, hZ, rfl, rfl, rfl⟩
  have d := g s₁ [] (Stand.of_body Bd) (by rw [← hh, Bd.state]; rfl) (Fr.nil n0)
  rw [ef m]
  exact d
theorem own_cut0 {A : Prop} (G : Prop) (h1 : G → A) (h2 : G) : A := h1 h2
theorem own_cut1 {α : Type} {A : Prop} (P G : α → Prop) (h1 : (∀ z, P z → G z) → A) (h2 : ∀ z, P z → G z) : A := h1 h2
theorem own_cut2 {α β : Type} {A : Prop} (P G : α → β → Prop) (h1 : (∀ z w, P z w → G z w) → A) (h2 : ∀ z w, P z w → G z w) : A := h1 h2
theorem own_cut3 {α β γ : Type} {A : Prop} (P G : α → β → γ → Prop) (h1 : (∀ z w u, P z w u → G z w u) → A) (h2 : ∀ z w u, P z w u → G z w u) : A := h1 h2
theorem Go.step {pc' : Nat} {st' : List Value} (g : Go K h cells slots pc' Ls' st') (f : ∀ T locs, OwnSt K T locs cells slots → ∀ target, Steps K.p.tables K.e K.below (T.setTop (mkF K.m pc' Ls'.toArray st')) target → Steps K.p.tables K.e K.below (T.setTop (mkF K.m pc Ls.toArray st)) target) : Go K h cells slots pc Ls st :=
  fun T locs X e N => OwnDone.of (f T locs X) (g T locs X e N)
/-! 1. loads, constants, stores -/
theorem w_iload (pc' : Nat) (C : Cx K Z own name code maxL ret R n0 Post) {k : Nat} {v : Int32} (hd : decode code pc = .ok (.iload k, 2)) (hp : pc + 2 = pc') (hl : Ls[k]? = some (.val (.int v))) (g : Go K h cells slots pc' Ls (.int v :: st)) : Go K h cells slots pc Ls st := by
  subst hp; exact g.step fun T locs X t q => XS.iload X.here C.1 rfl (hb C.2.1 hd) (by simpa using hl) q
theorem w_iloadN (pc' : Nat) (C : Cx K Z own name code maxL ret R n0 Post) {k : Fin 4} {v : Int32} (hd : decode code pc = .ok (.iload_n k, 1)) (hp : pc + 1 = pc') (hl : Ls[k.val]? = some (.val (.int v))) (g : Go K h cells slots pc' Ls (.int v :: st)) : Go K h cells slots pc Ls st := by
  subst hp; exact g.step fun T locs X t q => XS.iloadN X.here C.1 rfl (hb C.2.1 hd) (by simpa using hl) q
theorem w_lload (pc' : Nat) (C : Cx K Z own name code maxL ret R n0 Post) {k : Nat} {v : Int64} (hd : decode code pc = .ok (.lload k, 2)) (hp : pc + 2 = pc') (hl : Ls[k]? = some (.val (.long v))) (g : Go K h cells slots pc' Ls (.long v :: st)) : Go K h cells slots pc Ls st := by
  subst hp; exact g.step fun T locs X t q => XS.lload X.here C.1 rfl (hb C.2.1 hd) (by simpa using hl) q
theorem w_lloadN (pc' : Nat) (C : Cx K Z own name code maxL ret R n0 Post) {k : Fin 4} {v : Int64} (hd : decode code pc = .ok (.lload_n k, 1)) (hp : pc + 1 = pc') (hl : Ls[k.val]? = some (.val (.long v))) (g : Go K h cells slots pc' Ls (.long v :: st)) : Go K h cells slots pc Ls st := by
  subst hp; exact g.step fun T locs X t q => XS.lloadN X.here C.1 rfl (hb C.2.1 hd) (by simpa using hl) q
theorem w_aload (pc' : Nat) (C : Cx K Z own name code maxL ret R n0 Post) {k : Nat} {v : Value} (hd : decode code pc = .ok (.aload k, 2)) (hp : pc + 2 = pc') (hl : Ls[k]? = some (.val v)) (hv : v.isRef = true) (g : Go K h cells slots pc' Ls (v :: st)) : Go K h cells slots pc Ls st := by
  subst hp; exact g.step fun T locs X t q => XS.aload X.here C.1 rfl (hb C.2.1 hd) (by simpa using hl) hv q
theorem w_aloadN (pc' : Nat) (C : Cx K Z own name code maxL ret R n0 Post) {k : Fin 4} {v : Value} (hd : decode code pc = .ok (.aload_n k, 1)) (hp : pc + 1 = pc') (hl : Ls[k.val]? = some (.val v)) (hv : v.isRef = true) (g : Go K h cells slots pc' Ls (v :: st)) : Go K h cells slots pc Ls st := by
  subst hp; exact g.step fun T locs X t q => XS.aloadN X.here C.1 rfl (hb C.2.1 hd) (by simpa using hl) hv q
theorem w_iconst (pc' : Nat) (n : Int32) (C : Cx K Z own name code maxL ret R n0 Post) {i : Int} (hd : decode code pc = .ok (.iconst i, 1)) (hp : pc + 1 = pc') (hn : Int32.ofInt i = n) (g : Go K h cells slots pc' Ls (.int n :: st)) : Go K h cells slots pc Ls st := by
  subst hp hn; exact g.step fun T locs X t q => XS.iconst X.here C.1 rfl (hb C.2.1 hd) q
theorem w_bipush (pc' : Nat) (n : Int32) (C : Cx K Z own name code maxL ret R n0 Post) {i : Int} (hd : decode code pc = .ok (.bipush i, 2)) (hp : pc + 2 = pc') (hn : (Int8.ofInt i).toInt32 = n) (g : Go K h cells slots pc' Ls (.int n :: st)) : Go K h cells slots pc Ls st := by
  subst hp hn; exact g.step fun T locs X t q => XS.bipush X.here C.1 rfl (hb C.2.1 hd) q
theorem w_sipush (pc' : Nat) (n : Int32) (C : Cx K Z own name code maxL ret R n0 Post) {i : Int} (hd : decode code pc = .ok (.sipush i, 3)) (hp : pc + 3 = pc') (hn : (Int16.ofInt i).toInt32 = n) (g : Go K h cells slots pc' Ls (.int n :: st)) : Go K h cells slots pc Ls st := by
  subst hp hn; exact g.step fun T locs X t q => XS.sipush X.here C.1 rfl (hb C.2.1 hd) q
theorem w_lconst (pc' : Nat) (n : Int64) (C : Cx K Z own name code maxL ret R n0 Post) {k : Fin 2} (hd : decode code pc = .ok (.lconst k, 1)) (hp : pc + 1 = pc') (hn : Int64.ofNat k = n) (g : Go K h cells slots pc' Ls (.long n :: st)) : Go K h cells slots pc Ls st := by
  subst hp hn; exact g.step fun T locs X t q => XS.lconst X.here C.1 rfl (hb C.2.1 hd) q
theorem w_null (pc' : Nat) (C : Cx K Z own name code maxL ret R n0 Post) (hd : decode code pc = .ok (.aconst_null, 1)) (hp : pc + 1 = pc') (g : Go K h cells slots pc' Ls (.null :: st)) : Go K h cells slots pc Ls st := by
  subst hp; exact g.step fun T locs X t q => XS.aconstNull X.here C.1 rfl (hb C.2.1 hd) q
theorem w_ldc (pc' : Nat) (C : Cx K Z own name code maxL ret R n0 Post) {i : Nat} {v : Int32} (hd : decode code pc = .ok (.ldc i, 2)) (hp : pc + 2 = pc') (w : (Cond.constant own i v).before a0 Z = true) (g : Go K h cells slots pc' Ls (.int v :: st)) : Go K h cells slots pc Ls st := by
  subst hp; exact g.step fun T locs X t q => X.ldcInt C.1 C.2.2.2.1 (mvT C.2.2.2.2.2.2.2.1 w) (g := mkF K.m pc Ls.toArray st) rfl (hb C.2.1 hd) _ q
theorem w_ldcw (pc' : Nat) (C : Cx K Z own name code maxL ret R n0 Post) {i : Nat} {v : Int32} (hd : decode code pc = .ok (.ldc_w i, 3)) (hp : pc + 3 = pc') (w : (Cond.constant own i v).before a0 Z = true) (g : Go K h cells slots pc' Ls (.int v :: st)) : Go K h cells slots pc Ls st := by
  subst hp; exact g.step fun T locs X t q => X.ldcwInt C.1 C.2.2.2.1 (mvT C.2.2.2.2.2.2.2.1 w) (g := mkF K.m pc Ls.toArray st) rfl (hb C.2.1 hd) _ q
theorem w_ldc2 (pc' : Nat) (C : Cx K Z own name code maxL ret R n0 Post) {i : Nat} {v : Int64} (hd : decode code pc = .ok (.ldc2_w i, 3)) (hp : pc + 3 = pc') (w : (Cond.constantLong own i v).before a0 Z = true) (g : Go K h cells slots pc' Ls (.long v :: st)) : Go K h cells slots pc Ls st := by
  subst hp; exact g.step fun T locs X t q => X.ldc2Long C.1 C.2.2.2.1 (mvT C.2.2.2.2.2.2.2.1 w) (g := mkF K.m pc Ls.toArray st) rfl (hb C.2.1 hd) _ q
theorem w_istore (pc' : Nat) (Ls' : List Slot) (C : Cx K Z own name code maxL ret R n0 Post) {k : Nat} {x : Int32} (hd : decode code pc = .ok (.istore k, 2)) (hp : pc + 2 = pc') (hl : storeLocals Ls.toArray k (.int x) = some Ls'.toArray) (g : Go K h cells slots pc' Ls' st) : Go K h cells slots pc Ls (.int x :: st) := by
  subst hp; exact g.step fun T locs X t q => XS.istore X.here C.1 rfl (hb C.2.1 hd) rfl hl q
theorem w_istoreN (pc' : Nat) (Ls' : List Slot) (C : Cx K Z own name code maxL ret R n0 Post) {k : Fin 4} {x : Int32} (hd : decode code pc = .ok (.istore_n k, 1)) (hp : pc + 1 = pc') (hl : storeLocals Ls.toArray k.val (.int x) = some Ls'.toArray) (g : Go K h cells slots pc' Ls' st) : Go K h cells slots pc Ls (.int x :: st) := by
  subst hp; exact g.step fun T locs X t q => XS.istoreN X.here C.1 rfl (hb C.2.1 hd) rfl hl q
theorem w_lstore (pc' : Nat) (Ls' : List Slot) (C : Cx K Z own name code maxL ret R n0 Post) {k : Nat} {x : Int64} (hd : decode code pc = .ok (.lstore k, 2)) (hp : pc + 2 = pc') (hl : storeLocals Ls.toArray k (.long x) = some Ls'.toArray) (g : Go K h cells slots pc' Ls' st) : Go K h cells slots pc Ls (.long x :: st) := by
  subst hp; exact g.step fun T locs X t q => XS.lstore X.here C.1 rfl (hb C.2.1 hd) rfl hl q
theorem w_lstoreN (pc' : Nat) (Ls' : List Slot) (C : Cx K Z own name code maxL ret R n0 Post) {k : Fin 4} {x : Int64} (hd : decode code pc = .ok (.lstore_n k, 1)) (hp : pc + 1 = pc') (hl : storeLocals Ls.toArray k.val (.long x) = some Ls'.toArray) (g : Go K h cells slots pc' Ls' st) : Go K h cells slots pc Ls (.long x :: st) := by
  subst hp; exact g.step fun T locs X t q => XS.lstoreN X.here C.1 rfl (hb C.2.1 hd) rfl hl q
theorem w_astore (pc' : Nat) (Ls' : List Slot) (C : Cx K Z own name code maxL ret R n0 Post) {k : Nat} {x : Value} (hd : decode code pc = .ok (.astore k, 2)) (hp : pc + 2 = pc') (hv : x.isRef = true) (hl : storeLocals Ls.toArray k x = some Ls'.toArray) (g : Go K h cells slots pc' Ls' st) : Go K h cells slots pc Ls (x :: st) := by
  subst hp; exact g.step fun T locs X t q => XS.astore X.here C.1 rfl (hb C.2.1 hd) rfl hv hl q
theorem w_astoreN (pc' : Nat) (Ls' : List Slot) (C : Cx K Z own name code maxL ret R n0 Post) {k : Fin 4} {x : Value} (hd : decode code pc = .ok (.astore_n k, 1)) (hp : pc + 1 = pc') (hv : x.isRef = true) (hl : storeLocals Ls.toArray k.val x = some Ls'.toArray) (g : Go K h cells slots pc' Ls' st) : Go K h cells slots pc Ls (x :: st) := by
  subst hp; exact g.step fun T locs X t q => XS.astoreN X.here C.1 rfl (hb C.2.1 hd) rfl hv hl q
theorem w_iinc (pc' : Nat) (Ls' : List Slot) (C : Cx K Z own name code maxL ret R n0 Post) {k : Nat} {cst : Int} {x z : Int32} (hd : decode code pc = .ok (.iinc k cst, 3)) (hp : pc + 3 = pc') (hl : Ls[k]? = some (.val (.int x))) (hz : x + Int32.ofInt cst = z) (hs : storeLocals Ls.toArray k (.int z) = some Ls'.toArray) (g : Go K h cells slots pc' Ls' st) : Go K h cells slots pc Ls st := by
  subst hp hz; exact g.step fun T locs X t q => XS.iinc X.here C.1 rfl (hb C.2.1 hd) (by simpa using hl) hs q
/-! 2. arithmetic -/
theorem w_iadd (pc' : Nat) (C : Cx K Z own name code maxL ret R n0 Post) {x y : Int32} (hd : decode code pc = .ok (.iadd, 1)) (hp : pc + 1 = pc') (g : Go K h cells slots pc' Ls (.int (x + y) :: st)) : Go K h cells slots pc Ls (.int y :: .int x :: st) := by
  subst hp; exact g.step fun T locs X t q => XS.iadd X.here C.1 rfl (hb C.2.1 hd) rfl q
theorem w_isub (pc' : Nat) (C : Cx K Z own name code maxL ret R n0 Post) {x y : Int32} (hd : decode code pc = .ok (.isub, 1)) (hp : pc + 1 = pc') (g : Go K h cells slots pc' Ls (.int (x - y) :: st)) : Go K h cells slots pc Ls (.int y :: .int x :: st) := by
  subst hp; exact g.step fun T locs X t q => XS.isub X.here C.1 rfl (hb C.2.1 hd) rfl q
theorem w_imul (pc' : Nat) (C : Cx K Z own name code maxL ret R n0 Post) {x y : Int32} (hd : decode code pc = .ok (.imul, 1)) (hp : pc + 1 = pc') (g : Go K h cells slots pc' Ls (.int (x * y) :: st)) : Go K h cells slots pc Ls (.int y :: .int x :: st) := by
  subst hp; exact g.step fun T locs X t q => XS.imul X.here C.1 rfl (hb C.2.1 hd) rfl q
theorem w_iand (pc' : Nat) (C : Cx K Z own name code maxL ret R n0 Post) {x y : Int32} (hd : decode code pc = .ok (.iand, 1)) (hp : pc + 1 = pc') (g : Go K h cells slots pc' Ls (.int (x &&& y) :: st)) : Go K h cells slots pc Ls (.int y :: .int x :: st) := by
  subst hp; exact g.step fun T locs X t q => XS.iand X.here C.1 rfl (hb C.2.1 hd) rfl q
theorem w_ior (pc' : Nat) (C : Cx K Z own name code maxL ret R n0 Post) {x y : Int32} (hd : decode code pc = .ok (.ior, 1)) (hp : pc + 1 = pc') (g : Go K h cells slots pc' Ls (.int (x ||| y) :: st)) : Go K h cells slots pc Ls (.int y :: .int x :: st) := by
  subst hp; exact g.step fun T locs X t q => XS.ior X.here C.1 rfl (hb C.2.1 hd) rfl q
theorem w_ixor (pc' : Nat) (C : Cx K Z own name code maxL ret R n0 Post) {x y : Int32} (hd : decode code pc = .ok (.ixor, 1)) (hp : pc + 1 = pc') (g : Go K h cells slots pc' Ls (.int (x ^^^ y) :: st)) : Go K h cells slots pc Ls (.int y :: .int x :: st) := by
  subst hp; exact g.step fun T locs X t q => XS.ixor X.here C.1 rfl (hb C.2.1 hd) rfl q
theorem w_ishl (pc' : Nat) (C : Cx K Z own name code maxL ret R n0 Post) {x y : Int32} (hd : decode code pc = .ok (.ishl, 1)) (hp : pc + 1 = pc') (g : Go K h cells slots pc' Ls (.int (x <<< (y &&& 31)) :: st)) : Go K h cells slots pc Ls (.int y :: .int x :: st) := by
  subst hp; exact g.step fun T locs X t q => XS.ishl X.here C.1 rfl (hb C.2.1 hd) rfl q
theorem w_ishr (pc' : Nat) (C : Cx K Z own name code maxL ret R n0 Post) {x y : Int32} (hd : decode code pc = .ok (.ishr, 1)) (hp : pc + 1 = pc') (g : Go K h cells slots pc' Ls (.int (x >>> (y &&& 31)) :: st)) : Go K h cells slots pc Ls (.int y :: .int x :: st) := by
  subst hp; exact g.step fun T locs X t q => XS.ishr X.here C.1 rfl (hb C.2.1 hd) rfl q
theorem w_iushr (pc' : Nat) (C : Cx K Z own name code maxL ret R n0 Post) {x y : Int32} (hd : decode code pc = .ok (.iushr, 1)) (hp : pc + 1 = pc') (g : Go K h cells slots pc' Ls (.int ((x.toUInt32 >>> (y &&& 31).toUInt32).toInt32) :: st)) : Go K h cells slots pc Ls (.int y :: .int x :: st) := by
  subst hp; exact g.step fun T locs X t q => XS.iushr X.here C.1 rfl (hb C.2.1 hd) rfl q
theorem w_ladd (pc' : Nat) (C : Cx K Z own name code maxL ret R n0 Post) {x y : Int64} (hd : decode code pc = .ok (.ladd, 1)) (hp : pc + 1 = pc') (g : Go K h cells slots pc' Ls (.long (x + y) :: st)) : Go K h cells slots pc Ls (.long y :: .long x :: st) := by
  subst hp; exact g.step fun T locs X t q => XS.ladd X.here C.1 rfl (hb C.2.1 hd) rfl q
theorem w_lsub (pc' : Nat) (C : Cx K Z own name code maxL ret R n0 Post) {x y : Int64} (hd : decode code pc = .ok (.lsub, 1)) (hp : pc + 1 = pc') (g : Go K h cells slots pc' Ls (.long (x - y) :: st)) : Go K h cells slots pc Ls (.long y :: .long x :: st) := by
  subst hp; exact g.step fun T locs X t q => XS.lsub X.here C.1 rfl (hb C.2.1 hd) rfl q
theorem w_lmul (pc' : Nat) (C : Cx K Z own name code maxL ret R n0 Post) {x y : Int64} (hd : decode code pc = .ok (.lmul, 1)) (hp : pc + 1 = pc') (g : Go K h cells slots pc' Ls (.long (x * y) :: st)) : Go K h cells slots pc Ls (.long y :: .long x :: st) := by
  subst hp; exact g.step fun T locs X t q => XS.lmul X.here C.1 rfl (hb C.2.1 hd) rfl q
theorem w_land (pc' : Nat) (C : Cx K Z own name code maxL ret R n0 Post) {x y : Int64} (hd : decode code pc = .ok (.land, 1)) (hp : pc + 1 = pc') (g : Go K h cells slots pc' Ls (.long (x &&& y) :: st)) : Go K h cells slots pc Ls (.long y :: .long x :: st) := by
  subst hp; exact g.step fun T locs X t q => XS.land X.here C.1 rfl (hb C.2.1 hd) rfl q
theorem w_lor (pc' : Nat) (C : Cx K Z own name code maxL ret R n0 Post) {x y : Int64} (hd : decode code pc = .ok (.lor, 1)) (hp : pc + 1 = pc') (g : Go K h cells slots pc' Ls (.long (x ||| y) :: st)) : Go K h cells slots pc Ls (.long y :: .long x :: st) := by
  subst hp; exact g.step fun T locs X t q => XS.lor X.here C.1 rfl (hb C.2.1 hd) rfl q
theorem w_lxor (pc' : Nat) (C : Cx K Z own name code maxL ret R n0 Post) {x y : Int64} (hd : decode code pc = .ok (.lxor, 1)) (hp : pc + 1 = pc') (g : Go K h cells slots pc' Ls (.long (x ^^^ y) :: st)) : Go K h cells slots pc Ls (.long y :: .long x :: st) := by
  subst hp; exact g.step fun T locs X t q => XS.lxor X.here C.1 rfl (hb C.2.1 hd) rfl q
theorem w_lshl (pc' : Nat) (C : Cx K Z own name code maxL ret R n0 Post) {x : Int64} {y : Int32} (hd : decode code pc = .ok (.lshl, 1)) (hp : pc + 1 = pc') (g : Go K h cells slots pc' Ls (.long (x <<< (y &&& 0x3f).toInt64) :: st)) : Go K h cells slots pc Ls (.int y :: .long x :: st) := by
  subst hp; exact g.step fun T locs X t q => XS.lshl X.here C.1 rfl (hb C.2.1 hd) rfl q
theorem w_lshr (pc' : Nat) (C : Cx K Z own name code maxL ret R n0 Post) {x : Int64} {y : Int32} (hd : decode code pc = .ok (.lshr, 1)) (hp : pc + 1 = pc') (g : Go K h cells slots pc' Ls (.long (x >>> (y &&& 0x3f).toInt64) :: st)) : Go K h cells slots pc Ls (.int y :: .long x :: st) := by
  subst hp; exact g.step fun T locs X t q => XS.lshr X.here C.1 rfl (hb C.2.1 hd) rfl q
theorem w_lushr (pc' : Nat) (C : Cx K Z own name code maxL ret R n0 Post) {x : Int64} {y : Int32} (hd : decode code pc = .ok (.lushr, 1)) (hp : pc + 1 = pc') (g : Go K h cells slots pc' Ls (.long ((x.toUInt64 >>> (y &&& 0x3f).toInt64.toUInt64).toInt64) :: st)) : Go K h cells slots pc Ls (.int y :: .long x :: st) := by
  subst hp; exact g.step fun T locs X t q => XS.lushr X.here C.1 rfl (hb C.2.1 hd) rfl q
theorem w_ineg (pc' : Nat) (C : Cx K Z own name code maxL ret R n0 Post) {x : Int32} (hd : decode code pc = .ok (.ineg, 1)) (hp : pc + 1 = pc') (g : Go K h cells slots pc' Ls (.int (-x) :: st)) : Go K h cells slots pc Ls (.int x :: st) := by
  subst hp; exact g.step fun T locs X t q => XS.ineg X.here C.1 rfl (hb C.2.1 hd) rfl q
theorem w_lneg (pc' : Nat) (C : Cx K Z own name code maxL ret R n0 Post) {x : Int64} (hd : decode code pc = .ok (.lneg, 1)) (hp : pc + 1 = pc') (g : Go K h cells slots pc' Ls (.long (-x) :: st)) : Go K h cells slots pc Ls (.long x :: st) := by
  subst hp; exact g.step fun T locs X t q => XS.lneg X.here C.1 rfl (hb C.2.1 hd) rfl q
theorem w_i2l (pc' : Nat) (C : Cx K Z own name code maxL ret R n0 Post) {x : Int32} (hd : decode code pc = .ok (.i2l, 1)) (hp : pc + 1 = pc') (g : Go K h cells slots pc' Ls (.long (x.toInt64) :: st)) : Go K h cells slots pc Ls (.int x :: st) := by
  subst hp; exact g.step fun T locs X t q => XS.i2l X.here C.1 rfl (hb C.2.1 hd) rfl q
theorem w_l2i (pc' : Nat) (C : Cx K Z own name code maxL ret R n0 Post) {x : Int64} (hd : decode code pc = .ok (.l2i, 1)) (hp : pc + 1 = pc') (g : Go K h cells slots pc' Ls (.int (x.toInt32) :: st)) : Go K h cells slots pc Ls (.long x :: st) := by
  subst hp; exact g.step fun T locs X t q => XS.l2i X.here C.1 rfl (hb C.2.1 hd) rfl q
theorem w_i2b (pc' : Nat) (C : Cx K Z own name code maxL ret R n0 Post) {x : Int32} (hd : decode code pc = .ok (.i2b, 1)) (hp : pc + 1 = pc') (g : Go K h cells slots pc' Ls (.int (x.toInt8.toInt32) :: st)) : Go K h cells slots pc Ls (.int x :: st) := by
  subst hp; exact g.step fun T locs X t q => XS.i2b X.here C.1 rfl (hb C.2.1 hd) rfl q
theorem w_i2s (pc' : Nat) (C : Cx K Z own name code maxL ret R n0 Post) {x : Int32} (hd : decode code pc = .ok (.i2s, 1)) (hp : pc + 1 = pc') (g : Go K h cells slots pc' Ls (.int (x.toInt16.toInt32) :: st)) : Go K h cells slots pc Ls (.int x :: st) := by
  subst hp; exact g.step fun T locs X t q => XS.i2s X.here C.1 rfl (hb C.2.1 hd) rfl q
theorem w_i2c (pc' : Nat) (C : Cx K Z own name code maxL ret R n0 Post) {x : Int32} (hd : decode code pc = .ok (.i2c, 1)) (hp : pc + 1 = pc') (g : Go K h cells slots pc' Ls (.int (x.toUInt32.toUInt16.toUInt32.toInt32) :: st)) : Go K h cells slots pc Ls (.int x :: st) := by
  subst hp; exact g.step fun T locs X t q => XS.i2c X.here C.1 rfl (hb C.2.1 hd) rfl q
theorem w_idiv (pc' : Nat) (C : Cx K Z own name code maxL ret R n0 Post) {x y : Int32} (hd : decode code pc = .ok (.idiv, 1)) (hp : pc + 1 = pc') (hy : y ≠ 0) (g : Go K h cells slots pc' Ls (.int (x / y) :: st)) : Go K h cells slots pc Ls (.int y :: .int x :: st) := by
  subst hp; exact g.step fun T locs X t q => XS.idiv X.here C.1 rfl (hb C.2.1 hd) rfl hy q
theorem w_ldiv (pc' : Nat) (C : Cx K Z own name code maxL ret R n0 Post) {x y : Int64} (hd : decode code pc = .ok (.ldiv, 1)) (hp : pc + 1 = pc') (hy : y ≠ 0) (g : Go K h cells slots pc' Ls (.long (x / y) :: st)) : Go K h cells slots pc Ls (.long y :: .long x :: st) := by
  subst hp; exact g.step fun T locs X t q => XS.ldiv X.here C.1 rfl (hb C.2.1 hd) rfl hy q
theorem w_irem (pc' : Nat) (C : Cx K Z own name code maxL ret R n0 Post) {x y : Int32} (hd : decode code pc = .ok (.irem, 1)) (hp : pc + 1 = pc') (hy : y ≠ 0) (g : Go K h cells slots pc' Ls (.int (x % y) :: st)) : Go K h cells slots pc Ls (.int y :: .int x :: st) := by
  subst hp; exact g.step fun T locs X t q => iremM (g := mkF K.m pc Ls.toArray (.int y :: .int x :: st)) X C.1 rfl (hb C.2.1 hd) rfl hy q
theorem own_lrem (x y : Int64) : x - x / y * y = x % y := by
  apply Int64.toInt_inj.mp
  rw [Int64.toInt_sub, Int64.toInt_mul, Int64.toInt_div, Int64.toInt_mod, Int.tmod_def]
  have h1 := x.le_toInt; have h2 := x.toInt_lt
  have q : ((x.toInt.tdiv y.toInt).bmod (2 ^ 64) * y.toInt).bmod (2 ^ 64) = (x.toInt.tdiv y.toInt * y.toInt).bmod (2 ^ 64) := by rw [Int.bmod_mul_bmod]
  rw [q, Int.sub_bmod_bmod]
  rw [show x.toInt - x.toInt.tdiv y.toInt * y.toInt = x.toInt - y.toInt * x.toInt.tdiv y.toInt from by rw [Int.mul_comm], ← Int.tmod_def]
  have h3 : (x.toInt.tmod y.toInt).natAbs ≤ x.toInt.natAbs := by rw [Int.natAbs_tmod]; exact Nat.mod_le _ _
  have h4 := Int.tmod_nonneg (a := x.toInt) y.toInt
  have h5 := Int.tmod_nonneg (a := -x.toInt) y.toInt
  rw [Int.neg_tmod] at h5
  apply Int.bmod_eq_of_le <;> omega
theorem w_lrem (pc' : Nat) (C : Cx K Z own name code maxL ret R n0 Post) {x y : Int64} (hd : decode code pc = .ok (.lrem, 1)) (hp : pc + 1 = pc') (hy : y ≠ 0) (g : Go K h cells slots pc' Ls (.long (x % y) :: st)) : Go K h cells slots pc Ls (.long y :: .long x :: st) := by
  subst hp; exact g.step fun T locs X t q => XS.lrem X.here C.1 rfl (hb C.2.1 hd) rfl hy (by rw [own_lrem]; exact q)
theorem w_dup (pc' : Nat) (C : Cx K Z own name code maxL ret R n0 Post) {x : Value} (hd : decode code pc = .ok (.dup, 1)) (hp : pc + 1 = pc') (hc : x.category = 1) (g : Go K h cells slots pc' Ls (x :: x :: st)) : Go K h cells slots pc Ls (x :: st) := by
  subst hp; exact g.step fun T locs X t q => XS.dup X.here C.1 rfl (hb C.2.1 hd) rfl hc q
theorem w_pop (pc' : Nat) (C : Cx K Z own name code maxL ret R n0 Post) {x : Value} (hd : decode code pc = .ok (.pop, 1)) (hp : pc + 1 = pc') (hc : x.category = 1) (g : Go K h cells slots pc' Ls st) : Go K h cells slots pc Ls (x :: st) := by
  subst hp; exact g.step fun T locs X t q => XS.pop X.here C.1 rfl (hb C.2.1 hd) rfl hc q
theorem w_dupX1 (pc' : Nat) (C : Cx K Z own name code maxL ret R n0 Post) {x y : Value} (hd : decode code pc = .ok (.dup_x1, 1)) (hp : pc + 1 = pc') (hc : x.category = 1) (hc' : y.category = 1) (g : Go K h cells slots pc' Ls (x :: y :: x :: st)) : Go K h cells slots pc Ls (x :: y :: st) := by
  subst hp; exact g.step fun T locs X t q => XS.dupX1 X.here C.1 rfl (hb C.2.1 hd) rfl hc hc' q
/-! 3. jumps -/
theorem w_goto (pc' : Nat) (C : Cx K Z own name code maxL ret R n0 Post) {o : Int} (hd : decode code pc = .ok (.goto o, 3)) (hp : (pc : Int) + o = (pc' : Nat)) (g : Go K h cells slots pc' Ls st) : Go K h cells slots pc Ls st :=
  g.step fun T locs X t q => XS.goto X.here C.1 rfl (pc0 := pc) (pc' := pc') rfl (hb C.2.1 hd) (by omega) (by omega) q
/-- what a comparison asks, in plain words -/
def cP : ClassFile.Cond → Int32 → Int32 → Prop
  | .eq, x, y => x = y
  | .ne, x, y => ¬ (x = y)
  | .lt, x, y => x.toInt < y.toInt
  | .ge, x, y => y.toInt ≤ x.toInt
  | .gt, x, y => y.toInt < x.toInt
  | .le, x, y => x.toInt ≤ y.toInt
theorem own_icmpT {cd : ClassFile.Cond} {x y : Int32} (q : cP cd x y) : if_icmp.holds cd x y = true := by
  cases cd <;> simp only [cP] at q <;> simp [if_icmp.holds, Int32.lt_iff_toInt_lt, Int32.le_iff_toInt_le] <;> first | exact q | omega
theorem own_icmpF {cd : ClassFile.Cond} {x y : Int32} (q : ¬ cP cd x y) : if_icmp.holds cd x y = false := by
  cases cd <;> simp only [cP] at q <;> simp [if_icmp.holds, Int32.lt_iff_toInt_lt, Int32.le_iff_toInt_le] <;> first | exact q | omega | (simpa using q)
theorem w_icmpY (pc' : Nat) (C : Cx K Z own name code maxL ret R n0 Post) {cd : ClassFile.Cond} {x y : Int32} {o : Int} (hd : decode code pc = .ok (.if_icmp cd o, 3)) (hp : (pc : Int) + o = (pc' : Nat)) (q : cP cd x y) (g : Go K h cells slots pc' Ls st) : Go K h cells slots pc Ls (.int y :: .int x :: st) :=
  g.step fun T locs X t k => XS.icmpYes X.here C.1 rfl (pc0 := pc) (pc' := pc') rfl (hb C.2.1 hd) rfl (own_icmpT q) (by omega) (by omega) k
theorem w_icmpN (pc' : Nat) (C : Cx K Z own name code maxL ret R n0 Post) {cd : ClassFile.Cond} {x y : Int32} {o : Int} (hd : decode code pc = .ok (.if_icmp cd o, 3)) (hp : pc + 3 = pc') (q : ¬ cP cd x y) (g : Go K h cells slots pc' Ls st) : Go K h cells slots pc Ls (.int y :: .int x :: st) := by
  subst hp; exact g.step fun T locs X t k => XS.icmpNo X.here C.1 rfl (hb C.2.1 hd) rfl (own_icmpF q) k
theorem w_icmp (pcY pcN : Nat) (C : Cx K Z own name code maxL ret R n0 Post) {cd : ClassFile.Cond} {x y : Int32} {o : Int} (hd : decode code pc = .ok (.if_icmp cd o, 3)) (hp : (pc : Int) + o = (pcY : Nat)) (hn : pc + 3 = pcN) (gY : cP cd x y → Go K h cells slots pcY Ls st) (gN : ¬ cP cd x y → Go K h cells slots pcN Ls st) : Go K h cells slots pc Ls (.int y :: .int x :: st) := by
  by_cases q : cP cd x y
  · exact w_icmpY pcY C hd hp q (gY q)
  · exact w_icmpN pcN C hd hn q (gN q)
theorem w_ifY (pc' : Nat) (C : Cx K Z own name code maxL ret R n0 Post) {cd : ClassFile.Cond} {x : Int32} {o : Int} (hd : decode code pc = .ok (.ifCond cd o, 3)) (hp : (pc : Int) + o = (pc' : Nat)) (q : cP cd x 0) (g : Go K h cells slots pc' Ls st) : Go K h cells slots pc Ls (.int x :: st) :=
  g.step fun T locs X t k => XS.ifYes X.here C.1 rfl (pc0 := pc) (pc' := pc') rfl (hb C.2.1 hd) rfl ((if0 _ _).trans (own_icmpT q)) (by omega) (by omega) k
theorem w_ifN (pc' : Nat) (C : Cx K Z own name code maxL ret R n0 Post) {cd : ClassFile.Cond} {x : Int32} {o : Int} (hd : decode code pc = .ok (.ifCond cd o, 3)) (hp : pc + 3 = pc') (q : ¬ cP cd x 0) (g : Go K h cells slots pc' Ls st) : Go K h cells slots pc Ls (.int x :: st) := by
  subst hp; exact g.step fun T locs X t k => XS.ifNo X.here C.1 rfl (hb C.2.1 hd) rfl ((if0 _ _).trans (own_icmpF q)) k
theorem w_if (pcY pcN : Nat) (C : Cx K Z own name code maxL ret R n0 Post) {cd : ClassFile.Cond} {x : Int32} {o : Int} (hd : decode code pc = .ok (.ifCond cd o, 3)) (hp : (pc : Int) + o = (pcY : Nat)) (hn : pc + 3 = pcN) (gY : cP cd x 0 → Go K h cells slots pcY Ls st) (gN : ¬ cP cd x 0 → Go K h cells slots pcN Ls st) : Go K h cells slots pc Ls (.int x :: st) := by
  by_cases q : cP cd x 0
  · exact w_ifY pcY C hd hp q (gY q)
  · exact w_ifN pcN C hd hn q (gN q)
/-- lcmp and the branch behind it -/
def cL : ClassFile.Cond → Int64 → Int64 → Prop
  | .eq, x, y => x = y
  | .ne, x, y => ¬ (x = y)
  | .lt, x, y => x.toInt < y.toInt
  | .ge, x, y => y.toInt ≤ x.toInt
  | .gt, x, y => y.toInt < x.toInt
  | .le, x, y => x.toInt ≤ y.toInt
theorem own_lc (cd : ClassFile.Cond) (x y : Int64) : cP cd (lcmpW x y) 0 ↔ cL cd x y := by
  have h1 := lw_lt x y; have h2 := lw_gt x y; have h3 := lw_eq x y
  rw [Int32.lt_iff_toInt_lt, Int64.lt_iff_toInt_lt] at h1 h2
  cases cd <;> simp only [cP, cL]
  · exact h3
  · exact not_congr h3
  · exact h1
  · constructor <;> intro q <;> omega
  · exact h2
  · constructor <;> intro q <;> omega
theorem w_lcmp (pc' : Nat) (C : Cx K Z own name code maxL ret R n0 Post) {x y : Int64} (hd : decode code pc = .ok (.lcmp, 1)) (hp : pc + 1 = pc') (g : Go K h cells slots pc' Ls (.int (lcmpW x y) :: st)) : Go K h cells slots pc Ls (.long y :: .long x :: st) := by
  subst hp; exact g.step fun T locs X t q => XS.lcmp X.here C.1 rfl (hb C.2.1 hd) rfl q
theorem w_lifY (pc1 pc' : Nat) (C : Cx K Z own name code maxL ret R n0 Post) {cd : ClassFile.Cond} {x y : Int64} {o : Int} (hd0 : decode code pc = .ok (.lcmp, 1)) (hp0 : pc + 1 = pc1) (hd : decode code pc1 = .ok (.ifCond cd o, 3)) (hp : (pc1 : Int) + o = (pc' : Nat)) (q : cL cd x y) (g : Go K h cells slots pc' Ls st) : Go K h cells slots pc Ls (.long y :: .long x :: st) :=
  w_lcmp pc1 C hd0 hp0 (w_ifY pc' C hd hp ((own_lc cd x y).mpr q) g)
theorem w_lifN (pc1 pc' : Nat) (C : Cx K Z own name code maxL ret R n0 Post) {cd : ClassFile.Cond} {x y : Int64} {o : Int} (hd0 : decode code pc = .ok (.lcmp, 1)) (hp0 : pc + 1 = pc1) (hd : decode code pc1 = .ok (.ifCond cd o, 3)) (hp : pc1 + 3 = pc') (q : ¬ cL cd x y) (g : Go K h cells slots pc' Ls st) : Go K h cells slots pc Ls (.long y :: .long x :: st) :=
  w_lcmp pc1 C hd0 hp0 (w_ifN pc' C hd hp (fun z => q ((own_lc cd x y).mp z)) g)
theorem w_lif (pc1 pcY pcN : Nat) (C : Cx K Z own name code maxL ret R n0 Post) {cd : ClassFile.Cond} {x y : Int64} {o : Int} (hd0 : decode code pc = .ok (.lcmp, 1)) (hp0 : pc + 1 = pc1) (hd : decode code pc1 = .ok (.ifCond cd o, 3)) (hp : (pc1 : Int) + o = (pcY : Nat)) (hn : pc1 + 3 = pcN) (gY : cL cd x y → Go K h cells slots pcY Ls st) (gN : ¬ cL cd x y → Go K h cells slots pcN Ls st) : Go K h cells slots pc Ls (.long y :: .long x :: st) := by
  by_cases q : cL cd x y
  · exact w_lifY pc1 pcY C hd0 hp0 hd hp q (gY q)
  · exact w_lifN pc1 pcN C hd0 hp0 hd hn q (gN q)
theorem w_nullN (pc' : Nat) (C : Cx K Z own name code maxL ret R n0 Post) {b : Addr} {o : Int} (hd : decode code pc = .ok (.ifnull o, 3)) (hp : pc + 3 = pc') (g : Go K h cells slots pc' Ls st) : Go K h cells slots pc Ls (.ref b :: st) := by
  subst hp; exact g.step fun T locs X t k => XS.ifnullNo X.here C.1 rfl (hb C.2.1 hd) rfl k
theorem w_nonnullY (pc' : Nat) (C : Cx K Z own name code maxL ret R n0 Post) {b : Addr} {o : Int} (hd : decode code pc = .ok (.ifnonnull o, 3)) (hp : (pc : Int) + o = (pc' : Nat)) (g : Go K h cells slots pc' Ls st) : Go K h cells slots pc Ls (.ref b :: st) :=
  g.step fun T locs X t k => XS.ifnonnullYes X.here C.1 rfl (pc0 := pc) (pc' := pc') rfl (hb C.2.1 hd) rfl (by omega) (by omega) k
/-! 4. the end -/
theorem own_ret (C : Cx K Z own name code maxL ret R n0 Post) {v : Option Value} (hv : ret = none → v = none) (hc : cells ≤ R.cells) (hs : slots ≤ R.slots) (hq : Post v h)
    (hend : ∀ T locs, OwnSt K T locs cells slots → ∀ fs, (∀ (f : JFrame) (acts : List Action), f.method = K.m → f.locked = none → f.entered = [] → (doReturn K.e (T.setTop f) acts v).1 = T.setFrames fs) → Steps K.p.tables K.e K.below (T.setTop (mkF K.m pc Ls.toArray st)) (T.setFrames fs)) : Go K h cells slots pc Ls st := by
  obtain ⟨hx, hby, hml, hown, hnm, hret, hlk, hZ, hR, hn0, hPost⟩ := C
  intro T locs X eT N
  obtain ⟨fs, hr, hrun, hended, hW, hsame⟩ := X.leave (v := v) (fun q => hv (hret ▸ q)) hlk
  refine ⟨_, _, hend T locs X fs hr, hrun, hended, v, locs, rfl, ⟨N, ?_⟩, ⟨_, rfl⟩, hW, hsame.mono (by rw [hR]; exact hc) (by rw [hR]; exact hs)⟩
  rw [hPost]
  show Post v T.heap
  rw [eT]; exact hq
theorem w_retN {t : FieldType} (C : Cx K Z own name code maxL (some t) R n0 Post) (ht : t = .boolean ∨ t = .byte ∨ t = .char ∨ t = .short) {z z' : Int32} (hd : decode code pc = .ok (.ireturn, 1)) (hz : nar t z = z') (hc : cells ≤ R.cells) (hs : slots ≤ R.slots) (hq : Post (some (.int z')) h) : Go K h cells slots pc Ls (.int z :: st) := by
  subst hz
  exact own_ret C (fun q => by cases q) hc hs hq fun T locs X fs hr => retN X C.1 C.2.2.2.2.2.1 ht (hb C.2.1 hd) hr
theorem w_retI (C : Cx K Z own name code maxL (some .int) R n0 Post) {z : Int32} (hd : decode code pc = .ok (.ireturn, 1)) (hc : cells ≤ R.cells) (hs : slots ≤ R.slots) (hq : Post (some (.int z)) h) : Go K h cells slots pc Ls (.int z :: st) :=
  own_ret C (fun q => by cases q) hc hs hq fun T locs X fs hr => retOut X C.1 C.2.2.2.2.2.1 rfl (Or.inl ⟨rfl, Or.inl rfl, z, rfl⟩) (hb C.2.1 hd) hr
theorem w_retL (C : Cx K Z own name code maxL (some .long) R n0 Post) {z : Int64} (hd : decode code pc = .ok (.lreturn, 1)) (hc : cells ≤ R.cells) (hs : slots ≤ R.slots) (hq : Post (some (.long z)) h) : Go K h cells slots pc Ls (.long z :: st) :=
  own_ret C (fun q => by cases q) hc hs hq fun T locs X fs hr => retOut X C.1 C.2.2.2.2.2.1 rfl (Or.inr (Or.inl ⟨rfl, rfl, z, rfl⟩)) (hb C.2.1 hd) hr
theorem w_retA {t : FieldType} (C : Cx K Z own name code maxL (some t) R n0 Post) (ht : t.isReference = true) {z : Value} (hz : z.isRef = true) (hn : narrow t z = z) (hd : decode code pc = .ok (.areturn, 1)) (hc : cells ≤ R.cells) (hs : slots ≤ R.slots) (hq : Post (some z) h) : Go K h cells slots pc Ls (z :: st) :=
  own_ret C (fun q => by cases q) hc hs hq fun T locs X fs hr => retOut X C.1 C.2.2.2.2.2.1 hn (Or.inr (Or.inr (Or.inr (Or.inr ⟨rfl, ht, hz⟩)))) (hb C.2.1 hd) hr
theorem w_ret (C : Cx K Z own name code maxL none R n0 Post) (hd : decode code pc = .ok (.return_, 1)) (hc : cells ≤ R.cells) (hs : slots ≤ R.slots) (hq : Post none h) : Go K h cells slots pc Ls [] :=
  own_ret C (fun _ => rfl) hc hs hq fun T locs X fs hr => X.returnOut C.1 C.2.2.2.2.2.1 (hb C.2.1 hd) hr
/-! 5. arrays of ints, bytes .. -/
/-- the array at a holds these ints -/
def Ai (Z : State) (h : Heap) (a : Addr) (ty : FieldType) (vs : List Int32) : Prop := ∃ c : Cell, Arr Z h a c ty ∧ c.slots = (vs.map Value.int).toArray
theorem Ai.lt {a : Addr} {ty : FieldType} {vs : List Int32} (A : Ai Z h a ty vs) : a < h.size := by obtain ⟨c, A, -⟩ := A; exact A.lt
theorem Ai.keep {h' : Heap} {a : Addr} {ty : FieldType} {vs : List Int32} {ws : List Addr} (A : Ai Z h a ty vs) (K : Keep h h' ws) (q : a ∉ ws) : Ai Z h' a ty vs := by
  obtain ⟨c, A, r⟩ := A; exact ⟨c, ⟨K.2.1 a c A.1 q, A.2⟩, r⟩
theorem Ai.ext {h' : Heap} {a : Addr} {ty : FieldType} {vs : List Int32} (A : Ai Z h a ty vs) (E : Ext h h') : Ai Z h' a ty vs := by
  obtain ⟨c, A, r⟩ := A; exact ⟨c, A.ext E, r⟩
theorem own_idx {j : Int32} {i n : Nat} (hj : j.toInt = (i : Int)) (hi : i < n) : ¬ (j < 0 ∨ n ≤ j.toNatClampNeg) ∧ j.toNatClampNeg = i := by
  have q : j.toNatClampNeg = i := by rw [own_clamp, hj]; simp
  refine ⟨?_, q⟩
  rw [q, Int32.lt_iff_toInt_lt, hj]
  simp only [Int32.reduceToInt]
  omega
theorem w_newarr (pc' : Nat) (cap : Nat) (k : Nat) (C : Cx K Z own name code maxL ret R n0 Post) (hn0 : n0 ≤ h.size) {aty : ArrayType} {n : Int32} (hd : decode code pc = .ok (.newarray aty, 2)) (hp : pc + 2 = pc') (w : (Cond.arrayClass (newarray.typeOf aty)).before a0 Z = true) (hdef : defaultValue (newarray.typeOf aty) = .int 0) (hk : n.toInt = (k : Int)) (hcap : k ≤ cap) (hb0 : cap * 8 ≤ 536870912) (hc : cells + 1 ≤ R.cells) (hs : slots + cap ≤ R.slots)
    (g : ∀ h' a, Ext h h' → n0 ≤ a → h.size ≤ a → Ai Z h' a (newarray.typeOf aty) (List.replicate k 0) → n0 ≤ h'.size → Go K h' (cells + 1) (slots + cap) pc' Ls (.ref a :: st)) : Go K h cells slots pc Ls (.int n :: st) := by
  obtain ⟨hx, hby, hml, hown, hnm, hret, hlk, hZ, hR, hn, hPost⟩ := C
  subst hp
  intro T locs X eT N
  have hnn : ¬ n < 0 := by rw [Int32.lt_iff_toInt_lt, hk]; simp only [Int32.reduceToInt]; omega
  have hkn : n.toNatClampNeg = k := by rw [own_clamp, hk]; simp
  obtain ⟨T', h', cA, X', e', E, A, st'⟩ := newP X hx hZ w eT (g := mkF K.m pc Ls.toArray (.int n :: st)) rfl (hb hby hd) rfl hnn (cap := cap) (by omega) hb0 (by rw [hR]; exact hc) (by rw [hR]; exact hs)
  refine OwnDone.of (st' ·) (g h' h.size E hn0 (Nat.le_refl _) ⟨_, A, ?_⟩ (Nat.le_trans hn0 E.1) T' locs X' e' N)
  rw [own_newA, hkn, hdef]
  simp
theorem w_len (pc' : Nat) (z : Int32) (C : Cx K Z own name code maxL ret R n0 Post) {a : Addr} {ty : FieldType} {vs : List Int32} (A : Ai Z h a ty vs) (hd : decode code pc = .ok (.arraylength, 1)) (hp : pc + 1 = pc') (hz : vs.length.toInt32 = z) (g : Go K h cells slots pc' Ls (.int z :: st)) : Go K h cells slots pc Ls (.ref a :: st) := by
  obtain ⟨c, A, hc⟩ := A
  have hn : c.slots.size = vs.length := by rw [hc]; simp
  subst hp hz
  intro T locs X eT N
  refine OwnDone.of (fun t q => X.arraylength C.1 (by rw [eT]; exact A.1) (State.isArrayOf_alike C.2.2.2.2.2.2.2.1.alike A.2.1) (g := mkF K.m pc Ls.toArray (.ref a :: st)) rfl rfl (hb C.2.1 hd) t (by rw [hn]; exact q)) (g T locs X eT N)
theorem w_iaload (pc' : Nat) (i : Nat) (v : Int32) (C : Cx K Z own name code maxL ret R n0 Post) {a : Addr} {vs : List Int32} {j : Int32} (A : Ai Z h a .int vs) (hd : decode code pc = .ok (.iaload, 1)) (hp : pc + 1 = pc') (hj : j.toInt = (i : Int)) (hv : vs[i]? = some v) (g : Go K h cells slots pc' Ls (.int v :: st)) : Go K h cells slots pc Ls (.int j :: .ref a :: st) := by
  obtain ⟨c, A, hc⟩ := A
  have hi : i < vs.length := (List.getElem?_eq_some_iff.mp hv).1
  have hn : c.slots.size = vs.length := by rw [hc]; simp
  obtain ⟨q1, q2⟩ := own_idx (n := c.slots.size) hj (by rw [hn]; exact hi)
  have hat : c.slots[j.toNatClampNeg]? = some (.int v) := by rw [hc, q2]; simp [hv]
  subst hp
  intro T locs X eT N
  exact OwnDone.of (fun t q => X.iaload C.1 (by rw [eT]; exact A.1) (State.isArrayOf_alike C.2.2.2.2.2.2.2.1.alike A.2.1) A.2.2 q1 hat (g := mkF K.m pc Ls.toArray (.int j :: .ref a :: st)) rfl rfl (hb C.2.1 hd) t q) (g T locs X eT N)
theorem w_baload (pc' : Nat) (i : Nat) (v : Int32) (C : Cx K Z own name code maxL ret R n0 Post) {a : Addr} {vs : List Int32} {j : Int32} (A : Ai Z h a .byte vs) (hd : decode code pc = .ok (.baload, 1)) (hp : pc + 1 = pc') (hj : j.toInt = (i : Int)) (hv : vs[i]? = some v) (g : Go K h cells slots pc' Ls (.int v :: st)) : Go K h cells slots pc Ls (.int j :: .ref a :: st) := by
  obtain ⟨c, A, hc⟩ := A
  have hi : i < vs.length := (List.getElem?_eq_some_iff.mp hv).1
  have hn : c.slots.size = vs.length := by rw [hc]; simp
  obtain ⟨q1, q2⟩ := own_idx (n := c.slots.size) hj (by rw [hn]; exact hi)
  have hat : c.slots[j.toNatClampNeg]? = some (.int v) := by rw [hc, q2]; simp [hv]
  subst hp
  intro T locs X eT N
  exact OwnDone.of (fun t q => X.baloadBytes C.1 (by rw [eT]; exact A.1) (State.isArrayOf_alike C.2.2.2.2.2.2.2.1.alike A.2.1) A.2.2 q1 hat (g := mkF K.m pc Ls.toArray (.int j :: .ref a :: st)) rfl rfl (hb C.2.1 hd) t q) (g T locs X eT N)
theorem own_set {h' : Heap} {a : Addr} {ty : FieldType} {vs : List Int32} {c : Cell} {i : Nat} {x : Int32} (A : Arr Z h a c ty) (hc : c.slots = (vs.map Value.int).toArray) (W : Wr h h' a i (.int x)) : Ai Z h' a ty (vs.set i x) :=
  ⟨_, A.same W, by rw [own_setSlot, hc]; simp [List.map_set]⟩
theorem w_iastore (pc' : Nat) (i : Nat) (C : Cx K Z own name code maxL ret R n0 Post) {a : Addr} {vs : List Int32} {j x : Int32} (A : Ai Z h a .int vs) (ha : n0 ≤ a) (hd : decode code pc = .ok (.iastore, 1)) (hp : pc + 1 = pc') (hj : j.toInt = (i : Int)) (hi : i < vs.length)
    (g : ∀ h', Keep h h' [a] → Ai Z h' a .int (vs.set i x) → Go K h' cells slots pc' Ls st) : Go K h cells slots pc Ls (.int x :: .int j :: .ref a :: st) := by
  obtain ⟨c, A, hc⟩ := A
  have hn : c.slots.size = vs.length := by rw [hc]; simp
  obtain ⟨q1, q2⟩ := own_idx (n := c.slots.size) hj (by rw [hn]; exact hi)
  subst hp
  intro T locs X eT N
  obtain ⟨T', h', X', e', W, st'⟩ := stI X C.1 C.2.2.2.2.2.2.2.1 eT A (j := j) (x := x) q1 (g := mkF K.m pc Ls.toArray (.int x :: .int j :: .ref a :: st)) rfl rfl (hb C.2.1 hd)
  rw [q2] at X' W
  exact OwnDone.of (st' ·) (g h' (Keep.of_wr W) (own_set A hc W) T' _ X' e' (Fr.snoc X' N (by rw [C.2.2.2.2.2.2.2.2.2.1]; exact ha)))
theorem w_bastore (pc' : Nat) (i : Nat) (x' : Int32) (C : Cx K Z own name code maxL ret R n0 Post) {a : Addr} {vs : List Int32} {j x : Int32} (A : Ai Z h a .byte vs) (ha : n0 ≤ a) (hd : decode code pc = .ok (.bastore, 1)) (hp : pc + 1 = pc') (hj : j.toInt = (i : Int)) (hi : i < vs.length) (hx' : x.toInt8.toInt32 = x')
    (g : ∀ h', Keep h h' [a] → Ai Z h' a .byte (vs.set i x') → Go K h' cells slots pc' Ls st) : Go K h cells slots pc Ls (.int x :: .int j :: .ref a :: st) := by
  obtain ⟨c, A, hc⟩ := A
  have hn : c.slots.size = vs.length := by rw [hc]; simp
  obtain ⟨q1, q2⟩ := own_idx (n := c.slots.size) hj (by rw [hn]; exact hi)
  subst hp hx'
  intro T locs X eT N
  obtain ⟨T', h', X', e', W, st'⟩ := stB X C.1 C.2.2.2.2.2.2.2.1 eT A (j := j) (x := x) q1 (g := mkF K.m pc Ls.toArray (.int x :: .int j :: .ref a :: st)) rfl rfl (hb C.2.1 hd)
  rw [q2] at X' W
  exact OwnDone.of (st' ·) (g h' (Keep.of_wr W) (own_set A hc W) T' _ X' e' (Fr.snoc X' N (by rw [C.2.2.2.2.2.2.2.2.2.1]; exact ha)))
/-! 6. objects -/
theorem w_new (pc' : Nat) {Cn : String} {n i : Nat} (C : Cx K Z own name code maxL ret R n0 Post) (hn0 : n0 ≤ h.size) (hd : decode code pc = .ok (.new i, 3)) (hp : pc + 3 = pc') (w1 : (Cond.classLink own i Cn).before a0 Z = true) (w2 : (Cond.instantiable Cn n).before a0 Z = true) (w3 : (Cond.initialized Cn).before a0 Z = true) (hc : cells + 1 ≤ R.cells) (hs : slots + n ≤ R.slots)
    (g : ∀ h' a, Ext h h' → n0 ≤ a → h.size ≤ a → Exa Z h' a Cn → (∀ {O nm d : String} {ty : FieldType}, Laid Z a0 Cn O nm d → parseFieldDescriptor d = some ty → Fld Z h' a O nm d (defaultValue ty)) → n0 ≤ h'.size → Go K h' (cells + 1) (slots + n) pc' Ls (.ref a :: st)) : Go K h cells slots pc Ls st := by
  obtain ⟨hx, hby, hml, hown, hnm, hret, hlk, hZ, hR, hn, hPost⟩ := C
  subst hp
  intro T locs X eT N
  obtain ⟨T', h', X', e', E, A, D, -, st'⟩ := newO X hx hZ hown w1 w2 w3 eT (g := mkF K.m pc Ls.toArray st) rfl (hb hby hd) (by rw [hR]; exact hc) (by rw [hR]; exact hs)
  exact OwnDone.of (st' ·) (g h' h.size E hn0 (Nat.le_refl _) A D (Nat.le_trans hn0 E.1) T' locs X' e' N)
theorem w_getF (pc' : Nat) {R0 O n d host : String} {i : Nat} (C : Cx K Z own name code maxL ret R n0 Post) {a : Addr} {v : Value} (F : Fld Z h a O n d v) (hd : decode code pc = .ok (.getfield i, 3)) (hp : pc + 3 = pc') (w : (Cond.fieldLink own i R0 n d).before a0 Z = true ∨ (Cond.fieldLinkNest own i R0 n d host).before a0 Z = true) (via : Via Z R0 O n d) (g : Go K h cells slots pc' Ls (v :: st)) : Go K h cells slots pc Ls (.ref a :: st) := by
  subst hp
  intro T locs X eT N
  obtain ⟨T', X', e', st'⟩ := getF X C.1 C.2.2.2.2.2.2.2.1 C.2.2.2.1 w via eT F (g := mkF K.m pc Ls.toArray (.ref a :: st)) rfl rfl (hb C.2.1 hd)
  exact OwnDone.of (st' ·) (g T' locs X' e' N)
theorem w_putF (pc' : Nat) {R0 O n d host Cn : String} {i kk : Nat} {ty : FieldType} (C : Cx K Z own name code maxL ret R n0 Post) {a : Addr} {v old : Value} (F : Fld Z h a O n d old) (E : Exa Z h a Cn) (ha : n0 ≤ a) (hd : decode code pc = .ok (.putfield i, 3)) (hp : pc + 3 = pc') (w : (Cond.fieldLink own i R0 n d).before a0 Z = true ∨ (Cond.fieldLinkNest own i R0 n d host).before a0 Z = true) (via : Via Z R0 O n d)
    (L : (Cond.lays Cn O n d).before a0 Z = true ∨ ((Cond.laysFinal Cn O n d).before a0 Z = true ∧ own = O ∧ name = "<init>")) (wi : (Cond.instantiable Cn kk).before a0 Z = true) (hty : parseFieldDescriptor d = some ty) (hn : narrow ty v = v) (hf : fits ty v = true)
    (g : ∀ h', Keep h h' [a] → Wr h h' a (Jvm.RoadKit.slotOf Z O n d) v → Fld Z h' a O n d v → Exa Z h' a Cn → Go K h' cells slots pc' Ls st) : Go K h cells slots pc Ls (v :: .ref a :: st) := by
  subst hp
  intro T locs X eT N
  obtain ⟨T', h', X', e', W, st'⟩ := putF X C.1 C.2.2.2.2.2.2.2.1 C.2.2.2.1 w via eT F E (L.imp id fun q => ⟨q.1, q.2.1, C.2.2.2.2.1.trans q.2.2⟩) wi hty hn hf (g := mkF K.m pc Ls.toArray (v :: .ref a :: st)) rfl rfl (hb C.2.1 hd)
  exact OwnDone.of (st' ·) (g h' (Keep.of_wr W) W (F.same W) (E.wr W) T' _ X' e' (Fr.snoc X' N (by rw [C.2.2.2.2.2.2.2.2.2.1]; exact ha)))
theorem w_initO (pc' W : Nat) {i : Nat} (C : Cx K Z own name code maxL ret R n0 Post) {a : Addr} (hd : decode code pc = .ok (.invokespecial i, 3)) (hp : pc + 3 = pc') (w1 : (Cond.methodLink own i Lib.objectInit).before a0 Z = true) (w2 : (Cond.instanceMethod Lib.objectInit).before a0 Z = true) (w3 : (Cond.code Lib.objectInit ⟨#[0xb1]⟩ 1 none).before a0 Z = true)
    (hsz : Ls.length = maxL) (hf : 1 ≤ R.frames) (hW : (st.map fun v => v.category).sum ≤ W) (hl : W + 12 ≤ R.locals) (g : Go K h cells slots pc' Ls st) : Go K h cells slots pc Ls (.ref a :: st) := by
  obtain ⟨hx, hby, hml, hown, hnm, hret, hlk, hZ, hR, hn, hPost⟩ := C
  subst hp
  intro T locs X eT N
  obtain ⟨T', X', e', st'⟩ := initO X hx hZ hown w1 w2 w3 eT (g := mkF K.m pc Ls.toArray (.ref a :: st)) rfl (by rw [hml]; simpa using hsz) rfl (hb hby hd) (by rw [hR]; exact hf) (W := W) (by show 2 * 0 + _ ≤ _; simpa using hW) (by rw [hR]; exact hl)
  exact OwnDone.of (st' ·) (g T' locs X' e' N)
/-! 7. calls -/
theorem w_callS (pc' W : Nat) {y : MethodName} {bytes : ByteArray} {mL i : Nat} {rt : Option FieldType} {rm : Room} {P : Option Value → Heap → Prop} (argsL : List Value) (C : Cx K Z own name code maxL ret R n0 Post) (hd : decode code pc = .ok (.invokestatic i, 3)) (hp : pc + 3 = pc')
    (w1 : (Cond.methodLink own i y).before a0 Z = true) (w2 : (Cond.static y).before a0 Z = true) (w3 : (Cond.initialized y.cls).before a0 Z = true) (w4 : (Cond.code y bytes mL rt).before a0 Z = true) (hy : y.cls ≠ "java/lang/invoke/MethodHandle" ∧ y.cls ≠ "java/lang/invoke/VarHandle")
    (hM : OwnMet K.l y bytes mL rt [] rm Z h n0 argsL.toArray P) {ps : List FieldType} {r : Option FieldType} (hpd : parseMethodDescriptor y.desc = some ⟨ps, r⟩) (hlen : argsL.length = ps.length)
    (hst : st = argsL.reverse ++ rest) (hsz : Ls.length = maxL) (hW : (rest.map fun v => v.category).sum ≤ W) (hf : rm.frames + 1 ≤ R.frames) (hl : W + (mL + 11) + rm.locals ≤ R.locals) (hc : cells + rm.cells ≤ R.cells) (hs : slots + rm.slots ≤ R.slots)
    (g : ∀ v h', P v h' → Go K h' (cells + rm.cells) (slots + rm.slots) pc' Ls (v.toList ++ rest)) : Go K h cells slots pc Ls st := by
  obtain ⟨hx, hby, hml, hown, hnm, hret, hlk, hZ, hR, hn, hPost⟩ := C
  subst hp hst
  intro T locs X eT N
  obtain ⟨v, vm₁, ⟨T', L', k', n'⟩, -, X', ⟨Lc, hQ, l1, y1, z1⟩, st'⟩ := Jvm.LawKit.callS X hx (y := y) hown (mvT hZ w1) (mvT hZ w2) (mvT hZ w3) (mvT hZ w4) hy (backOf (W := W) (Q := fun v h L => Fr n0 L ∧ P v h) hM hZ w4 w3 (by rw [hR]; exact hf) (by rw [hR]; exact hl)) (g := mkF K.m pc Ls.toArray (argsL.reverse ++ rest)) rfl (by rw [hml]; simpa using hsz) (argsL := argsL) (rest := rest) (lenOf hpd hlen) rfl (by show 2 * 0 + _ ≤ _; simpa using hW) (hb hby hd) (fun _ _ => ⟨rfl, eT, by rw [hR]; exact hc, by rw [hR]; exact hs⟩)
  dsimp only [Pt.U, Pt.locs, Pt.cells, Pt.slots] at X' l1 y1 z1 st' hQ
  subst l1 y1 z1
  exact OwnDone.of (st' ·) (g v T'.heap hQ.2 T' _ X' rfl (Fr.app N (by rw [hn]; exact hQ.1)))
theorem w_callI (pc' W : Nat) {y : MethodName} {bytes : ByteArray} {mL i : Nat} {rm : Room} {P : Option Value → Heap → Prop} (argsL : List Value) (C : Cx K Z own name code maxL ret R n0 Post) {a : Addr} (hd : decode code pc = .ok (.invokespecial i, 3)) (hp : pc + 3 = pc') (hy1 : y.name = "<init>")
    (w1 : (Cond.methodLink own i y).before a0 Z = true) (w2 : (Cond.instanceMethod y).before a0 Z = true) (w3 : (Cond.initialized y.cls).before a0 Z = true) (w4 : (Cond.code y bytes mL none).before a0 Z = true) (hy : y.cls ≠ "java/lang/invoke/MethodHandle" ∧ y.cls ≠ "java/lang/invoke/VarHandle")
    (hM : OwnMet K.l y bytes mL none [] rm Z h n0 (.ref a :: argsL).toArray P) {ps : List FieldType} {r : Option FieldType} (hpd : parseMethodDescriptor y.desc = some ⟨ps, r⟩) (hlen : argsL.length = ps.length)
    (hst : st = argsL.reverse ++ .ref a :: rest) (hsz : Ls.length = maxL) (hW : (rest.map fun v => v.category).sum ≤ W) (hf : rm.frames + 1 ≤ R.frames) (hl : W + (mL + 11) + rm.locals ≤ R.locals) (hc : cells + rm.cells ≤ R.cells) (hs : slots + rm.slots ≤ R.slots)
    (g : ∀ v h', P v h' → Go K h' (cells + rm.cells) (slots + rm.slots) pc' Ls (v.toList ++ rest)) : Go K h cells slots pc Ls st := by
  obtain ⟨hx, hby, hml, hown, hnm, hret, hlk, hZ, hR, hn, hPost⟩ := C
  subst hp hst
  intro T locs X eT N
  obtain ⟨v, vm₁, ⟨T', L', k', n'⟩, -, X', ⟨Lc, hQ, l1, y1, z1⟩, st'⟩ := X.specialBack hx (y := y) hy1 hown (mvT hZ w1) (mvT hZ w2) (mvT hZ w4) hy (backOf (W := W) (Q := fun v h L => Fr n0 L ∧ P v h) hM hZ w4 w3 (by rw [hR]; exact hf) (by rw [hR]; exact hl)) (g := mkF K.m pc Ls.toArray (argsL.reverse ++ .ref a :: rest)) rfl (by rw [hml]; simpa using hsz) (Steps.refl _) (a := a) (argsL := argsL) (rest := rest) (lenOf hpd hlen) rfl (by show 2 * 0 + _ ≤ _; simpa using hW) (hb hby hd) (fun _ _ => ⟨rfl, eT, by rw [hR]; exact hc, by rw [hR]; exact hs⟩)
  dsimp only [Pt.U, Pt.locs, Pt.cells, Pt.slots] at X' l1 y1 z1 st' hQ
  subst l1 y1 z1
  exact OwnDone.of (fun t q => st'.trans q) (g v T'.heap hQ.2 T' _ X' rfl (Fr.app N (by rw [hn]; exact hQ.1)))
theorem w_callIN (pc' W : Nat) {host : String} {y : MethodName} {bytes : ByteArray} {mL i : Nat} {rm : Room} {P : Option Value → Heap → Prop} (argsL : List Value) (C : Cx K Z own name code maxL ret R n0 Post) {a : Addr} (hd : decode code pc = .ok (.invokespecial i, 3)) (hp : pc + 3 = pc') (hy1 : y.name = "<init>")
    (w1 : (Cond.methodLinkNest own i y host).before a0 Z = true) (w2 : (Cond.instanceMethod y).before a0 Z = true) (w3 : (Cond.initialized y.cls).before a0 Z = true) (w4 : (Cond.code y bytes mL none).before a0 Z = true) (hy : y.cls ≠ "java/lang/invoke/MethodHandle" ∧ y.cls ≠ "java/lang/invoke/VarHandle")
    (hM : OwnMet K.l y bytes mL none [] rm Z h n0 (.ref a :: argsL).toArray P) {ps : List FieldType} {r : Option FieldType} (hpd : parseMethodDescriptor y.desc = some ⟨ps, r⟩) (hlen : argsL.length = ps.length)
    (hst : st = argsL.reverse ++ .ref a :: rest) (hsz : Ls.length = maxL) (hW : (rest.map fun v => v.category).sum ≤ W) (hf : rm.frames + 1 ≤ R.frames) (hl : W + (mL + 11) + rm.locals ≤ R.locals) (hc : cells + rm.cells ≤ R.cells) (hs : slots + rm.slots ≤ R.slots)
    (g : ∀ v h', P v h' → Go K h' (cells + rm.cells) (slots + rm.slots) pc' Ls (v.toList ++ rest)) : Go K h cells slots pc Ls st := by
  obtain ⟨hx, hby, hml, hown, hnm, hret, hlk, hZ, hR, hn, hPost⟩ := C
  subst hp hst
  intro T locs X eT N
  obtain ⟨v, vm₁, ⟨T', L', k', n'⟩, -, X', ⟨Lc, hQ, l1, y1, z1⟩, st'⟩ := X.specialBackNest hx (y := y) hy1 hown (Cond.methodLinkNest_wide hZ w1 :) (mvT hZ w2) (mvT hZ w4) hy (backOf (W := W) (Q := fun v h L => Fr n0 L ∧ P v h) hM hZ w4 w3 (by rw [hR]; exact hf) (by rw [hR]; exact hl)) (g := mkF K.m pc Ls.toArray (argsL.reverse ++ .ref a :: rest)) rfl (by rw [hml]; simpa using hsz) (Steps.refl _) (a := a) (argsL := argsL) (rest := rest) (lenOf hpd hlen) rfl (by show 2 * 0 + _ ≤ _; simpa using hW) (hb hby hd) (fun _ _ => ⟨rfl, eT, by rw [hR]; exact hc, by rw [hR]; exact hs⟩)
  dsimp only [Pt.U, Pt.locs, Pt.cells, Pt.slots] at X' l1 y1 z1 st' hQ
  subst l1 y1 z1
  exact OwnDone.of (fun t q => st'.trans q) (g v T'.heap hQ.2 T' _ X' rfl (Fr.app N (by rw [hn]; exact hQ.1)))
theorem w_callV (pc' W : Nat) {Cn : String} {y : MethodName} {bytes : ByteArray} {mL i : Nat} {rt : Option FieldType} {rm : Room} {P : Option Value → Heap → Prop} (argsL : List Value) (C : Cx K Z own name code maxL ret R n0 Post) {a : Addr} (E : Exa Z h a Cn) (hd : decode code pc = .ok (.invokevirtual i, 3)) (hp : pc + 3 = pc')
    (w1 : (Cond.methodLink own i y).before a0 Z = true) (w2 : (Cond.declares y).before a0 Z = true) (w5 : (Cond.selects Cn y y).before a0 Z = true) (w6 : (Cond.instanceMethod y).before a0 Z = true) (w3 : (Cond.initialized y.cls).before a0 Z = true) (w4 : (Cond.code y bytes mL rt).before a0 Z = true) (hy : y.cls ≠ "java/lang/invoke/MethodHandle" ∧ y.cls ≠ "java/lang/invoke/VarHandle")
    (hM : OwnMet K.l y bytes mL rt [] rm Z h n0 (.ref a :: argsL).toArray P) {ps : List FieldType} {r : Option FieldType} (hpd : parseMethodDescriptor y.desc = some ⟨ps, r⟩) (hlen : argsL.length = ps.length)
    (hst : st = argsL.reverse ++ .ref a :: rest) (hsz : Ls.length = maxL) (hW : (rest.map fun v => v.category).sum ≤ W) (hf : rm.frames + 1 ≤ R.frames) (hl : W + (mL + 11) + rm.locals ≤ R.locals) (hc : cells + rm.cells ≤ R.cells) (hs : slots + rm.slots ≤ R.slots)
    (g : ∀ v h', P v h' → Go K h' (cells + rm.cells) (slots + rm.slots) pc' Ls (v.toList ++ rest)) : Go K h cells slots pc Ls st := by
  obtain ⟨hx, hby, hml, hown, hnm, hret, hlk, hZ, hR, hn, hPost⟩ := C
  subst hp hst
  intro T locs X eT N
  obtain ⟨cq, kq, qa, qb, qc⟩ := isOf hZ eT E
  obtain ⟨v, vm₁, ⟨T', L', k', n'⟩, -, X', ⟨Lc, hQ, l1, y1, z1⟩, st'⟩ := X.virtualBack hx (y := y) (z := y) hown (mvT hZ w1) (mvT hZ w2) (notFace_of_selects (args := #[]) (mvT hZ w5)) (mvT hZ w5) (mvT hZ w6) hy (backOf (W := W) (Q := fun v h L => Fr n0 L ∧ P v h) hM hZ w4 w3 (by rw [hR]; exact hf) (by rw [hR]; exact hl)) qa qc (g := mkF K.m pc Ls.toArray (argsL.reverse ++ .ref a :: rest)) rfl (by rw [hml]; simpa using hsz) (Steps.refl _) (argsL := argsL) (rest := rest) (lenOf hpd hlen) rfl (by show 2 * 0 + _ ≤ _; simpa using hW) (hb hby hd) (fun _ _ => ⟨rfl, eT, by rw [hR]; exact hc, by rw [hR]; exact hs⟩)
  dsimp only [Pt.U, Pt.locs, Pt.cells, Pt.slots] at X' l1 y1 z1 st' hQ
  subst l1 y1 z1
  exact OwnDone.of (fun t q => st'.trans q) (g v T'.heap hQ.2 T' _ X' rfl (Fr.app N (by rw [hn]; exact hQ.1)))
theorem w_callP (pc' W : Nat) {Cn : String} {y z : MethodName} {bytes : ByteArray} {mL i : Nat} {rt : Option FieldType} {rm : Room} {P : Option Value → Heap → Prop} (argsL : List Value) (C : Cx K Z own name code maxL ret R n0 Post) {a : Addr} (E : Exa Z h a Cn) (hd : decode code pc = .ok (.invokevirtual i, 3)) (hp : pc + 3 = pc')
    (w1 : (Cond.methodLink own i y).before a0 Z = true) (w7 : (Cond.privateMethod y).before a0 Z = true) (w5 : (Cond.selects z.cls z z).before a0 Z = true) (hzy : z.cls = y.cls) (w6 : (Cond.instanceMethod y).before a0 Z = true) (w3 : (Cond.initialized y.cls).before a0 Z = true) (w4 : (Cond.code y bytes mL rt).before a0 Z = true) (hy : y.cls ≠ "java/lang/invoke/MethodHandle" ∧ y.cls ≠ "java/lang/invoke/VarHandle")
    (hM : OwnMet K.l y bytes mL rt [] rm Z h n0 (.ref a :: argsL).toArray P) {ps : List FieldType} {r : Option FieldType} (hpd : parseMethodDescriptor y.desc = some ⟨ps, r⟩) (hlen : argsL.length = ps.length)
    (hst : st = argsL.reverse ++ .ref a :: rest) (hsz : Ls.length = maxL) (hW : (rest.map fun v => v.category).sum ≤ W) (hf : rm.frames + 1 ≤ R.frames) (hl : W + (mL + 11) + rm.locals ≤ R.locals) (hc : cells + rm.cells ≤ R.cells) (hs : slots + rm.slots ≤ R.slots)
    (g : ∀ v h', P v h' → Go K h' (cells + rm.cells) (slots + rm.slots) pc' Ls (v.toList ++ rest)) : Go K h cells slots pc Ls st := by
  obtain ⟨hx, hby, hml, hown, hnm, hret, hlk, hZ, hR, hn, hPost⟩ := C
  subst hp hst
  intro T locs X eT N
  have hpriv : K.s.PrivateAt y := Cond.privateMethod_at (mvP hZ w7 (args := #[]))
  have hsel : (Cond.selects y.cls y y).before K.args K.s = true := by
    obtain ⟨c2, r2, m2, q1, q2, q3, q4, kP, hkP, hkPi⟩ := Cond.selects_spec (mvT hZ w5 (args := #[]))
    exact selects_self_of_private (by rw [← hzy]; exact findClass_of_methodNamed q3) hkP hkPi hpriv (mvT hZ w6) hy
  obtain ⟨cq, q1, q2⟩ := E.cell
  obtain ⟨v, vm₁, ⟨T', L', k', n'⟩, -, X', ⟨Lc, hQ, l1, y1, z1⟩, st'⟩ := X.privateBack hx (y := y) hown (mvT hZ w1) (mvT hZ w6) hsel hpriv (mvT hZ w4) hy (backOf (W := W) (Q := fun v h L => Fr n0 L ∧ P v h) hM hZ w4 w3 (by rw [hR]; exact hf) (by rw [hR]; exact hl)) (g := mkF K.m pc Ls.toArray (argsL.reverse ++ .ref a :: rest)) rfl (by rw [hml]; simpa using hsz) (Steps.refl _) (a := a) (by rw [eT]; exact q1) q2 (argsL := argsL) (rest := rest) (lenOf hpd hlen) rfl (by show 2 * 0 + _ ≤ _; simpa using hW) (hb hby hd) (fun _ _ => ⟨rfl, eT, by rw [hR]; exact hc, by rw [hR]; exact hs⟩)
  dsimp only [Pt.U, Pt.locs, Pt.cells, Pt.slots] at X' l1 y1 z1 st' hQ
  subst l1 y1 z1
  exact OwnDone.of (fun t q => st'.trans q) (g v T'.heap hQ.2 T' _ X' rfl (Fr.app N (by rw [hn]; exact hQ.1)))
theorem Go.more {c' s' : Nat} (g : Go K h c' s' pc Ls st) (h1 : cells ≤ c') (h2 : slots ≤ s') : Go K h cells slots pc Ls st := fun T locs X e N => g T locs (X.more h1 h2) e N
end OwnLaws
/-! 8. numbers -/
theorem own_un (x : Int32) : (x.toUInt32.toNat : Int) = x.toInt % 4294967296 := by
  have h1 : x.toInt = x.toBitVec.toInt := rfl
  have h2 : x.toUInt32.toNat = x.toBitVec.toNat := rfl
  rw [h1, h2, BitVec.toInt_eq_toNat_cond]
  have := x.toBitVec.isLt
  split <;> omega
theorem own_ul (x : Int64) : (x.toUInt64.toNat : Int) = x.toInt % 18446744073709551616 := by
  have h1 : x.toInt = x.toBitVec.toInt := rfl
  have h2 : x.toUInt64.toNat = x.toBitVec.toNat := rfl
  rw [h1, h2, BitVec.toInt_eq_toNat_cond]
  have := x.toBitVec.isLt
  split <;> omega
theorem own_in (u : UInt32) : (u.toInt32).toInt = ((u.toNat : Int) + 2147483648) % 4294967296 - 2147483648 := by
  have h1 : (u.toInt32).toInt = u.toBitVec.toInt := rfl
  have h2 : u.toNat = u.toBitVec.toNat := rfl
  rw [h1, h2, BitVec.toInt_eq_toNat_cond]
  have := u.toBitVec.isLt
  split <;> omega
theorem own_il (u : UInt64) : (u.toInt64).toInt = ((u.toNat : Int) + 9223372036854775808) % 18446744073709551616 - 9223372036854775808 := by
  have h1 : (u.toInt64).toInt = u.toBitVec.toInt := rfl
  have h2 : u.toNat = u.toBitVec.toNat := rfl
  rw [h1, h2, BitVec.toInt_eq_toNat_cond]
  have := u.toBitVec.isLt
  split <;> omega
theorem own_i2b (x : Int32) : (x.toInt8.toInt32).toInt = (x.toInt + 128) % 256 - 128 := by
  rw [Int8.toInt_toInt32, Int32.toInt_toInt8, Int.bmod_def]
  split <;> omega
theorem own_u16 (u : UInt16) : (u.toUInt32.toInt32).toInt = u.toNat := by
  have hu := u.toNat_lt
  rw [own_in, UInt16.toNat_toUInt32]
  omega
theorem own_i2c (x : Int32) : (x.toUInt32.toUInt16.toUInt32.toInt32).toInt = x.toInt % 65536 := by
  rw [own_u16, UInt32.toNat_toUInt16]
  have := own_un x
  omega
theorem own_l2i (x : Int64) : (x.toInt32).toInt = (x.toInt + 2147483648) % 4294967296 - 2147483648 := by
  rw [Int64.toInt_toInt32, Int.bmod_def]
  split <;> omega
theorem own_i2l (x : Int32) : (x.toInt64).toInt = x.toInt := Int32.toInt_toInt64 x
theorem own_iadd (x y : Int32) : (x + y).toInt = (x.toInt + y.toInt + 2147483648) % 4294967296 - 2147483648 := by
  rw [Int32.toInt_add, Int.bmod_def]; split <;> omega
theorem own_isub (x y : Int32) : (x - y).toInt = (x.toInt - y.toInt + 2147483648) % 4294967296 - 2147483648 := by
  rw [Int32.toInt_sub, Int.bmod_def]; split <;> omega
theorem own_imul (x y : Int32) : (x * y).toInt = (x.toInt * y.toInt + 2147483648) % 4294967296 - 2147483648 := by
  rw [Int32.toInt_mul, Int.bmod_def]; split <;> omega
theorem own_ladd (x y : Int64) : (x + y).toInt = (x.toInt + y.toInt + 9223372036854775808) % 18446744073709551616 - 9223372036854775808 := by
  rw [Int64.toInt_add, Int.bmod_def]; split <;> omega
theorem own_lsub (x y : Int64) : (x - y).toInt = (x.toInt - y.toInt + 9223372036854775808) % 18446744073709551616 - 9223372036854775808 := by
  rw [Int64.toInt_sub, Int.bmod_def]; split <;> omega
theorem own_iushr (x : Int32) {n : UInt32} (k : Nat) (hn : n.toNat = k) (h0 : 0 < k) (hk : k < 32) : ((x.toUInt32 >>> n).toInt32).toInt = x.toInt % 4294967296 / 2 ^ k := by
  have h1 : (x.toUInt32 >>> n).toNat = x.toUInt32.toNat / 2 ^ k := by rw [UInt32.toNat_shiftRight, hn, Nat.mod_eq_of_lt hk, Nat.shiftRight_eq_div_pow]
  have h2 := own_un x
  have h3 : x.toUInt32.toNat / 2 ^ k < 2147483648 := by
    have q : x.toUInt32.toNat < 4294967296 := x.toUInt32.toNat_lt
    have r : 2 ^ 1 ≤ 2 ^ k := Nat.pow_le_pow_right (by omega) h0
    exact Nat.div_lt_of_lt_mul (by omega)
  rw [own_in, h1, ← h2]
  have h4 : ((x.toUInt32.toNat : Int)) / 2 ^ k = ((x.toUInt32.toNat / 2 ^ k : Nat) : Int) := by simp
  rw [h4]
  omega
theorem own_lushr (x : Int64) {n : UInt64} (k : Nat) (hn : n.toNat = k) (h0 : 0 < k) (hk : k < 64) : ((x.toUInt64 >>> n).toInt64).toInt = x.toInt % 18446744073709551616 / 2 ^ k := by
  have h1 : (x.toUInt64 >>> n).toNat = x.toUInt64.toNat / 2 ^ k := by rw [UInt64.toNat_shiftRight, hn, Nat.mod_eq_of_lt hk, Nat.shiftRight_eq_div_pow]
  have h2 := own_ul x
  have h3 : x.toUInt64.toNat / 2 ^ k < 9223372036854775808 := by
    have q : x.toUInt64.toNat < 18446744073709551616 := x.toUInt64.toNat_lt
    have r : 2 ^ 1 ≤ 2 ^ k := Nat.pow_le_pow_right (by omega) h0
    exact Nat.div_lt_of_lt_mul (by omega)
  rw [own_il, h1, ← h2]
  have h4 : ((x.toUInt64.toNat : Int)) / 2 ^ k = ((x.toUInt64.toNat / 2 ^ k : Nat) : Int) := by simp
  rw [h4]
  omega
theorem own_mask (x m : Int32) (k : Nat) (hk : k < 32) (hm : m.toBitVec.toNat = 2 ^ k - 1) : (x &&& m).toInt = x.toInt % 2 ^ k := Jvm.Kit.i32_mask x m hk hm
theorem own_maskL (x m : Int64) (k : Nat) (hk : k < 64) (hm : m.toBitVec.toNat = 2 ^ k - 1) : (x &&& m).toInt = x.toInt % 2 ^ k := Jvm.Kit.i64_mask x m hk hm
theorem own_orN (a b q k : Nat) (ha : a < 2 ^ k) (hb : b = 2 ^ k * q) : a ||| b = a + b := by
  rw [Nat.or_comm, hb, ← Nat.two_pow_add_eq_or_of_lt ha, Nat.add_comm]
theorem own_or (x y : Int32) (k : Nat) (q : Nat) (h0 : 0 ≤ x.toInt) (h1 : x.toInt < 2 ^ k) (h2 : y.toInt = 2 ^ k * (q : Int)) (h3 : x.toInt + y.toInt < 2147483648) : (x ||| y).toInt = x.toInt + y.toInt := by
  have e1 := own_un x; have e2 := own_un y
  have n2 : (0 : Int) ≤ y.toInt := by rw [h2]; exact Int.mul_nonneg (Int.le_of_lt (Int.pow_pos (by decide))) (by omega)
  have a1 : x.toUInt32.toNat < 2 ^ k := by
    have : (x.toUInt32.toNat : Int) < ((2 ^ k : Nat) : Int) := by rw [e1, Int.natCast_pow]; have := x.toInt_lt; have := Int.emod_eq_of_lt h0 (by omega : x.toInt < 4294967296); rw [this]; exact h1
    omega
  have a2 : y.toUInt32.toNat = 2 ^ k * q := by
    have : (y.toUInt32.toNat : Int) = ((2 ^ k * q : Nat) : Int) := by rw [e2, Int.natCast_mul, Int.natCast_pow]; have := y.toInt_lt; rw [Int.emod_eq_of_lt n2 (by omega)]; exact h2
    omega
  have e3 : (x ||| y).toUInt32.toNat = x.toUInt32.toNat ||| y.toUInt32.toNat := rfl
  have e4 := own_un (x ||| y)
  rw [e3, own_orN _ _ q k a1 a2] at e4
  have r1 := (x ||| y).toInt_lt; have r2 := (x ||| y).le_toInt
  have s1 := x.toInt_lt; have s2 := y.toInt_lt
  omega
theorem own_xor1 (x : Int32) : (x ^^^ 1).toInt = x.toInt + 1 - 2 * (x.toInt % 2) := by
  have e1 := own_un x
  have e3 : (x ^^^ 1).toUInt32.toNat = x.toUInt32.toNat ^^^ 1 := rfl
  have e4 := own_un (x ^^^ 1)
  rw [e3] at e4
  have d1 : (x.toUInt32.toNat ^^^ 1) / 2 = x.toUInt32.toNat / 2 := by rw [Nat.xor_div_two]; simp
  have d2 : (x.toUInt32.toNat ^^^ 1) % 2 = (x.toUInt32.toNat + 1) % 2 := by
    have t0 : (x.toUInt32.toNat ^^^ 1).testBit 0 = (x.toUInt32.toNat.testBit 0 ^^ (1 : Nat).testBit 0) := Nat.testBit_xor _ _ _
    rw [Nat.testBit_zero, Nat.testBit_zero, Nat.testBit_zero] at t0
    rcases Nat.mod_two_eq_zero_or_one x.toUInt32.toNat with q | q <;> rcases Nat.mod_two_eq_zero_or_one (x.toUInt32.toNat ^^^ 1) with r | r <;> rw [q, r] at t0 <;> first | (exfalso; revert t0; decide) | omega
  have r1 := (x ^^^ 1).toInt_lt; have r2 := (x ^^^ 1).le_toInt
  have s1 := x.toInt_lt; have s2 := x.le_toInt
  omega
theorem own_eqi {x y : Int32} : x = y ↔ x.toInt = y.toInt := Int32.toInt_inj.symm
theorem own_eqli {x y : Int64} : x = y ↔ x.toInt = y.toInt := Int64.toInt_inj.symm
theorem own_eq {x y : Int32} (h : x.toInt = y.toInt) : x = y := Int32.toInt_inj.mp h
theorem own_eqL {x y : Int64} (h : x.toInt = y.toInt) : x = y := Int64.toInt_inj.mp h
theorem own_ne {x y : Int32} (h : ¬ x = y) : x.toInt ≠ y.toInt := fun q => h (Int32.toInt_inj.mp q)
theorem own_neL {x y : Int64} (h : ¬ x = y) : x.toInt ≠ y.toInt := fun q => h (Int64.toInt_inj.mp q)
theorem own_or32N (n : Nat) : n ||| 32 = n + 32 - 32 * (n / 32 % 2) := by
  have hs : ∀ s, s < 64 → s ||| 32 = s + 32 - 32 * (s / 32 % 2) ∧ s ||| 32 < 64 := by decide
  have h1 := hs (n % 64) (Nat.mod_lt _ (by decide))
  have h2 : n = 2 ^ 6 * (n / 64) ||| (n % 64) := by rw [← Nat.two_pow_add_eq_or_of_lt (i := 6) (Nat.mod_lt _ (by decide))]; omega
  have h3 : n ||| 32 = 2 ^ 6 * (n / 64) + (n % 64 ||| 32) := by
    rw [Nat.two_pow_add_eq_or_of_lt (i := 6) h1.2, ← Nat.or_assoc, ← h2]
  rw [h3, h1.1]
  omega
theorem own_or32 (x : Int32) (h0 : 0 ≤ x.toInt) (h1 : x.toInt < 65536) : (x ||| 32).toInt = x.toInt + 32 - 32 * (x.toInt / 32 % 2) := by
  have e1 := own_un x; have e4 := own_un (x ||| 32)
  have e3 : (x ||| 32).toUInt32.toNat = x.toUInt32.toNat ||| 32 := rfl
  rw [e3, own_or32N] at e4
  have r1 := (x ||| 32).toInt_lt; have r2 := (x ||| 32).le_toInt
  omega
theorem d2_0 : decode jdk_30_method_1_code 0 = .ok (.aload_n 0, 1) := by decide +kernel
theorem d2_1 : decode jdk_30_method_1_code 1 = .ok (.invokespecial 1, 3) := by decide +kernel
theorem d2_4 : decode jdk_30_method_1_code 4 = .ok (.return_, 1) := by decide +kernel
theorem pn_java_lang_Record : plainName "java/lang/Record" = true := by first | (simp [plainName, overriddenIn]; done) | decide +kernel
theorem pd__to_V : parseMethodDescriptor "()V" = some ⟨[], none⟩ := by decide +kernel
theorem d1_0 : decode prog_134_method_1_code 0 = .ok (.aload_n 0, 1) := by decide +kernel
theorem d1_1 : decode prog_134_method_1_code 1 = .ok (.invokespecial 1, 3) := by decide +kernel
theorem d1_4 : decode prog_134_method_1_code 4 = .ok (.lload_n 1, 1) := by decide +kernel
theorem d1_5 : decode prog_134_method_1_code 5 = .ok (.lconst 1, 1) := by decide +kernel
theorem d1_6 : decode prog_134_method_1_code 6 = .ok (.lcmp, 1) := by decide +kernel
theorem d1_7 : decode prog_134_method_1_code 7 = .ok (.ifCond .lt 9, 3) := by decide +kernel
theorem d1_10 : decode prog_134_method_1_code 10 = .ok (.lload_n 3, 1) := by decide +kernel
theorem d1_11 : decode prog_134_method_1_code 11 = .ok (.lconst 1, 1) := by decide +kernel
theorem d1_12 : decode prog_134_method_1_code 12 = .ok (.lcmp, 1) := by decide +kernel
theorem d1_13 : decode prog_134_method_1_code 13 = .ok (.ifCond .ge 18, 3) := by decide +kernel
theorem d1_16 : decode prog_134_method_1_code 16 = .ok (.new 7, 3) := by decide +kernel
theorem d1_19 : decode prog_134_method_1_code 19 = .ok (.dup, 1) := by decide +kernel
theorem d1_20 : decode prog_134_method_1_code 20 = .ok (.lload_n 1, 1) := by decide +kernel
theorem d1_21 : decode prog_134_method_1_code 21 = .ok (.lload_n 3, 1) := by decide +kernel
theorem d1_27 : decode prog_134_method_1_code 27 = .ok (.invokespecial 13, 3) := by decide +kernel
theorem d1_30 : decode prog_134_method_1_code 30 = .ok (.athrow, 1) := by decide +kernel
theorem d1_31 : decode prog_134_method_1_code 31 = .ok (.aload_n 0, 1) := by decide +kernel
theorem d1_32 : decode prog_134_method_1_code 32 = .ok (.lload_n 1, 1) := by decide +kernel
theorem d1_33 : decode prog_134_method_1_code 33 = .ok (.putfield 16, 3) := by decide +kernel
theorem d1_36 : decode prog_134_method_1_code 36 = .ok (.aload_n 0, 1) := by decide +kernel
theorem d1_37 : decode prog_134_method_1_code 37 = .ok (.lload_n 3, 1) := by decide +kernel
theorem d1_38 : decode prog_134_method_1_code 38 = .ok (.putfield 22, 3) := by decide +kernel
theorem d1_41 : decode prog_134_method_1_code 41 = .ok (.return_, 1) := by decide +kernel
theorem pn_com_example_slackwater_slackwater_engine_CountWindows : plainName "com/example/slackwater/slackwater/engine/CountWindows" = true := by first | (simp [plainName, overriddenIn]; done) | decide +kernel
theorem pd_JJ_to_V : parseMethodDescriptor "(JJ)V" = some ⟨[.long, .long], none⟩ := by decide +kernel
theorem d5_0 : decode jdk_29_method_70_code 0 = .ok (.lload_n 0, 1) := by decide +kernel
theorem d5_1 : decode jdk_29_method_70_code 1 = .ok (.lload_n 2, 1) := by decide +kernel
theorem d5_2 : decode jdk_29_method_70_code 2 = .ok (.lcmp, 1) := by decide +kernel
theorem d5_3 : decode jdk_29_method_70_code 3 = .ok (.ifCond .gt 7, 3) := by decide +kernel
theorem d5_6 : decode jdk_29_method_70_code 6 = .ok (.lload_n 0, 1) := by decide +kernel
theorem d5_7 : decode jdk_29_method_70_code 7 = .ok (.goto 4, 3) := by decide +kernel
theorem d5_10 : decode jdk_29_method_70_code 10 = .ok (.lload_n 2, 1) := by decide +kernel
theorem d5_11 : decode jdk_29_method_70_code 11 = .ok (.lreturn, 1) := by decide +kernel
theorem pd_JJ_to_J : parseMethodDescriptor "(JJ)J" = some ⟨[.long, .long], some .long⟩ := by decide +kernel
theorem own_ldiv (x y : Int64) (hx : 0 ≤ x.toInt) : (x / y).toInt = x.toInt / y.toInt := by
  rw [Jvm.Kit.i64_div (by omega), Int.tdiv_eq_ediv_of_nonneg hx]
theorem own_lmod (x y : Int64) (hx : 0 ≤ x.toInt) : (x % y).toInt = x.toInt % y.toInt := by
  rw [Int64.toInt_mod, Int.tmod_eq_emod_of_nonneg hx]
theorem own_mulb {x y A B : Int} (hx : 0 ≤ x) (hy : 0 ≤ y) (h1 : x ≤ A) (h2 : y ≤ B) : 0 ≤ x * y ∧ x * y ≤ A * B :=
  ⟨Int.mul_nonneg hx hy, Int.mul_le_mul h1 h2 hy (by omega)⟩
theorem own_dm (x a : Int) (hx : 0 ≤ x) (ha : 1 ≤ a) : x / a * a + x % a = x ∧ 0 ≤ x % a ∧ x % a < a ∧ 0 ≤ x / a ∧ x / a ≤ x := by
  have h1 := Int.ediv_mul_add_emod x a
  have h2 := Int.emod_nonneg x (by omega : a ≠ 0)
  have h3 := Int.emod_lt_of_pos x (by omega : 0 < a)
  have h4 : 0 ≤ x / a := Int.ediv_nonneg hx (by omega)
  refine ⟨h1, h2, h3, h4, ?_⟩
  exact Int.ediv_le_self a hx
set_option maxRecDepth 65536 in
set_option maxHeartbeats 40000000 in
theorem rm_rec (l : Launch) (Z : State) (a0 : Array Value) (hw : ∀ d ∈ tables_1, d.before a0 Z = true) (ws : List Jvm.Cond) (a1 : Addr) (h0 : Heap) (n0 : Nat) (hz : n0 ≤ h0.size) :
    OwnMet l (⟨"java/lang/Record", "<init>", "()V"⟩ : MethodName) jdk_30_method_1_code 1 none ws ({ frames := 1, cells := 0, slots := 0, locals := 12 } : Room) Z h0 n0 #[.ref a1] (fun v h => v = none ∧ h0 = h) := by
  refine OwnMet.of (own := "java/lang/Record") (name := "<init>") (desc := "()V") (Ls := [.val (.ref a1)]) (plainFor_of_name pn_java_lang_Record) (fun m => by first | (simp [entryFrame, mkF, argsToLocals, Value.category]; done) | rfl) ?_
  intro K hl C
  refine w_aloadN 1 C d2_0 rfl rfl rfl ?_
  refine w_initO 4 0 C d2_1 rfl (hw _ (List.mem_of_getElem? (i := 13) rfl)) (hw _ (List.mem_of_getElem? (i := 14) rfl)) (hw _ (List.mem_of_getElem? (i := 15) rfl)) rfl (by decide) (Nat.le_of_eq rfl) (by decide) ?_
  refine w_ret C d2_4 (by decide) (by decide) ?_
  exact ⟨rfl, rfl⟩
set_option maxRecDepth 65536 in
set_option maxHeartbeats 40000000 in
theorem rm_min (l : Launch) (Z : State) (a0 : Array Value) (hw : ∀ d ∈ tables_1, d.before a0 Z = true) (ws : List Jvm.Cond) (x y : Int64) (h0 : Heap) (n0 : Nat) (hz : n0 ≤ h0.size) :
    OwnMet l (⟨"java/lang/Math", "min", "(JJ)J"⟩ : MethodName) jdk_29_method_70_code 4 (some .long) ws ({ frames := 0, cells := 0, slots := 0, locals := 0 } : Room) Z h0 n0 #[.long x, .long y] (fun v h => (∃ z, v = some (.long z) ∧ ((y.toInt < x.toInt ∧ z = y) ∨ (¬ (y.toInt < x.toInt) ∧ z = x))) ∧ h0 = h) := by
  refine OwnMet.of (own := "java/lang/Math") (name := "min") (desc := "(JJ)J") (Ls := [.val (.long x), .second, .val (.long y), .second]) (Jvm.Free.JP.mathPlain rfl (by decide +kernel)) (fun m => by first | (simp [entryFrame, mkF, argsToLocals, Value.category]; done) | rfl) ?_
  intro K hl C
  refine w_lloadN 1 C d5_0 rfl rfl ?_
  refine w_lloadN 2 C d5_1 rfl rfl ?_
  refine w_lif 3 10 6 C d5_2 rfl d5_3 rfl rfl (fun (hc2 : y.toInt < x.toInt) => ?_) (fun (hc2 : ¬ (y.toInt < x.toInt)) => ?_)
  · refine w_lloadN 11 C d5_10 rfl rfl ?_
    refine w_retL C d5_11 (by decide) (by decide) ?_
    exact ⟨⟨_, rfl, Or.inl ⟨hc2, rfl⟩⟩, rfl⟩
  · refine w_lloadN 7 C d5_6 rfl rfl ?_
    refine w_goto 11 C d5_7 rfl ?_
    refine w_retL C d5_11 (by decide) (by decide) ?_
    exact ⟨⟨_, rfl, Or.inr ⟨hc2, rfl⟩⟩, rfl⟩
set_option maxRecDepth 65536 in
set_option maxHeartbeats 40000000 in
theorem rm_ini (l : Launch) (Z : State) (a0 : Array Value) (hw : ∀ d ∈ tables_1, d.before a0 Z = true) (ws : List Jvm.Cond) (a1 : Addr) (s t : Int64) (u1 u2 : Value) (h0 : Heap) (n0 : Nat) (hz : n0 ≤ h0.size) (hs : 1 ≤ s.toInt) (ht : 1 ≤ t.toInt) (E_a1 : Exa Z h0 a1 "com/example/slackwater/slackwater/engine/CountWindows") (g_a1 : n0 ≤ a1) (F_size_a1 : Fld Z h0 a1 "com/example/slackwater/slackwater/engine/CountWindows" "size" "J" u1) (F_slide_a1 : Fld Z h0 a1 "com/example/slackwater/slackwater/engine/CountWindows" "slide" "J" u2) :
    OwnMet l (⟨"com/example/slackwater/slackwater/engine/CountWindows", "<init>", "(JJ)V"⟩ : MethodName) prog_134_method_1_code 5 none ws ({ frames := 2, cells := 0, slots := 0, locals := 24 } : Room) Z h0 n0 #[.ref a1, .long s, .long t] (fun v h => v = none ∧ Keep h0 h [a1] ∧ Exa Z h a1 "com/example/slackwater/slackwater/engine/CountWindows" ∧ Fld Z h a1 "com/example/slackwater/slackwater/engine/CountWindows" "size" "J" (.long s) ∧ Fld Z h a1 "com/example/slackwater/slackwater/engine/CountWindows" "slide" "J" (.long t)) := by
  refine OwnMet.of (own := "com/example/slackwater/slackwater/engine/CountWindows") (name := "<init>") (desc := "(JJ)V") (Ls := [.val (.ref a1), .val (.long s), .second, .val (.long t), .second]) (plainFor_of_name pn_com_example_slackwater_slackwater_engine_CountWindows) (fun m => by first | (simp [entryFrame, mkF, argsToLocals, Value.category]; done) | rfl) ?_
  intro K hl C
  have KK : Keep h0 h0 [a1] := Keep.refl _ _
  have e1 : (1 : Int64).toInt = 1 := by decide
  refine w_aloadN 1 C d1_0 rfl rfl rfl ?_
  refine w_callI (y := (⟨"java/lang/Record", "<init>", "()V"⟩ : MethodName)) (a := a1) 4 0 [] C d1_1 rfl rfl (hw _ (List.mem_of_getElem? (i := 8) rfl)) (hw _ (List.mem_of_getElem? (i := 9) rfl)) (hw _ (List.mem_of_getElem? (i := 11) rfl)) (hw _ (List.mem_of_getElem? (i := 12) rfl)) (by decide) (rm_rec K.l Z a0 hw [] a1 h0 n0 hz) pd__to_V rfl (rest := []) rfl rfl (Nat.le_of_eq rfl) (by decide) (by decide) (by decide) (by decide) ?_
  rintro v2 h1 ⟨rfl, rfl⟩
  show Go K h0 0 0 4 [.val (.ref a1), .val (.long s), .second, .val (.long t), .second] []
  refine w_lloadN 5 C d1_4 rfl rfl ?_
  refine w_lconst 6 (1 : Int64) C d1_5 rfl rfl ?_
  refine w_lifN 7 10 C d1_6 rfl d1_7 rfl (show ¬ (s.toInt < (1 : Int64).toInt) from (by omega)) ?_
  refine w_lloadN 11 C d1_10 rfl rfl ?_
  refine w_lconst 12 (1 : Int64) C d1_11 rfl rfl ?_
  refine w_lifY 13 31 C d1_12 rfl d1_13 rfl (show (1 : Int64).toInt ≤ t.toInt from (by omega)) ?_
  refine w_aloadN 32 C d1_31 rfl rfl rfl ?_
  refine w_lloadN 33 C d1_32 rfl rfl ?_
  refine w_putF (host := "") (ty := .long) 36 C F_size_a1 E_a1 g_a1 d1_33 rfl (Or.inl (hw _ (List.mem_of_getElem? (i := 16) rfl))) Via.refl (Or.inr ⟨(hw _ (List.mem_of_getElem? (i := 17) rfl)), rfl, rfl⟩) (hw _ (List.mem_of_getElem? (i := 3) rfl)) (by decide) rfl rfl ?_
  intro h3 K_h3 W_h3 Fn_ En_
  replace F_slide_a1 := F_slide_a1.other W_h3 (Or.inr (slot_ne (Or.inr (hw _ (List.mem_of_getElem? (i := 19) rfl))) (Or.inr (hw _ (List.mem_of_getElem? (i := 17) rfl))) (by decide) (t := .long) (t' := .long) (by decide) (by decide)))
  replace F_size_a1 := Fn_
  replace E_a1 := En_
  replace hz := Nat.le_trans hz K_h3.1
  replace KK := KK.trans K_h3 (allS (Or.inl (by simp)) all0)
  refine w_aloadN 37 C d1_36 rfl rfl rfl ?_
  refine w_lloadN 38 C d1_37 rfl rfl ?_
  refine w_putF (host := "") (ty := .long) 41 C F_slide_a1 E_a1 g_a1 d1_38 rfl (Or.inl (hw _ (List.mem_of_getElem? (i := 18) rfl))) Via.refl (Or.inr ⟨(hw _ (List.mem_of_getElem? (i := 19) rfl)), rfl, rfl⟩) (hw _ (List.mem_of_getElem? (i := 3) rfl)) (by decide) rfl rfl ?_
  intro h4 K_h4 W_h4 Fn_ En_
  replace F_size_a1 := F_size_a1.other W_h4 (Or.inr (slot_ne (Or.inr (hw _ (List.mem_of_getElem? (i := 17) rfl))) (Or.inr (hw _ (List.mem_of_getElem? (i := 19) rfl))) (by decide) (t := .long) (t' := .long) (by decide) (by decide)))
  replace F_slide_a1 := Fn_
  replace E_a1 := En_
  replace hz := Nat.le_trans hz K_h4.1
  replace KK := KK.trans K_h4 (allS (Or.inl (by simp)) all0)
  refine w_ret C d1_41 (by decide) (by decide) ?_
  exact ⟨rfl, KK, E_a1, F_size_a1, F_slide_a1⟩
theorem d4_0 : decode prog_134_method_3_code 0 = .ok (.lload_n 1, 1) := by decide +kernel
theorem d4_1 : decode prog_134_method_3_code 1 = .ok (.lconst 1, 1) := by decide +kernel
theorem d4_2 : decode prog_134_method_3_code 2 = .ok (.lsub, 1) := by decide +kernel
theorem d4_3 : decode prog_134_method_3_code 3 = .ok (.ldc2_w 29, 3) := by decide +kernel
theorem d4_6 : decode prog_134_method_3_code 6 = .ok (.aload_n 0, 1) := by decide +kernel
theorem d4_7 : decode prog_134_method_3_code 7 = .ok (.getfield 16, 3) := by decide +kernel
theorem d4_10 : decode prog_134_method_3_code 10 = .ok (.lsub, 1) := by decide +kernel
theorem d4_11 : decode prog_134_method_3_code 11 = .ok (.aload_n 0, 1) := by decide +kernel
theorem d4_12 : decode prog_134_method_3_code 12 = .ok (.getfield 22, 3) := by decide +kernel
theorem d4_15 : decode prog_134_method_3_code 15 = .ok (.ldiv, 1) := by decide +kernel
theorem d4_16 : decode prog_134_method_3_code 16 = .ok (.lcmp, 1) := by decide +kernel
theorem d4_17 : decode prog_134_method_3_code 17 = .ok (.ifCond .le 9, 3) := by decide +kernel
theorem d4_20 : decode prog_134_method_3_code 20 = .ok (.ldc2_w 29, 3) := by decide +kernel
theorem d4_23 : decode prog_134_method_3_code 23 = .ok (.goto 16, 3) := by decide +kernel
theorem d4_26 : decode prog_134_method_3_code 26 = .ok (.lload_n 1, 1) := by decide +kernel
theorem d4_27 : decode prog_134_method_3_code 27 = .ok (.lconst 1, 1) := by decide +kernel
theorem d4_28 : decode prog_134_method_3_code 28 = .ok (.lsub, 1) := by decide +kernel
theorem d4_29 : decode prog_134_method_3_code 29 = .ok (.aload_n 0, 1) := by decide +kernel
theorem d4_30 : decode prog_134_method_3_code 30 = .ok (.getfield 22, 3) := by decide +kernel
theorem d4_33 : decode prog_134_method_3_code 33 = .ok (.lmul, 1) := by decide +kernel
theorem d4_34 : decode prog_134_method_3_code 34 = .ok (.aload_n 0, 1) := by decide +kernel
theorem d4_35 : decode prog_134_method_3_code 35 = .ok (.getfield 16, 3) := by decide +kernel
theorem d4_38 : decode prog_134_method_3_code 38 = .ok (.ladd, 1) := by decide +kernel
theorem d4_39 : decode prog_134_method_3_code 39 = .ok (.lreturn, 1) := by decide +kernel
theorem pd_J_to_J : parseMethodDescriptor "(J)J" = some ⟨[.long], some .long⟩ := by decide +kernel
theorem pn_com_example_slackwater_slackwater_engine_CountWindowsEndPinLaw : plainName "com/example/slackwater/slackwater/engine/CountWindowsEndPinLaw" = true := by first | (simp [plainName, overriddenIn]; done) | decide +kernel
theorem pd_JJJI_to_Z : parseMethodDescriptor "(JJJI)Z" = some ⟨[.long, .long, .long, .int], some .boolean⟩ := by decide +kernel
set_option maxRecDepth 65536 in
set_option maxHeartbeats 40000000 in
theorem rm_end (l : Launch) (Z : State) (a0 : Array Value) (hw : ∀ d ∈ tables_1, d.before a0 Z = true) (ws : List Jvm.Cond) (a1 : Addr) (u s t : Int64) (h0 : Heap) (n0 : Nat) (hz : n0 ≤ h0.size) (hs : s ≠ 0) (ht : t ≠ 0) (F_size_a1 : Fld Z h0 a1 "com/example/slackwater/slackwater/engine/CountWindows" "size" "J" (.long s)) (F_slide_a1 : Fld Z h0 a1 "com/example/slackwater/slackwater/engine/CountWindows" "slide" "J" (.long t)) :
    OwnMet l (⟨"com/example/slackwater/slackwater/engine/CountWindows", "end", "(J)J"⟩ : MethodName) prog_134_method_3_code 3 (some .long) ws ({ frames := 0, cells := 0, slots := 0, locals := 0 } : Room) Z h0 n0 #[.ref a1, .long u] (fun v h => (∃ z, v = some (.long z) ∧ (((u - 1).toInt ≤ ((9223372036854775807 - s) / t).toInt ∧ z = (u - 1) * t + s) ∨ (¬ ((u - 1).toInt ≤ ((9223372036854775807 - s) / t).toInt) ∧ z = 9223372036854775807))) ∧ h0 = h) := by
  refine OwnMet.of (own := "com/example/slackwater/slackwater/engine/CountWindows") (name := "end") (desc := "(J)J") (Ls := [.val (.ref a1), .val (.long u), .second]) (plainFor_of_name pn_com_example_slackwater_slackwater_engine_CountWindows) (fun m => by first | (simp [entryFrame, mkF, argsToLocals, Value.category]; done) | rfl) ?_
  intro K hl C
  refine w_lloadN 1 C d4_0 rfl rfl ?_
  refine w_lconst 2 (1 : Int64) C d4_1 rfl rfl ?_
  refine w_lsub 3 C d4_2 rfl ?_
  refine w_ldc2 (v := (9223372036854775807 : Int64)) 6 C d4_3 rfl (hw _ (List.mem_of_getElem? (i := 25) rfl)) ?_
  refine w_aloadN 7 C d4_6 rfl rfl rfl ?_
  refine w_getF (host := "") 10 C F_size_a1 d4_7 rfl (Or.inl (hw _ (List.mem_of_getElem? (i := 16) rfl))) Via.refl ?_
  refine w_lsub 11 C d4_10 rfl ?_
  refine w_aloadN 12 C d4_11 rfl rfl rfl ?_
  refine w_getF (host := "") 15 C F_slide_a1 d4_12 rfl (Or.inl (hw _ (List.mem_of_getElem? (i := 18) rfl))) Via.refl ?_
  refine w_ldiv 16 C d4_15 rfl ht ?_
  refine w_lif 17 26 20 C d4_16 rfl d4_17 rfl rfl (fun (hc16 : (u - (1 : Int64)).toInt ≤ (((9223372036854775807 : Int64) - s) / t).toInt) => ?_) (fun (hc16 : ¬ ((u - (1 : Int64)).toInt ≤ (((9223372036854775807 : Int64) - s) / t).toInt)) => ?_)
  · refine w_lloadN 27 C d4_26 rfl rfl ?_
    refine w_lconst 28 (1 : Int64) C d4_27 rfl rfl ?_
    refine w_lsub 29 C d4_28 rfl ?_
    refine w_aloadN 30 C d4_29 rfl rfl rfl ?_
    refine w_getF (host := "") 33 C F_slide_a1 d4_30 rfl (Or.inl (hw _ (List.mem_of_getElem? (i := 18) rfl))) Via.refl ?_
    refine w_lmul 34 C d4_33 rfl ?_
    refine w_aloadN 35 C d4_34 rfl rfl rfl ?_
    refine w_getF (host := "") 38 C F_size_a1 d4_35 rfl (Or.inl (hw _ (List.mem_of_getElem? (i := 16) rfl))) Via.refl ?_
    refine w_ladd 39 C d4_38 rfl ?_
    refine w_retL C d4_39 (by decide) (by decide) ?_
    exact ⟨⟨_, rfl, Or.inl ⟨hc16, rfl⟩⟩, rfl⟩
  · refine w_ldc2 (v := (9223372036854775807 : Int64)) 23 C d4_20 rfl (hw _ (List.mem_of_getElem? (i := 25) rfl)) ?_
    refine w_goto 39 C d4_23 rfl ?_
    refine w_retL C d4_39 (by decide) (by decide) ?_
    exact ⟨⟨_, rfl, Or.inr ⟨hc16, rfl⟩⟩, rfl⟩
theorem own_law {s t u q r e : Int64} (hs : 1 ≤ s.toInt) (ht : 1 ≤ t.toInt) (hu : 1 ≤ u.toInt) (hq : (9223372036854775807 - s) / t = q) (hr : (9223372036854775807 - s) % t = r)
    (he : ((u - 1).toInt ≤ ((9223372036854775807 - s) / t).toInt ∧ e = (u - 1) * t + s) ∨ (¬ ((u - 1).toInt ≤ ((9223372036854775807 - s) / t).toInt) ∧ e = 9223372036854775807)) :
    (e = 9223372036854775807 → ¬ (q.toInt < (u - 1).toInt) → u - 1 = q ∧ r = 0) ∧ (¬ (e = 9223372036854775807) → s.toInt ≤ e.toInt ∧ (e - s) % t = 0 ∧ (e - s) / t = u - 1) := by
  have e1 : (1 : Int64).toInt = 1 := by decide
  have eM : (9223372036854775807 : Int64).toInt = 9223372036854775807 := by decide
  have e0 : (0 : Int64).toInt = 0 := by decide
  have rs := s.toInt_lt; have ru := u.toInt_lt
  have u1 : (u - 1).toInt = u.toInt - 1 := by rw [own_lsub, e1]; omega
  have x1 : (9223372036854775807 - s).toInt = 9223372036854775807 - s.toInt := by rw [own_lsub, eM]; omega
  have q1 : q.toInt = (9223372036854775807 - s.toInt) / t.toInt := by rw [← hq, own_ldiv _ _ (by omega), x1]
  have r1 : r.toInt = (9223372036854775807 - s.toInt) % t.toInt := by rw [← hr, own_lmod _ _ (by omega), x1]
  obtain ⟨d1, d2, d3, d4, d5⟩ := own_dm (9223372036854775807 - s.toInt) t.toInt (by omega) ht
  rw [← q1, ← r1] at d1; rw [← r1] at d2 d3; rw [← q1] at d4 d5
  rw [hq] at he
  rcases he with ⟨h, rfl⟩ | ⟨h, rfl⟩
  · have m0 : 0 ≤ (u.toInt - 1) * t.toInt := Int.mul_nonneg (by omega) (by omega)
    have m1 : (u.toInt - 1) * t.toInt ≤ q.toInt * t.toInt := Int.mul_le_mul_of_nonneg_right (by omega) (by omega)
    have m2 : ((u - 1) * t).toInt = (u.toInt - 1) * t.toInt := by rw [Jvm.Kit.i64_mul] <;> rw [u1] <;> omega
    have m3 : ((u - 1) * t + s).toInt = (u.toInt - 1) * t.toInt + s.toInt := by rw [own_ladd, m2]; omega
    have m4 : ((u - 1) * t + s - s).toInt = (u.toInt - 1) * t.toInt := by rw [own_lsub, m3]; omega
    refine ⟨fun g1 g2 => ?_, fun g1 => ⟨by omega, own_eqL ?_, own_eqL ?_⟩⟩
    · have g3 : (u.toInt - 1) * t.toInt + s.toInt = 9223372036854775807 := by rw [← m3, g1, eM]
      have g4 : q.toInt * t.toInt - (u.toInt - 1) * t.toInt = (q.toInt - (u.toInt - 1)) * t.toInt := (Int.sub_mul _ _ _).symm
      have g5 : q.toInt = u.toInt - 1 := by
        by_cases g6 : 1 ≤ q.toInt - (u.toInt - 1)
        · have g7 : 1 * 1 ≤ (q.toInt - (u.toInt - 1)) * t.toInt := Int.mul_le_mul g6 ht (by omega) (by omega)
          omega
        · omega
      refine ⟨own_eqL (by omega), own_eqL ?_⟩
      rw [g5] at d1
      omega
    · rw [own_lmod _ _ (by omega), m4, e0, Int.mul_emod_left]
    · rw [own_ldiv _ _ (by omega), m4, Int.mul_ediv_cancel _ (by omega), u1]
  · exact ⟨fun _ g => absurd h (by omega), fun g => absurd rfl g⟩
set_option maxRecDepth 65536 in
set_option maxHeartbeats 40000000 in
theorem rm0 (l : Launch) (Z : State) (a0 : Array Value) (hw : ∀ d ∈ tables_1, d.before a0 Z = true) (ws : List Jvm.Cond) (p0 p1 p2 : Int64) (p3 : Int32) (h0 : Heap) (n0 : Nat) (hz : n0 ≤ h0.size) :
    OwnMet l x code maxLocals ret ws room_1 Z h0 n0 #[.long p0, .long p1, .long p2, .int p3] (fun v h => v = some (.int 1)) := by
  refine OwnMet.of (own := "com/example/slackwater/slackwater/engine/CountWindowsEndPinLaw") (name := "law") (desc := "(JJJI)Z") (Ls := [.val (.long p0), .second, .val (.long p1), .second, .val (.long p2), .second, .val (.int p3), .unset, .unset, .unset, .unset, .unset, .unset, .unset, .unset, .unset, .unset, .unset, .unset, .unset, .unset, .unset, .unset, .unset]) (plainFor_of_name pn_com_example_slackwater_slackwater_engine_CountWindowsEndPinLaw) (fun m => by first | (simp [entryFrame, mkF, argsToLocals, Value.category, maxLocals]; done) | rfl) ?_
  intro K hl C
  have e1 : (1 : Int64).toInt = 1 := by decide
  have eM : (9223372036854775807 : Int64).toInt = 9223372036854775807 := by decide
  have e0 : (0 : Int64).toInt = 0 := by decide
  refine w_ldc2 (v := (9223372036854775807 : Int64)) 3 C at_0 rfl (hw _ (List.mem_of_getElem? (i := 0) rfl)) ?_
  refine w_lstore 5 [.val (.long p0), .second, .val (.long p1), .second, .val (.long p2), .second, .val (.int p3), .val (.long (9223372036854775807 : Int64)), .second, .unset, .unset, .unset, .unset, .unset, .unset, .unset, .unset, .unset, .unset, .unset, .unset, .unset, .unset, .unset] C at_3 rfl rfl ?_
  refine w_lloadN 6 C at_5 rfl rfl ?_
  refine w_lload 8 C at_6 rfl rfl ?_
  refine w_land 9 C at_8 rfl ?_
  refine w_lstore 11 [.val (.long p0), .second, .val (.long p1), .second, .val (.long p2), .second, .val (.int p3), .val (.long (9223372036854775807 : Int64)), .second, .val (.long (p0 &&& (9223372036854775807 : Int64))), .second, .unset, .unset, .unset, .unset, .unset, .unset, .unset, .unset, .unset, .unset, .unset, .unset, .unset] C at_9 rfl rfl ?_
  generalize hv_x1 : (p0 &&& (9223372036854775807 : Int64)) = x1
  refine w_lload 13 C at_11 rfl rfl ?_
  refine w_lconst 14 (0 : Int64) C at_13 rfl rfl ?_
  refine own_cut1 (fun (s : Int64) => ((¬ (x1 = (0 : Int64))) ∧ s = x1) ∨ ((¬ (¬ (x1 = (0 : Int64)))) ∧ s = (1 : Int64))) (fun (s : Int64) => Go K h0 0 0 21 [.val (.long p0), .second, .val (.long p1), .second, .val (.long p2), .second, .val (.int p3), .val (.long (9223372036854775807 : Int64)), .second, .val (.long s), .second, .unset, .unset, .unset, .unset, .unset, .unset, .unset, .unset, .unset, .unset, .unset, .unset, .unset] []) ?_ ?_
  · intro J_
    refine w_lif 15 21 18 C at_14 rfl at_15 rfl rfl (fun (hc14 : ¬ (x1 = (0 : Int64))) => ?_) (fun (hc14 : ¬ (¬ (x1 = (0 : Int64)))) => ?_)
    · exact J_ (x1) (Or.inl ⟨hc14, rfl⟩)
    · refine w_lconst 19 (1 : Int64) C at_18 rfl rfl ?_
      refine w_lstore 21 [.val (.long p0), .second, .val (.long p1), .second, .val (.long p2), .second, .val (.int p3), .val (.long (9223372036854775807 : Int64)), .second, .val (.long (1 : Int64)), .second, .unset, .unset, .unset, .unset, .unset, .unset, .unset, .unset, .unset, .unset, .unset, .unset, .unset] C at_19 rfl rfl ?_
      exact J_ ((1 : Int64)) (Or.inr ⟨hc14, rfl⟩)
  intro s hj21
  show Go K h0 0 0 21 [.val (.long p0), .second, .val (.long p1), .second, .val (.long p2), .second, .val (.int p3), .val (.long (9223372036854775807 : Int64)), .second, .val (.long s), .second, .unset, .unset, .unset, .unset, .unset, .unset, .unset, .unset, .unset, .unset, .unset, .unset, .unset] []
  have hs : 1 ≤ s.toInt := by
    have m := own_maskL p0 9223372036854775807 63 (by decide) (by decide)
    rw [hv_x1] at m
    rcases hj21 with ⟨q, rfl⟩ | ⟨q, rfl⟩
    · have := own_neL q; omega
    · omega
  refine w_lloadN 22 C at_21 rfl rfl ?_
  refine w_lload 24 C at_22 rfl rfl ?_
  refine w_land 25 C at_24 rfl ?_
  refine w_lstore 27 [.val (.long p0), .second, .val (.long p1), .second, .val (.long p2), .second, .val (.int p3), .val (.long (9223372036854775807 : Int64)), .second, .val (.long s), .second, .val (.long (p1 &&& (9223372036854775807 : Int64))), .second, .unset, .unset, .unset, .unset, .unset, .unset, .unset, .unset, .unset, .unset, .unset] C at_25 rfl rfl ?_
  generalize hv_x2 : (p1 &&& (9223372036854775807 : Int64)) = x2
  refine w_iload 29 C at_27 rfl rfl ?_
  refine w_iconst 30 (2 : Int32) C at_29 rfl rfl ?_
  refine w_iand 31 C at_30 rfl ?_
  refine own_cut1 (fun (t0 : Int64) => (((p3 &&& (2 : Int32)) = (0 : Int32)) ∧ t0 = x2) ∨ ((¬ ((p3 &&& (2 : Int32)) = (0 : Int32))) ∧ t0 = ((p1 &&& (7 : Int64)) + (1 : Int64)))) (fun (t0 : Int64) => Go K h0 0 0 43 [.val (.long p0), .second, .val (.long p1), .second, .val (.long p2), .second, .val (.int p3), .val (.long (9223372036854775807 : Int64)), .second, .val (.long s), .second, .val (.long t0), .second, .unset, .unset, .unset, .unset, .unset, .unset, .unset, .unset, .unset, .unset, .unset] []) ?_ ?_
  · intro J_
    refine w_if 43 34 C at_31 rfl rfl (fun (hc31 : (p3 &&& (2 : Int32)) = (0 : Int32)) => ?_) (fun (hc31 : ¬ ((p3 &&& (2 : Int32)) = (0 : Int32))) => ?_)
    · exact J_ (x2) (Or.inl ⟨hc31, rfl⟩)
    · refine w_lloadN 35 C at_34 rfl rfl ?_
      refine w_ldc2 (v := (7 : Int64)) 38 C at_35 rfl (hw _ (List.mem_of_getElem? (i := 1) rfl)) ?_
      refine w_land 39 C at_38 rfl ?_
      refine w_lconst 40 (1 : Int64) C at_39 rfl rfl ?_
      refine w_ladd 41 C at_40 rfl ?_
      refine w_lstore 43 [.val (.long p0), .second, .val (.long p1), .second, .val (.long p2), .second, .val (.int p3), .val (.long (9223372036854775807 : Int64)), .second, .val (.long s), .second, .val (.long ((p1 &&& (7 : Int64)) + (1 : Int64))), .second, .unset, .unset, .unset, .unset, .unset, .unset, .unset, .unset, .unset, .unset, .unset] C at_41 rfl rfl ?_
      exact J_ (((p1 &&& (7 : Int64)) + (1 : Int64))) (Or.inr ⟨hc31, rfl⟩)
  intro t0 hj43
  show Go K h0 0 0 43 [.val (.long p0), .second, .val (.long p1), .second, .val (.long p2), .second, .val (.int p3), .val (.long (9223372036854775807 : Int64)), .second, .val (.long s), .second, .val (.long t0), .second, .unset, .unset, .unset, .unset, .unset, .unset, .unset, .unset, .unset, .unset, .unset] []
  refine w_lload 45 C at_43 rfl rfl ?_
  refine w_lconst 46 (0 : Int64) C at_45 rfl rfl ?_
  refine own_cut1 (fun (t : Int64) => ((¬ (t0 = (0 : Int64))) ∧ t = t0) ∨ ((¬ (¬ (t0 = (0 : Int64)))) ∧ t = (1 : Int64))) (fun (t : Int64) => Go K h0 0 0 53 [.val (.long p0), .second, .val (.long p1), .second, .val (.long p2), .second, .val (.int p3), .val (.long (9223372036854775807 : Int64)), .second, .val (.long s), .second, .val (.long t), .second, .unset, .unset, .unset, .unset, .unset, .unset, .unset, .unset, .unset, .unset, .unset] []) ?_ ?_
  · intro J_
    refine w_lif 47 53 50 C at_46 rfl at_47 rfl rfl (fun (hc46 : ¬ (t0 = (0 : Int64))) => ?_) (fun (hc46 : ¬ (¬ (t0 = (0 : Int64)))) => ?_)
    · exact J_ (t0) (Or.inl ⟨hc46, rfl⟩)
    · refine w_lconst 51 (1 : Int64) C at_50 rfl rfl ?_
      refine w_lstore 53 [.val (.long p0), .second, .val (.long p1), .second, .val (.long p2), .second, .val (.int p3), .val (.long (9223372036854775807 : Int64)), .second, .val (.long s), .second, .val (.long (1 : Int64)), .second, .unset, .unset, .unset, .unset, .unset, .unset, .unset, .unset, .unset, .unset, .unset] C at_51 rfl rfl ?_
      exact J_ ((1 : Int64)) (Or.inr ⟨hc46, rfl⟩)
  intro t hj53
  show Go K h0 0 0 53 [.val (.long p0), .second, .val (.long p1), .second, .val (.long p2), .second, .val (.int p3), .val (.long (9223372036854775807 : Int64)), .second, .val (.long s), .second, .val (.long t), .second, .unset, .unset, .unset, .unset, .unset, .unset, .unset, .unset, .unset, .unset, .unset] []
  have ht : 1 ≤ t.toInt := by
    have m := own_maskL p1 9223372036854775807 63 (by decide) (by decide)
    have m7 := own_maskL p1 7 3 (by decide) (by decide)
    have ma := own_ladd (p1 &&& 7) 1
    rw [hv_x2] at m
    have h0 : 0 ≤ t0.toInt := by
      rcases hj43 with ⟨q, rfl⟩ | ⟨q, rfl⟩
      · omega
      · omega
    rcases hj53 with ⟨q, rfl⟩ | ⟨q, rfl⟩
    · have := own_neL q; omega
    · omega
  have ns : s ≠ 0 := fun q => by rw [q] at hs; exact absurd hs (by decide)
  have nt : t ≠ 0 := fun q => by rw [q] at ht; exact absurd ht (by decide)
  refine w_lload 55 C at_53 rfl rfl ?_
  refine w_lload 57 C at_55 rfl rfl ?_
  refine w_lsub 58 C at_57 rfl ?_
  refine w_lload 60 C at_58 rfl rfl ?_
  refine w_ldiv 61 C at_60 rfl nt ?_
  refine w_lstore 63 [.val (.long p0), .second, .val (.long p1), .second, .val (.long p2), .second, .val (.int p3), .val (.long (9223372036854775807 : Int64)), .second, .val (.long s), .second, .val (.long t), .second, .val (.long (((9223372036854775807 : Int64) - s) / t)), .second, .unset, .unset, .unset, .unset, .unset, .unset, .unset, .unset, .unset] C at_61 rfl rfl ?_
  generalize hv_x3 : (((9223372036854775807 : Int64) - s) / t) = x3
  refine w_lload 65 C at_63 rfl rfl ?_
  refine w_lload 67 C at_65 rfl rfl ?_
  refine w_lsub 68 C at_67 rfl ?_
  refine w_lload 70 C at_68 rfl rfl ?_
  refine w_lrem 71 C at_70 rfl nt ?_
  refine w_lstore 73 [.val (.long p0), .second, .val (.long p1), .second, .val (.long p2), .second, .val (.int p3), .val (.long (9223372036854775807 : Int64)), .second, .val (.long s), .second, .val (.long t), .second, .val (.long x3), .second, .val (.long (((9223372036854775807 : Int64) - s) % t)), .second, .unset, .unset, .unset, .unset, .unset, .unset, .unset] C at_71 rfl rfl ?_
  generalize hv_x4 : (((9223372036854775807 : Int64) - s) % t) = x4
  refine w_iload 75 C at_73 rfl rfl ?_
  refine w_iconst 76 (1 : Int32) C at_75 rfl rfl ?_
  refine w_iand 77 C at_76 rfl ?_
  have hq0 : 0 ≤ x3.toInt := by
    have rs := s.toInt_lt
    have x1 : (9223372036854775807 - s).toInt = 9223372036854775807 - s.toInt := by rw [own_lsub, eM]; omega
    rw [← hv_x3, own_ldiv _ _ (by omega), x1]
    exact Int.ediv_nonneg (by omega) (by omega)
  refine w_if 90 80 C at_77 rfl rfl (fun (hc77 : ¬ ((p3 &&& (1 : Int32)) = (0 : Int32))) => ?_) (fun (hc77 : ¬ (¬ ((p3 &&& (1 : Int32)) = (0 : Int32)))) => ?_)
  · refine w_lload 92 C at_90 rfl rfl ?_
    refine w_lload 94 C at_92 rfl rfl ?_
    refine w_ldc2 (v := (4 : Int64)) 97 C at_94 rfl (hw _ (List.mem_of_getElem? (i := 26) rfl)) ?_
    refine w_lsub 98 C at_97 rfl ?_
    refine w_callS (y := (⟨"java/lang/Math", "min", "(JJ)J"⟩ : MethodName)) 101 0 [.long x3, .long ((9223372036854775807 : Int64) - (4 : Int64))] C at_98 rfl (hw _ (List.mem_of_getElem? (i := 27) rfl)) (hw _ (List.mem_of_getElem? (i := 28) rfl)) (hw _ (List.mem_of_getElem? (i := 29) rfl)) (hw _ (List.mem_of_getElem? (i := 30) rfl)) (by decide) (rm_min K.l Z a0 hw [] x3 (9223372036854775807 - 4) h0 n0 hz) pd_JJ_to_J rfl (rest := []) rfl rfl (Nat.le_of_eq rfl) (by decide) (by decide) (by decide) (by decide) ?_
    rintro v6 h5 ⟨⟨k, rfl, hk⟩, rfl⟩
    show Go K h0 0 0 101 [.val (.long p0), .second, .val (.long p1), .second, .val (.long p2), .second, .val (.int p3), .val (.long (9223372036854775807 : Int64)), .second, .val (.long s), .second, .val (.long t), .second, .val (.long x3), .second, .val (.long x4), .second, .unset, .unset, .unset, .unset, .unset, .unset, .unset] [.long k]
    refine w_lstore 103 [.val (.long p0), .second, .val (.long p1), .second, .val (.long p2), .second, .val (.int p3), .val (.long (9223372036854775807 : Int64)), .second, .val (.long s), .second, .val (.long t), .second, .val (.long x3), .second, .val (.long x4), .second, .unset, .unset, .val (.long k), .second, .unset, .unset, .unset] C at_101 rfl rfl ?_
    refine w_lload 105 C at_103 rfl rfl ?_
    refine w_lload 107 C at_105 rfl rfl ?_
    refine w_ldc2 (v := (3 : Int64)) 110 C at_107 rfl (hw _ (List.mem_of_getElem? (i := 31) rfl)) ?_
    refine w_land 111 C at_110 rfl ?_
    refine w_ladd 112 C at_111 rfl ?_
    refine w_lstore 114 [.val (.long p0), .second, .val (.long p1), .second, .val (.long p2), .second, .val (.int p3), .val (.long (9223372036854775807 : Int64)), .second, .val (.long s), .second, .val (.long t), .second, .val (.long x3), .second, .val (.long x4), .second, .val (.long (k + (p2 &&& (3 : Int64)))), .second, .val (.long k), .second, .unset, .unset, .unset] C at_112 rfl rfl ?_
    generalize hv_x7 : (k + (p2 &&& (3 : Int64))) = x7
    refine w_lload 116 C at_114 rfl rfl ?_
    refine w_lconst 117 (1 : Int64) C at_116 rfl rfl ?_
    refine own_cut1 (fun (u : Int64) => (((1 : Int64).toInt ≤ x7.toInt) ∧ u = x7) ∨ ((¬ ((1 : Int64).toInt ≤ x7.toInt)) ∧ u = (1 : Int64))) (fun (u : Int64) => Go K h0 0 0 124 [.val (.long p0), .second, .val (.long p1), .second, .val (.long p2), .second, .val (.int p3), .val (.long (9223372036854775807 : Int64)), .second, .val (.long s), .second, .val (.long t), .second, .val (.long x3), .second, .val (.long x4), .second, .val (.long u), .second, .val (.long k), .second, .unset, .unset, .unset] []) ?_ ?_
    · intro J_
      refine w_lif 118 124 121 C at_117 rfl at_118 rfl rfl (fun (hc117 : (1 : Int64).toInt ≤ x7.toInt) => ?_) (fun (hc117 : ¬ ((1 : Int64).toInt ≤ x7.toInt)) => ?_)
      · exact J_ (x7) (Or.inl ⟨hc117, rfl⟩)
      · refine w_lconst 122 (1 : Int64) C at_121 rfl rfl ?_
        refine w_lstore 124 [.val (.long p0), .second, .val (.long p1), .second, .val (.long p2), .second, .val (.int p3), .val (.long (9223372036854775807 : Int64)), .second, .val (.long s), .second, .val (.long t), .second, .val (.long x3), .second, .val (.long x4), .second, .val (.long (1 : Int64)), .second, .val (.long k), .second, .unset, .unset, .unset] C at_122 rfl rfl ?_
        exact J_ ((1 : Int64)) (Or.inr ⟨hc117, rfl⟩)
    intro u hj124
    show Go K h0 0 0 124 [.val (.long p0), .second, .val (.long p1), .second, .val (.long p2), .second, .val (.int p3), .val (.long (9223372036854775807 : Int64)), .second, .val (.long s), .second, .val (.long t), .second, .val (.long x3), .second, .val (.long x4), .second, .val (.long u), .second, .val (.long k), .second, .unset, .unset, .unset] []
    have hu : 1 ≤ u.toInt := by
      rcases hj124 with ⟨q, rfl⟩ | ⟨q, rfl⟩ <;> omega
    refine w_new 127 C hz at_124 rfl (hw _ (List.mem_of_getElem? (i := 2) rfl)) (hw _ (List.mem_of_getElem? (i := 3) rfl)) (hw _ (List.mem_of_getElem? (i := 4) rfl)) (by decide) (by decide) ?_
    intro h8 b9 X_b9 g_b9 sz0_b9 E_b9 D_b9 hz_
    replace hz := hz_
    have F_size_b9 : Fld Z h8 b9 "com/example/slackwater/slackwater/engine/CountWindows" "size" "J" (.long (0 : Int64)) := D_b9 (Or.inr (hw _ (List.mem_of_getElem? (i := 17) rfl))) (ty := .long) (by decide)
    have F_slide_b9 : Fld Z h8 b9 "com/example/slackwater/slackwater/engine/CountWindows" "slide" "J" (.long (0 : Int64)) := D_b9 (Or.inr (hw _ (List.mem_of_getElem? (i := 19) rfl))) (ty := .long) (by decide)
    show Go K h8 1 2 127 [.val (.long p0), .second, .val (.long p1), .second, .val (.long p2), .second, .val (.int p3), .val (.long (9223372036854775807 : Int64)), .second, .val (.long s), .second, .val (.long t), .second, .val (.long x3), .second, .val (.long x4), .second, .val (.long u), .second, .val (.long k), .second, .unset, .unset, .unset] [.ref b9]
    refine w_dup 128 C at_127 rfl rfl ?_
    refine w_lload 130 C at_128 rfl rfl ?_
    refine w_lload 132 C at_130 rfl rfl ?_
    refine w_callI (y := (⟨"com/example/slackwater/slackwater/engine/CountWindows", "<init>", "(JJ)V"⟩ : MethodName)) (a := b9) 135 1 [.long s, .long t] C at_132 rfl rfl (hw _ (List.mem_of_getElem? (i := 5) rfl)) (hw _ (List.mem_of_getElem? (i := 6) rfl)) (hw _ (List.mem_of_getElem? (i := 4) rfl)) (hw _ (List.mem_of_getElem? (i := 7) rfl)) (by decide) (rm_ini K.l Z a0 hw [] b9 s t (.long 0) (.long 0) h8 n0 hz hs ht E_b9 g_b9 F_size_b9 F_slide_b9) pd_JJ_to_V rfl (rest := [.ref b9]) rfl rfl (Nat.le_of_eq rfl) (by decide) (by decide) (by decide) (by decide) ?_
    rintro v10 hA ⟨rfl, K1, E_b9, F_size_b9, F_slide_b9⟩
    show Go K hA 1 2 135 [.val (.long p0), .second, .val (.long p1), .second, .val (.long p2), .second, .val (.int p3), .val (.long (9223372036854775807 : Int64)), .second, .val (.long s), .second, .val (.long t), .second, .val (.long x3), .second, .val (.long x4), .second, .val (.long u), .second, .val (.long k), .second, .unset, .unset, .unset] [.ref b9]
    replace hz := Nat.le_trans hz K1.1
    refine w_astore 137 [.val (.long p0), .second, .val (.long p1), .second, .val (.long p2), .second, .val (.int p3), .val (.long (9223372036854775807 : Int64)), .second, .val (.long s), .second, .val (.long t), .second, .val (.long x3), .second, .val (.long x4), .second, .val (.long u), .second, .val (.ref b9), .unset, .unset, .unset, .unset] C at_135 rfl rfl rfl ?_
    refine w_aload 139 C at_137 rfl rfl rfl ?_
    refine w_lload 141 C at_139 rfl rfl ?_
    refine w_callV (y := (⟨"com/example/slackwater/slackwater/engine/CountWindows", "end", "(J)J"⟩ : MethodName)) (a := b9) 144 0 [.long u] C E_b9 at_141 rfl (hw _ (List.mem_of_getElem? (i := 20) rfl)) (hw _ (List.mem_of_getElem? (i := 21) rfl)) (hw _ (List.mem_of_getElem? (i := 23) rfl)) (hw _ (List.mem_of_getElem? (i := 22) rfl)) (hw _ (List.mem_of_getElem? (i := 4) rfl)) (hw _ (List.mem_of_getElem? (i := 24) rfl)) (by decide) (rm_end K.l Z a0 hw [] b9 u s t hA n0 hz ns nt F_size_b9 F_slide_b9) pd_J_to_J rfl (rest := []) rfl rfl (Nat.le_of_eq rfl) (by decide) (by decide) (by decide) (by decide) ?_
    rintro v12 h11 ⟨⟨e, rfl, he⟩, rfl⟩
    show Go K hA 1 2 144 [.val (.long p0), .second, .val (.long p1), .second, .val (.long p2), .second, .val (.int p3), .val (.long (9223372036854775807 : Int64)), .second, .val (.long s), .second, .val (.long t), .second, .val (.long x3), .second, .val (.long x4), .second, .val (.long u), .second, .val (.ref b9), .unset, .unset, .unset, .unset] [.long e]
    have hL := own_law hs ht hu hv_x3 hv_x4 he
    refine w_lstore 146 [.val (.long p0), .second, .val (.long p1), .second, .val (.long p2), .second, .val (.int p3), .val (.long (9223372036854775807 : Int64)), .second, .val (.long s), .second, .val (.long t), .second, .val (.long x3), .second, .val (.long x4), .second, .val (.long u), .second, .val (.ref b9), .val (.long e), .second, .unset, .unset] C at_144 rfl rfl ?_
    refine w_lload 148 C at_146 rfl rfl ?_
    refine w_lload 150 C at_148 rfl rfl ?_
    refine w_lif 151 187 154 C at_150 rfl at_151 rfl rfl (fun (hc150 : ¬ (e = (9223372036854775807 : Int64))) => ?_) (fun (hc150 : ¬ (¬ (e = (9223372036854775807 : Int64)))) => ?_)
    · refine w_lload 189 C at_187 rfl rfl ?_
      refine w_lload 191 C at_189 rfl rfl ?_
      refine w_lifY 192 197 C at_191 rfl at_192 rfl (show s.toInt ≤ e.toInt from ((hL.2 hc150).1)) ?_
      refine w_lload 199 C at_197 rfl rfl ?_
      refine w_lload 201 C at_199 rfl rfl ?_
      refine w_lsub 202 C at_201 rfl ?_
      refine w_lstore 204 [.val (.long p0), .second, .val (.long p1), .second, .val (.long p2), .second, .val (.int p3), .val (.long (9223372036854775807 : Int64)), .second, .val (.long s), .second, .val (.long t), .second, .val (.long x3), .second, .val (.long x4), .second, .val (.long u), .second, .val (.ref b9), .val (.long e), .second, .val (.long (e - s)), .second] C at_202 rfl rfl ?_
      generalize hv_x13 : (e - s) = x13
      refine w_lload 206 C at_204 rfl rfl ?_
      refine w_lload 208 C at_206 rfl rfl ?_
      refine w_lrem 209 C at_208 rfl nt ?_
      refine w_lconst 210 (0 : Int64) C at_209 rfl rfl ?_
      refine w_lifN 211 214 C at_210 rfl at_211 rfl (show ¬ (¬ ((x13 % t) = (0 : Int64))) from (fun z => z (hv_x13 ▸ (hL.2 hc150).2.1))) ?_
      refine w_lload 216 C at_214 rfl rfl ?_
      refine w_lload 218 C at_216 rfl rfl ?_
      refine w_ldiv 219 C at_218 rfl nt ?_
      refine w_lload 221 C at_219 rfl rfl ?_
      refine w_lconst 222 (1 : Int64) C at_221 rfl rfl ?_
      refine w_lsub 223 C at_222 rfl ?_
      refine w_lifN 224 227 C at_223 rfl at_224 rfl (show ¬ (¬ ((x13 / t) = (u - (1 : Int64)))) from (fun z => z (hv_x13 ▸ (hL.2 hc150).2.2))) ?_
      refine w_iconst 228 (1 : Int32) C at_227 rfl rfl ?_
      refine w_goto 232 C at_228 rfl ?_
      refine w_retN C (by simp) at_232 rfl (by decide) (by decide) ?_
      exact rfl
    · replace hc150 := Classical.not_not.mp hc150
      refine w_lload 156 C at_154 rfl rfl ?_
      refine w_lconst 157 (1 : Int64) C at_156 rfl rfl ?_
      refine w_lsub 158 C at_157 rfl ?_
      refine w_lload 160 C at_158 rfl rfl ?_
      refine w_lif 161 181 164 C at_160 rfl at_161 rfl rfl (fun (hc160 : x3.toInt < (u - (1 : Int64)).toInt) => ?_) (fun (hc160 : ¬ (x3.toInt < (u - (1 : Int64)).toInt)) => ?_)
      · refine w_iconst 182 (1 : Int32) C at_181 rfl rfl ?_
        refine w_goto 186 C at_182 rfl ?_
        refine w_retN C (by simp) at_186 rfl (by decide) (by decide) ?_
        exact rfl
      · refine w_lload 166 C at_164 rfl rfl ?_
        refine w_lconst 167 (1 : Int64) C at_166 rfl rfl ?_
        refine w_lsub 168 C at_167 rfl ?_
        refine w_lload 170 C at_168 rfl rfl ?_
        refine w_lifN 171 174 C at_170 rfl at_171 rfl (show ¬ (¬ ((u - (1 : Int64)) = x3)) from (fun z => z (hL.1 hc150 hc160).1)) ?_
        refine w_lload 176 C at_174 rfl rfl ?_
        refine w_lconst 177 (0 : Int64) C at_176 rfl rfl ?_
        refine w_lifN 178 181 C at_177 rfl at_178 rfl (show ¬ (¬ (x4 = (0 : Int64))) from (fun z => z (hL.1 hc150 hc160).2)) ?_
        refine w_iconst 182 (1 : Int32) C at_181 rfl rfl ?_
        refine w_goto 186 C at_182 rfl ?_
        refine w_retN C (by simp) at_186 rfl (by decide) (by decide) ?_
        exact rfl
  · refine w_lload 82 C at_80 rfl rfl ?_
    refine w_lload 84 C at_82 rfl rfl ?_
    refine w_land 85 C at_84 rfl ?_
    refine w_lstore 87 [.val (.long p0), .second, .val (.long p1), .second, .val (.long p2), .second, .val (.int p3), .val (.long (9223372036854775807 : Int64)), .second, .val (.long s), .second, .val (.long t), .second, .val (.long x3), .second, .val (.long x4), .second, .val (.long (p2 &&& (9223372036854775807 : Int64))), .second, .unset, .unset, .unset, .unset, .unset] C at_85 rfl rfl ?_
    generalize hv_x14 : (p2 &&& (9223372036854775807 : Int64)) = x14
    refine w_goto 114 C at_87 rfl ?_
    refine w_lload 116 C at_114 rfl rfl ?_
    refine w_lconst 117 (1 : Int64) C at_116 rfl rfl ?_
    refine own_cut1 (fun (u : Int64) => (((1 : Int64).toInt ≤ x14.toInt) ∧ u = x14) ∨ ((¬ ((1 : Int64).toInt ≤ x14.toInt)) ∧ u = (1 : Int64))) (fun (u : Int64) => Go K h0 0 0 124 [.val (.long p0), .second, .val (.long p1), .second, .val (.long p2), .second, .val (.int p3), .val (.long (9223372036854775807 : Int64)), .second, .val (.long s), .second, .val (.long t), .second, .val (.long x3), .second, .val (.long x4), .second, .val (.long u), .second, .unset, .unset, .unset, .unset, .unset] []) ?_ ?_
    · intro J_
      refine w_lif 118 124 121 C at_117 rfl at_118 rfl rfl (fun (hc117 : (1 : Int64).toInt ≤ x14.toInt) => ?_) (fun (hc117 : ¬ ((1 : Int64).toInt ≤ x14.toInt)) => ?_)
      · exact J_ (x14) (Or.inl ⟨hc117, rfl⟩)
      · refine w_lconst 122 (1 : Int64) C at_121 rfl rfl ?_
        refine w_lstore 124 [.val (.long p0), .second, .val (.long p1), .second, .val (.long p2), .second, .val (.int p3), .val (.long (9223372036854775807 : Int64)), .second, .val (.long s), .second, .val (.long t), .second, .val (.long x3), .second, .val (.long x4), .second, .val (.long (1 : Int64)), .second, .unset, .unset, .unset, .unset, .unset] C at_122 rfl rfl ?_
        exact J_ ((1 : Int64)) (Or.inr ⟨hc117, rfl⟩)
    intro u hj124
    show Go K h0 0 0 124 [.val (.long p0), .second, .val (.long p1), .second, .val (.long p2), .second, .val (.int p3), .val (.long (9223372036854775807 : Int64)), .second, .val (.long s), .second, .val (.long t), .second, .val (.long x3), .second, .val (.long x4), .second, .val (.long u), .second, .unset, .unset, .unset, .unset, .unset] []
    have hu : 1 ≤ u.toInt := by
      rcases hj124 with ⟨q, rfl⟩ | ⟨q, rfl⟩ <;> omega
    refine w_new 127 C hz at_124 rfl (hw _ (List.mem_of_getElem? (i := 2) rfl)) (hw _ (List.mem_of_getElem? (i := 3) rfl)) (hw _ (List.mem_of_getElem? (i := 4) rfl)) (by decide) (by decide) ?_
    intro h15 b16 X_b16 g_b16 sz0_b16 E_b16 D_b16 hz_
    replace hz := hz_
    have F_size_b16 : Fld Z h15 b16 "com/example/slackwater/slackwater/engine/CountWindows" "size" "J" (.long (0 : Int64)) := D_b16 (Or.inr (hw _ (List.mem_of_getElem? (i := 17) rfl))) (ty := .long) (by decide)
    have F_slide_b16 : Fld Z h15 b16 "com/example/slackwater/slackwater/engine/CountWindows" "slide" "J" (.long (0 : Int64)) := D_b16 (Or.inr (hw _ (List.mem_of_getElem? (i := 19) rfl))) (ty := .long) (by decide)
    show Go K h15 1 2 127 [.val (.long p0), .second, .val (.long p1), .second, .val (.long p2), .second, .val (.int p3), .val (.long (9223372036854775807 : Int64)), .second, .val (.long s), .second, .val (.long t), .second, .val (.long x3), .second, .val (.long x4), .second, .val (.long u), .second, .unset, .unset, .unset, .unset, .unset] [.ref b16]
    refine w_dup 128 C at_127 rfl rfl ?_
    refine w_lload 130 C at_128 rfl rfl ?_
    refine w_lload 132 C at_130 rfl rfl ?_
    refine w_callI (y := (⟨"com/example/slackwater/slackwater/engine/CountWindows", "<init>", "(JJ)V"⟩ : MethodName)) (a := b16) 135 1 [.long s, .long t] C at_132 rfl rfl (hw _ (List.mem_of_getElem? (i := 5) rfl)) (hw _ (List.mem_of_getElem? (i := 6) rfl)) (hw _ (List.mem_of_getElem? (i := 4) rfl)) (hw _ (List.mem_of_getElem? (i := 7) rfl)) (by decide) (rm_ini K.l Z a0 hw [] b16 s t (.long 0) (.long 0) h15 n0 hz hs ht E_b16 g_b16 F_size_b16 F_slide_b16) pd_JJ_to_V rfl (rest := [.ref b16]) rfl rfl (Nat.le_of_eq rfl) (by decide) (by decide) (by decide) (by decide) ?_
    rintro v17 hA ⟨rfl, K1, E_b16, F_size_b16, F_slide_b16⟩
    show Go K hA 1 2 135 [.val (.long p0), .second, .val (.long p1), .second, .val (.long p2), .second, .val (.int p3), .val (.long (9223372036854775807 : Int64)), .second, .val (.long s), .second, .val (.long t), .second, .val (.long x3), .second, .val (.long x4), .second, .val (.long u), .second, .unset, .unset, .unset, .unset, .unset] [.ref b16]
    replace hz := Nat.le_trans hz K1.1
    refine w_astore 137 [.val (.long p0), .second, .val (.long p1), .second, .val (.long p2), .second, .val (.int p3), .val (.long (9223372036854775807 : Int64)), .second, .val (.long s), .second, .val (.long t), .second, .val (.long x3), .second, .val (.long x4), .second, .val (.long u), .second, .val (.ref b16), .unset, .unset, .unset, .unset] C at_135 rfl rfl rfl ?_
    refine w_aload 139 C at_137 rfl rfl rfl ?_
    refine w_lload 141 C at_139 rfl rfl ?_
    refine w_callV (y := (⟨"com/example/slackwater/slackwater/engine/CountWindows", "end", "(J)J"⟩ : MethodName)) (a := b16) 144 0 [.long u] C E_b16 at_141 rfl (hw _ (List.mem_of_getElem? (i := 20) rfl)) (hw _ (List.mem_of_getElem? (i := 21) rfl)) (hw _ (List.mem_of_getElem? (i := 23) rfl)) (hw _ (List.mem_of_getElem? (i := 22) rfl)) (hw _ (List.mem_of_getElem? (i := 4) rfl)) (hw _ (List.mem_of_getElem? (i := 24) rfl)) (by decide) (rm_end K.l Z a0 hw [] b16 u s t hA n0 hz ns nt F_size_b16 F_slide_b16) pd_J_to_J rfl (rest := []) rfl rfl (Nat.le_of_eq rfl) (by decide) (by decide) (by decide) (by decide) ?_
    rintro v19 h18 ⟨⟨e, rfl, he⟩, rfl⟩
    show Go K hA 1 2 144 [.val (.long p0), .second, .val (.long p1), .second, .val (.long p2), .second, .val (.int p3), .val (.long (9223372036854775807 : Int64)), .second, .val (.long s), .second, .val (.long t), .second, .val (.long x3), .second, .val (.long x4), .second, .val (.long u), .second, .val (.ref b16), .unset, .unset, .unset, .unset] [.long e]
    have hL := own_law hs ht hu hv_x3 hv_x4 he
    refine w_lstore 146 [.val (.long p0), .second, .val (.long p1), .second, .val (.long p2), .second, .val (.int p3), .val (.long (9223372036854775807 : Int64)), .second, .val (.long s), .second, .val (.long t), .second, .val (.long x3), .second, .val (.long x4), .second, .val (.long u), .second, .val (.ref b16), .val (.long e), .second, .unset, .unset] C at_144 rfl rfl ?_
    refine w_lload 148 C at_146 rfl rfl ?_
    refine w_lload 150 C at_148 rfl rfl ?_
    refine w_lif 151 187 154 C at_150 rfl at_151 rfl rfl (fun (hc150 : ¬ (e = (9223372036854775807 : Int64))) => ?_) (fun (hc150 : ¬ (¬ (e = (9223372036854775807 : Int64)))) => ?_)
    · refine w_lload 189 C at_187 rfl rfl ?_
      refine w_lload 191 C at_189 rfl rfl ?_
      refine w_lifY 192 197 C at_191 rfl at_192 rfl (show s.toInt ≤ e.toInt from ((hL.2 hc150).1)) ?_
      refine w_lload 199 C at_197 rfl rfl ?_
      refine w_lload 201 C at_199 rfl rfl ?_
      refine w_lsub 202 C at_201 rfl ?_
      refine w_lstore 204 [.val (.long p0), .second, .val (.long p1), .second, .val (.long p2), .second, .val (.int p3), .val (.long (9223372036854775807 : Int64)), .second, .val (.long s), .second, .val (.long t), .second, .val (.long x3), .second, .val (.long x4), .second, .val (.long u), .second, .val (.ref b16), .val (.long e), .second, .val (.long (e - s)), .second] C at_202 rfl rfl ?_
      generalize hv_x20 : (e - s) = x20
      refine w_lload 206 C at_204 rfl rfl ?_
      refine w_lload 208 C at_206 rfl rfl ?_
      refine w_lrem 209 C at_208 rfl nt ?_
      refine w_lconst 210 (0 : Int64) C at_209 rfl rfl ?_
      refine w_lifN 211 214 C at_210 rfl at_211 rfl (show ¬ (¬ ((x20 % t) = (0 : Int64))) from (fun z => z (hv_x20 ▸ (hL.2 hc150).2.1))) ?_
      refine w_lload 216 C at_214 rfl rfl ?_
      refine w_lload 218 C at_216 rfl rfl ?_
      refine w_ldiv 219 C at_218 rfl nt ?_
      refine w_lload 221 C at_219 rfl rfl ?_
      refine w_lconst 222 (1 : Int64) C at_221 rfl rfl ?_
      refine w_lsub 223 C at_222 rfl ?_
      refine w_lifN 224 227 C at_223 rfl at_224 rfl (show ¬ (¬ ((x20 / t) = (u - (1 : Int64)))) from (fun z => z (hv_x20 ▸ (hL.2 hc150).2.2))) ?_
      refine w_iconst 228 (1 : Int32) C at_227 rfl rfl ?_
      refine w_goto 232 C at_228 rfl ?_
      refine w_retN C (by simp) at_232 rfl (by decide) (by decide) ?_
      exact rfl
    · replace hc150 := Classical.not_not.mp hc150
      refine w_lload 156 C at_154 rfl rfl ?_
      refine w_lconst 157 (1 : Int64) C at_156 rfl rfl ?_
      refine w_lsub 158 C at_157 rfl ?_
      refine w_lload 160 C at_158 rfl rfl ?_
      refine w_lif 161 181 164 C at_160 rfl at_161 rfl rfl (fun (hc160 : x3.toInt < (u - (1 : Int64)).toInt) => ?_) (fun (hc160 : ¬ (x3.toInt < (u - (1 : Int64)).toInt)) => ?_)
      · refine w_iconst 182 (1 : Int32) C at_181 rfl rfl ?_
        refine w_goto 186 C at_182 rfl ?_
        refine w_retN C (by simp) at_186 rfl (by decide) (by decide) ?_
        exact rfl
      · refine w_lload 166 C at_164 rfl rfl ?_
        refine w_lconst 167 (1 : Int64) C at_166 rfl rfl ?_
        refine w_lsub 168 C at_167 rfl ?_
        refine w_lload 170 C at_168 rfl rfl ?_
        refine w_lifN 171 174 C at_170 rfl at_171 rfl (show ¬ (¬ ((u - (1 : Int64)) = x3)) from (fun z => z (hL.1 hc150 hc160).1)) ?_
        refine w_lload 176 C at_174 rfl rfl ?_
        refine w_lconst 177 (0 : Int64) C at_176 rfl rfl ?_
        refine w_lifN 178 181 C at_177 rfl at_178 rfl (show ¬ (¬ (x4 = (0 : Int64))) from (fun z => z (hL.1 hc150 hc160).2)) ?_
        refine w_iconst 182 (1 : Int32) C at_181 rfl rfl ?_
        refine w_goto 186 C at_182 rfl ?_
        refine w_retN C (by simp) at_186 rfl (by decide) (by decide) ?_
        exact rfl
set_option maxRecDepth 65536 in
set_option maxHeartbeats 40000000 in
theorem comes_1 {Post : Tables → Env → Array Value → State → Outcome → State → Prop} (hpost : ∀ tb e args s v u, (limb_1_1.after args s (.returned v) u = true ∧ limb_1_2.after args s (.returned v) u = true ∧ True) → FrameEnd s (.returned v) u (Jvm.fieldLocs frame_1_writes args s ++ Jvm.arrayLocs frame_1_arrays args s ++ Jvm.staticLocs frame_1_statics s) 16 128 → Post tb e args s (.returned v) u) :
    ArmFor flags0 classFile x code maxLocals ret World_1 tables_1 room_1 Calls_1 rest_1 Pre_1 Post := by
  intro l hfl _ _ p e ha hc hk s m args below hf hA hF happ hP
  obtain ⟨hcalls, hrest, hpre⟩ := hP
  obtain ⟨-, -, -, hnamed, -, -, -, hat⟩ := (Spec.applies_iff hf).mp happ
  obtain ⟨hg, hn⟩ := and_e (Cond.before_iff.mp (show (Jvm.Cond.and given_1 narrow_1).before args s = true from hpre))
  obtain ⟨gc, r0⟩ := and_e hg
  obtain ⟨g0, r1⟩ := and_e r0
  obtain ⟨g1, r2⟩ := and_e r1
  obtain ⟨g2, r3⟩ := and_e r2
  obtain ⟨w0, w1, w2, w3, rfl⟩ : ∃ w0 w1 w2 w3 : Value, args = #[w0, w1, w2, w3] := by
    have hs : args.size = 4 := by simpa [Cond.value, given_1] using gc
    obtain ⟨L⟩ := args
    match L, hs with
    | [w0, w1, w2, w3], _ => exact ⟨w0, w1, w2, w3, rfl⟩
  have hw := fun d (hd : d ∈ tables_1) => atoms_spec (ws := Jvm.Cond.code x code maxLocals ret :: tables_1) hat d (List.mem_cons_of_mem _ hd)
  obtain ⟨i0, ei0⟩ := isL_v g0
  obtain rfl : w0 = (.long i0) := Option.some.inj ei0
  obtain ⟨i1, ei1⟩ := isL_v g1
  obtain rfl : w1 = (.long i1) := Option.some.inj ei1
  obtain ⟨i2, ei2⟩ := isL_v g2
  obtain rfl : w2 = (.long i2) := Option.some.inj ei2
  obtain ⟨i3, ei3⟩ := is_v r3
  obtain rfl : w3 = (.int i3) := Option.some.inj ei3
  obtain ⟨n, o, h1, h2, h3, _, L, rfl, ⟨N, rfl⟩, hq⟩ := rm0 l s _ hw tables_1 i0 i1 i2 i3 s.heap s.heap.size (Nat.le_refl _) p e ha hc hk s m _ below hf ((Spec.applies_iff_loose hf).mp happ).1 ⟨rfl, State.Warmed39.refl s, rfl⟩ trivial
  refine ⟨n, _, h1, h2, h3, hpost _ _ _ _ _ _ ⟨Cond.after_iff.mpr rfl, Cond.after_iff.mpr (eq_i res_at (Term.int_eval (1)) rfl), trivial⟩ ⟨hq.1, hq.2.1, (hq.2.2.sift fun y hy => Or.inr (N y hy)).mono (by decide) (by decide)⟩⟩
theorem main_1_1 : Claimed_1_1 := comes_1 fun _ _ _ _ _ _ h hF => ⟨h.1, hF⟩
theorem main_1_2 : Claimed_1_2 := comes_1 fun _ _ _ _ _ _ h hF => ⟨h.2.1, hF⟩
end Jvm.Pilot.@@N@@
namespace Jvm.Pilot.@@N@@
open Jvm Jvm.ClassFile Sem Op Lib Jvm.Free Jvm.Stand Jvm.Pilot.@@N@@.Jvm.D
/-! MADE BY PROGRAM (witnessworld.py) out of the Statement's table words and the real class files: 11 classes; the members and pool entries that the words name. The judged class is class 1, her method 1. -/
namespace start1
open Jvm.ClassFile
def u (s : String) : CpInfo := .utf8 (stringToUtf16 s)
/-- a pool by its gaps: so many unusable entries, then the entry; so many at the end -/
def gap : Nat → List CpInfo → List CpInfo
  | 0, r => r
  | n + 1, r => .unusable :: gap n r
def poolList (es : List (Nat × CpInfo)) (last : Nat) : List CpInfo := es.foldr (fun e r => gap e.1 (e.2 :: r)) (gap last [])
def pool (es : List (Nat × CpInfo)) (last : Nat) : Array CpInfo := ⟨poolList es last⟩
def fileOf (pool : Array CpInfo) (this : Nat) (attrs : Array Attribute := #[]) (ms : Array MethodInfo := #[]) (fl : Nat := 33) (sup : Nat := 0) (ifs : Array Nat := #[]) (fds : Array FieldInfo := #[]) : ClassFile where
  minorVersion := 0
  majorVersion := 65
  constantPool := pool
  accessFlags := fl
  thisClass := this
  superClass := sup
  interfaces := ifs
  fields := fds
  methods := ms
  attributes := attrs
def plain (name : String) (sup : Option ClassId) : Class where
  name := name
  kind := .ordinary
  loader := none
  accessFlags := 33
  super := sup
  interfaces := #[]
  cf := none
  fields := #[]
  methods := #[]
  instanceTypes := #[]
  staticTypes := #[]
  resolved := #[]
  callSites := []
  init := .initialized
  statics := none
  mirror := none

def pool0 : Array CpInfo := pool [(5, u "<init>"), (0, u "()V"), (1, .class_ 10), (1, u "java/lang/Object")] 113

def k0c0 : Code := { maxStack := 0, maxLocals := 1, code := object_method_1_code, exceptionTable := #[], attributes := #[] }
def k0m0 : Method := { name := "<init>", desc := "()V", sig := { parameters := [], returnType := none }, accessFlags := 1, code := some k0c0 }
/-- java/lang/Object -/
def k0 : Class := { plain "java/lang/Object" none with
  accessFlags := 33
  interfaces := #[]
  cf := some (fileOf pool0 8 #[] #[{ accessFlags := 1, nameIndex := 5, descriptorIndex := 6, attributes := #[] }] 33 0 #[] #[])
  fields := #[]
  methods := #[k0m0]
  instanceTypes := #[]
  staticTypes := #[]
  resolved := Array.replicate 124 none
  statics := none }

def pool1 : Array CpInfo := pool [(2, .class_ 4), (1, u "java/lang/Object"), (0, u "<init>"), (0, u "()V"), (2, .long 9223372036854775807), (1, .long 7), (1, .long 4), (1, .methodref 16 17), (0, .class_ 18), (0, .nameAndType 19 20), (0, u "java/lang/Math"), (0, u "min"), (0, u "(JJ)J"), (0, .long 3), (1, .class_ 24), (0, u "com/example/slackwater/slackwater/engine/CountWindows"), (0, .methodref 23 26), (0, .nameAndType 5 27), (0, u "(JJ)V"), (0, .methodref 23 29), (0, .nameAndType 30 31), (0, u "end"), (0, u "(J)J"), (0, .class_ 33), (0, u "com/example/slackwater/slackwater/engine/CountWindowsEndPinLaw"), (2, u "law"), (0, u "(JJJI)Z")] 3

def k1m0 : Method := { name := "<init>", desc := "()V", sig := { parameters := [], returnType := none }, accessFlags := 1, code := none }
def k1c1 : Code := { maxStack := 6, maxLocals := 24, code := code, exceptionTable := #[], attributes := #[] }
def k1m1 : Method := { name := "law", desc := "(JJJI)Z", sig := { parameters := [.long, .long, .long, .int], returnType := some .boolean }, accessFlags := 9, code := some k1c1 }
/-- com/example/slackwater/slackwater/engine/CountWindowsEndPinLaw -/
def k1 : Class := { plain "com/example/slackwater/slackwater/engine/CountWindowsEndPinLaw" (some 0) with
  accessFlags := 49
  interfaces := #[]
  cf := some (fileOf pool1 32 #[] #[{ accessFlags := 1, nameIndex := 5, descriptorIndex := 6, attributes := #[] }, { accessFlags := 9, nameIndex := 36, descriptorIndex := 37, attributes := #[] }] 49 2 #[] #[])
  fields := #[]
  methods := #[k1m0, k1m1]
  instanceTypes := #[]
  staticTypes := #[]
  resolved := Array.replicate 41 none
  statics := none }

def pool2 : Array CpInfo := pool [(1, .methodref 2 3), (0, .class_ 4), (0, .nameAndType 5 6), (0, u "java/lang/Object"), (0, u "<init>"), (0, u "()V"), (0, .class_ 8), (0, u "java/lang/Record")] 13

def k2c0 : Code := { maxStack := 1, maxLocals := 1, code := jdk_30_method_1_code, exceptionTable := #[], attributes := #[] }
def k2m0 : Method := { name := "<init>", desc := "()V", sig := { parameters := [], returnType := none }, accessFlags := 4, code := some k2c0 }
/-- java/lang/Record -/
def k2 : Class := { plain "java/lang/Record" (some 0) with
  accessFlags := 1057
  interfaces := #[]
  cf := some (fileOf pool2 7 #[] #[{ accessFlags := 4, nameIndex := 5, descriptorIndex := 6, attributes := #[] }] 1057 2 #[] #[])
  fields := #[]
  methods := #[k2m0]
  instanceTypes := #[]
  staticTypes := #[]
  resolved := Array.replicate 22 none
  statics := none }

def pool3 : Array CpInfo := pool [(1, .methodref 2 3), (0, .class_ 4), (0, .nameAndType 5 6), (0, u "java/lang/Record"), (0, u "<init>"), (0, u "()V"), (9, .fieldref 17 18), (0, .class_ 19), (0, .nameAndType 20 21), (0, u "com/example/slackwater/slackwater/engine/CountWindows"), (0, u "size"), (0, u "J"), (0, .fieldref 17 23), (0, .nameAndType 24 21), (0, u "slide"), (4, .long 9223372036854775807), (7, .class_ 38), (0, u "com/example/slackwater/slackwater/engine/CountWindows$Rule"), (15, u "(JJ)V"), (5, u "(J)J"), (0, u "end"), (11, .class_ 74), (0, u "com/example/slackwater/slackwater/engine/CountWindows$Cursor")] 29

def k3c0 : Code := { maxStack := 6, maxLocals := 5, code := prog_134_method_1_code, exceptionTable := #[], attributes := #[] }
def k3m0 : Method := { name := "<init>", desc := "(JJ)V", sig := { parameters := [.long, .long], returnType := none }, accessFlags := 1, code := some k3c0 }
def k3c1 : Code := { maxStack := 6, maxLocals := 3, code := prog_134_method_3_code, exceptionTable := #[], attributes := #[] }
def k3m1 : Method := { name := "end", desc := "(J)J", sig := { parameters := [.long], returnType := some .long }, accessFlags := 0, code := some k3c1 }
/-- com/example/slackwater/slackwater/engine/CountWindows -/
def k3 : Class := { plain "com/example/slackwater/slackwater/engine/CountWindows" (some 2) with
  accessFlags := 49
  interfaces := #[]
  cf := some (fileOf pool3 17 #[.nestMembers #[73, 37]] #[{ accessFlags := 1, nameIndex := 5, descriptorIndex := 54, attributes := #[] }, { accessFlags := 0, nameIndex := 61, descriptorIndex := 60, attributes := #[] }] 49 2 #[] #[{ accessFlags := 18, nameIndex := 20, descriptorIndex := 21, attributes := #[] }, { accessFlags := 18, nameIndex := 24, descriptorIndex := 21, attributes := #[] }])
  fields := #[{ name := "size", type := .long, accessFlags := 18, slot := 0, constantValue := 0 }, { name := "slide", type := .long, accessFlags := 18, slot := 1, constantValue := 0 }]
  methods := #[k3m0, k3m1]
  instanceTypes := #[.long, .long]
  staticTypes := #[]
  resolved := Array.replicate 104 none
  statics := none }

def pool4 : Array CpInfo := pool [(1, .class_ 2), (0, u "java/lang/Math"), (1, .class_ 6), (1, u "java/lang/Object"), (0, u "<init>"), (0, u "()V"), (89, .class_ 100), (1, u "java/lang/Math$RandomNumberGeneratorHolder"), (20, u "(JJ)J"), (50, u "negativeZeroFloatBits"), (0, u "J"), (2, u "negativeZeroDoubleBits"), (24, u "min"), (43, u "$assertionsDisabled"), (0, u "Z"), (91, u "twoToTheDoubleScaleDown"), (0, u "D"), (4, u "twoToTheDoubleScaleUp"), (9, u "E"), (3, u "PI"), (2, u "TAU"), (2, u "DEGREES_TO_RADIANS"), (0, u "RADIANS_TO_DEGREES")] 94

def k4m0 : Method := { name := "<init>", desc := "()V", sig := { parameters := [], returnType := none }, accessFlags := 2, code := none }
def k4c1 : Code := { maxStack := 4, maxLocals := 4, code := jdk_29_method_70_code, exceptionTable := #[], attributes := #[] }
def k4m1 : Method := { name := "min", desc := "(JJ)J", sig := { parameters := [.long, .long], returnType := some .long }, accessFlags := 9, code := some k4c1 }
/-- java/lang/Math -/
def k4 : Class := { plain "java/lang/Math" (some 0) with
  accessFlags := 49
  interfaces := #[]
  cf := some (fileOf pool4 1 #[.nestMembers #[98]] #[{ accessFlags := 2, nameIndex := 7, descriptorIndex := 8, attributes := #[] }, { accessFlags := 9, nameIndex := 201, descriptorIndex := 121, attributes := #[] }] 49 4 #[] #[{ accessFlags := 25, nameIndex := 354, descriptorIndex := 339, attributes := #[] }, { accessFlags := 25, nameIndex := 358, descriptorIndex := 339, attributes := #[] }, { accessFlags := 25, nameIndex := 361, descriptorIndex := 339, attributes := #[] }, { accessFlags := 26, nameIndex := 364, descriptorIndex := 339, attributes := #[] }, { accessFlags := 26, nameIndex := 365, descriptorIndex := 339, attributes := #[] }, { accessFlags := 26, nameIndex := 172, descriptorIndex := 173, attributes := #[] }, { accessFlags := 26, nameIndex := 176, descriptorIndex := 173, attributes := #[] }, { accessFlags := 8, nameIndex := 344, descriptorIndex := 339, attributes := #[] }, { accessFlags := 8, nameIndex := 338, descriptorIndex := 339, attributes := #[] }, { accessFlags := 4120, nameIndex := 245, descriptorIndex := 246, attributes := #[] }])
  fields := #[{ name := "E", type := .double, accessFlags := 25, slot := 0, constantValue := 0 }, { name := "PI", type := .double, accessFlags := 25, slot := 1, constantValue := 0 }, { name := "TAU", type := .double, accessFlags := 25, slot := 2, constantValue := 0 }, { name := "DEGREES_TO_RADIANS", type := .double, accessFlags := 26, slot := 3, constantValue := 0 }, { name := "RADIANS_TO_DEGREES", type := .double, accessFlags := 26, slot := 4, constantValue := 0 }, { name := "negativeZeroFloatBits", type := .long, accessFlags := 26, slot := 5, constantValue := 0 }, { name := "negativeZeroDoubleBits", type := .long, accessFlags := 26, slot := 6, constantValue := 0 }, { name := "twoToTheDoubleScaleUp", type := .double, accessFlags := 8, slot := 7, constantValue := 0 }, { name := "twoToTheDoubleScaleDown", type := .double, accessFlags := 8, slot := 8, constantValue := 0 }, { name := "$assertionsDisabled", type := .boolean, accessFlags := 4120, slot := 9, constantValue := 0 }]
  methods := #[k4m0, k4m1]
  instanceTypes := #[]
  staticTypes := #[.double, .double, .double, .double, .double, .long, .long, .double, .double, .boolean]
  resolved := Array.replicate 460 none
  statics := none }

def pool5 : Array CpInfo := pool [(1, u "java/lang/Cloneable"), (0, .class_ 1), (0, u "java/lang/Object"), (0, .class_ 3)] 3

/-- java/lang/Cloneable -/
def k5 : Class := { plain "java/lang/Cloneable" (some 0) with
  accessFlags := 1537
  interfaces := #[]
  cf := some (fileOf pool5 2 #[] #[] 1537 4 #[] #[])
  fields := #[]
  methods := #[]
  instanceTypes := #[]
  staticTypes := #[]
  resolved := Array.replicate 8 none
  statics := none }

def pool6 : Array CpInfo := pool [(1, u "java/io/Serializable"), (0, .class_ 1), (0, u "java/lang/Object"), (0, .class_ 3)] 3

/-- java/io/Serializable -/
def k6 : Class := { plain "java/io/Serializable" (some 0) with
  accessFlags := 1537
  interfaces := #[]
  cf := some (fileOf pool6 2 #[] #[] 1537 4 #[] #[])
  fields := #[]
  methods := #[]
  instanceTypes := #[]
  staticTypes := #[]
  resolved := Array.replicate 8 none
  statics := none }

/-- the primitive byte -/
def k7 : Class := { plain "byte" none with kind := .primitive 'B', accessFlags := 0x411 }
/-- [B -/
def k8 : Class := { plain "[B" (some 0) with kind := .array 7 .byte, interfaces := #[5, 6], accessFlags := 1041 }

/-- the primitive int -/
def k9 : Class := { plain "int" none with kind := .primitive 'I', accessFlags := 0x411 }
/-- [I -/
def k10 : Class := { plain "[I" (some 0) with kind := .array 9 .int, interfaces := #[5, 6], accessFlags := 1041 }

def heap : Heap := #[]
def classes : Array Class := #[k0, k1, k2, k3, k4, k5, k6, k7, k8, k9, k10]
def interned : List (Array UInt16 × Addr) := []
def slotsUsed : Nat := 0
def theMethod : MethodId := ⟨1, 1⟩
def args0 : Array Value := #[.long 5, .long 7, .long 3, .int 1]
def aboutOver (below : List Frame) : State where
  vm := { classes := classes, interned := interned.toArray }
  heap := heap
  slotsUsed := slotsUsed
  threads := #[{ frames := .invoking theMethod args0 :: below }]
def below0 : List Frame := [.native { method := ⟨0, 0⟩, args := #[] }]
def about1 : State := aboutOver below0
def p0 : Program := .bare "" "" ""
def e0 : Env := launch0.env 0 0 0
theorem w_frames : about1.frames = Frame.invoking theMethod args0 :: below0 := rfl
set_option maxRecDepth 65536 in
theorem w_args : argsFit about1.vm theMethod args0 = true := by decide +kernel
set_option maxRecDepth 65536 in
theorem w_heap : heapFits about1 = true := by decide +kernel
set_option maxRecDepth 65536 in
theorem w_runnable : about1.curStatus? = some .runnable := by decide +kernel
set_option maxRecDepth 65536 in
theorem w_alone : about1.alone = true := by decide +kernel
set_option maxRecDepth 65536 in
theorem w_named : about1.methodNamed? x = some theMethod := by decide +kernel
set_option maxRecDepth 65536 in
theorem w_hears : about1.hears theMethod below0 = true := by decide +kernel
set_option maxRecDepth 65536 in
theorem w_ripe : about1.ripe theMethod args0 below0 = true := by decide +kernel
theorem w_running : about1.status = .running := rfl
set_option maxRecDepth 65536 in
theorem w_room : about1.hasRoom e0.platform room_1 = true :=
  launch0.hasRoom_least _ room_1 (by decide +kernel) (by decide +kernel) (by decide +kernel) (by decide +kernel) (by decide +kernel) (by decide +kernel)
theorem allAtoms_all (ts : List Jvm.Cond) (a : Array Jvm.Value) (st : Jvm.State) : (allAtoms ts).before a st = ts.all (fun c => c.before a st) := by
  induction ts with
  | nil => rfl
  | cons c t ih =>
    show (Jvm.Cond.and c (allAtoms t)).before a st = _
    rw [Jvm.Cond.before_and, ih, List.all_cons]
def words1 : List Jvm.Cond := Jvm.Cond.code x code maxLocals ret :: tables_1
/-- a 'code' word, met by the world's own term for the bytes: nothing is compared byte by byte -/
theorem code_word {y : MethodName} {bytes : ByteArray} {mx : Nat} {rt : Option FieldType} {a : Array Value} {s : State} {m : MethodId} {meth : Method} {c : Code} (h1 : s.methodNamed? y = some m) (h2 : s.vm.method? m = some meth) (h3 : meth.code = some c) (h4 : c.code = bytes)
    (h5 : (c.maxLocals == mx && c.exceptionTable.isEmpty && decide (c.maxStack ≤ mostOperands) && decide (meth.sig.returnType = rt) && !meth.locks && decide (parseMethodDescriptor y.desc = some meth.sig)) = true) : (Jvm.Cond.code y bytes mx rt).before a s = true := by
  simp only [Bool.and_eq_true, beq_iff_eq, Bool.not_eq_true', decide_eq_true_eq] at h5
  obtain ⟨⟨⟨⟨⟨g1, g2⟩, g3⟩, g4⟩, g5⟩, g6⟩ := h5
  simp [Cond.before, Cond.holds, Cond.value, h1, h2, h3, h4, g1, g2, g3, g4, g5, g6]
def isCode : Jvm.Cond → Bool
  | .code _ _ _ _ => true
  | _ => false
theorem all_split {L : List Jvm.Cond} {P : Jvm.Cond → Bool} (h1 : L.all (fun c => isCode c || P c) = true) (h2 : ∀ c ∈ L.filter isCode, P c = true) : L.all P = true := by
  refine List.all_eq_true.mpr fun c hc => ?_
  have h := List.all_eq_true.mp h1 c hc
  rcases Bool.eq_false_or_eq_true (isCode c) with hi | hi
  · exact h2 c (List.mem_filter.mpr ⟨hc, hi⟩)
  · simpa [hi] using h
set_option maxRecDepth 65536 in
theorem w_c0 : (Jvm.Cond.code x code maxLocals ret).before args0 about1 = true := code_word (m := ⟨1, 1⟩) (meth := k1m1) (c := k1c1) (by decide +kernel) rfl rfl rfl (by decide +kernel)
set_option maxRecDepth 65536 in
theorem w_c1 : (Jvm.Cond.code ({ cls := "com/example/slackwater/slackwater/engine/CountWindows", name := "<init>", desc := "(JJ)V" } : Jvm.MethodName) prog_134_method_1_code (5 : Nat) (Option.none : Option Jvm.ClassFile.FieldType)).before args0 about1 = true := code_word (m := ⟨3, 0⟩) (meth := k3m0) (c := k3c0) (by decide +kernel) rfl rfl rfl (by decide +kernel)
set_option maxRecDepth 65536 in
theorem w_c2 : (Jvm.Cond.code ({ cls := "java/lang/Record", name := "<init>", desc := "()V" } : Jvm.MethodName) jdk_30_method_1_code (1 : Nat) (Option.none : Option Jvm.ClassFile.FieldType)).before args0 about1 = true := code_word (m := ⟨2, 0⟩) (meth := k2m0) (c := k2c0) (by decide +kernel) rfl rfl rfl (by decide +kernel)
set_option maxRecDepth 65536 in
theorem w_c3 : (Jvm.Cond.code ({ cls := "java/lang/Object", name := "<init>", desc := "()V" } : Jvm.MethodName) object_method_1_code (1 : Nat) (Option.none : Option Jvm.ClassFile.FieldType)).before args0 about1 = true := code_word (m := ⟨0, 0⟩) (meth := k0m0) (c := k0c0) (by decide +kernel) rfl rfl rfl (by decide +kernel)
set_option maxRecDepth 65536 in
theorem w_c4 : (Jvm.Cond.code ({ cls := "com/example/slackwater/slackwater/engine/CountWindows", name := "end", desc := "(J)J" } : Jvm.MethodName) prog_134_method_3_code (3 : Nat) (Option.some Jvm.ClassFile.FieldType.long)).before args0 about1 = true := code_word (m := ⟨3, 1⟩) (meth := k3m1) (c := k3c1) (by decide +kernel) rfl rfl rfl (by decide +kernel)
set_option maxRecDepth 65536 in
theorem w_c5 : (Jvm.Cond.code ({ cls := "java/lang/Math", name := "min", desc := "(JJ)J" } : Jvm.MethodName) jdk_29_method_70_code (4 : Nat) (Option.some Jvm.ClassFile.FieldType.long)).before args0 about1 = true := code_word (m := ⟨4, 1⟩) (meth := k4m1) (c := k4c1) (by decide +kernel) rfl rfl rfl (by decide +kernel)
def codes1 : List Jvm.Cond := [Jvm.Cond.code x code maxLocals ret, Jvm.Cond.code ({ cls := "com/example/slackwater/slackwater/engine/CountWindows", name := "<init>", desc := "(JJ)V" } : Jvm.MethodName) prog_134_method_1_code (5 : Nat) (Option.none : Option Jvm.ClassFile.FieldType), Jvm.Cond.code ({ cls := "java/lang/Record", name := "<init>", desc := "()V" } : Jvm.MethodName) jdk_30_method_1_code (1 : Nat) (Option.none : Option Jvm.ClassFile.FieldType), Jvm.Cond.code ({ cls := "java/lang/Object", name := "<init>", desc := "()V" } : Jvm.MethodName) object_method_1_code (1 : Nat) (Option.none : Option Jvm.ClassFile.FieldType), Jvm.Cond.code ({ cls := "com/example/slackwater/slackwater/engine/CountWindows", name := "end", desc := "(J)J" } : Jvm.MethodName) prog_134_method_3_code (3 : Nat) (Option.some Jvm.ClassFile.FieldType.long), Jvm.Cond.code ({ cls := "java/lang/Math", name := "min", desc := "(JJ)J" } : Jvm.MethodName) jdk_29_method_70_code (4 : Nat) (Option.some Jvm.ClassFile.FieldType.long)]
set_option maxRecDepth 65536 in
theorem codes_eq : words1.filter isCode = codes1 := rfl
theorem w_codes : ∀ c ∈ words1.filter isCode, c.before args0 about1 = true := by
  rw [codes_eq]
  intro c hc
  simp only [codes1, List.mem_cons, List.not_mem_nil, or_false] at hc
  rcases hc with rfl | rfl | rfl | rfl | rfl | rfl
  · exact w_c0
  · exact w_c1
  · exact w_c2
  · exact w_c3
  · exact w_c4
  · exact w_c5
set_option maxRecDepth 65536 in
theorem w_t1 : (words1.take 24).all (fun c => isCode c || c.before args0 about1) = true := by decide +kernel
set_option maxRecDepth 65536 in
theorem w_t2 : (words1.drop 24).all (fun c => isCode c || c.before args0 about1) = true := by decide +kernel
theorem w_tables : (allAtoms (Jvm.Cond.code x code maxLocals ret :: tables_1)).before args0 about1 = true := by
  rw [allAtoms_all]
  show words1.all (fun c => c.before args0 about1) = true
  refine all_split ?_ w_codes
  rw [← List.take_append_drop 24 words1, List.all_append, w_t1, w_t2]
  rfl
set_option maxRecDepth 65536 in
theorem w_case : (Jvm.Cond.and given_1 narrow_1).before args0 about1 = true := by decide +kernel
theorem w_applies : (headSpec (Jvm.Cond.code x code maxLocals ret :: tables_1) room_1).applies x e0.platform about1 = true :=
  (Spec.applies_iff w_frames).mpr ⟨w_running, w_runnable, w_alone, w_named, w_hears, w_ripe, w_room, w_tables⟩
theorem atStart : AtStart classFile x code maxLocals ret World_1 tables_1 room_1 Calls_1 rest_1 Pre_1 launch0 p0 e0 about1 theMethod args0 below0 :=
  ⟨lists_1, trivial, launch0.admits_env _ _ _, launch0.least_env, fairChoices_fair.cas, fairChoices_fair.clock, w_frames, w_args, w_heap, w_applies, trivial, trivial, w_case⟩
end start1
theorem witness_1 : WitnessClaimed_1 := ⟨start1.p0, start1.e0, start1.about1, start1.theMethod, start1.args0, start1.below0, start1.atStart⟩
end Jvm.Pilot.@@N@@
