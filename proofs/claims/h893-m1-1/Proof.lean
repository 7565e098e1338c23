import JvmDerived
import JvmDerived.Pilot.@@N@@Statement
import JvmDerived.Pilot.@@N@@Code
set_option linter.unusedVariables false
set_option linter.unusedSimpArgs false
@@BLOCK:NumsL.lean.txt@@
namespace Jvm.Pilot.@@N@@
open Jvm Jvm.ClassFile Sem Op Lib Jvm.Free Jvm.Stand Jvm.LawKit Jvm.RoadKit Bundle Jvm.Pilot.@@N@@.Jvm.D
/-! OWN LAYER (one text for all claims of this seat): a walk's goal with its state hidden ('Go'), one rule an instruction. -/
/-- all that a walk through one body holds fixed -/
abbrev OwnK : Type := Program × Launch × Env × Room × State × MethodId × Array Value × List Frame × Method × Code × Nat × (Option Value → Heap → Prop)
namespace OwnK
abbrev p (K : OwnK) : Program := K.1
abbrev l (K : OwnK) : Launch := K.2.1
abbrev e (K : OwnK) : Env := K.2.2.1
abbrev R (K : OwnK) : Room := K.2.2.2.1
abbrev s (K : OwnK) : State := K.2.2.2.2.1
abbrev m (K : OwnK) : MethodId := K.2.2.2.2.2.1
abbrev args (K : OwnK) : Array Value := K.2.2.2.2.2.2.1
abbrev below (K : OwnK) : List Frame := K.2.2.2.2.2.2.2.1
abbrev meth (K : OwnK) : Method := K.2.2.2.2.2.2.2.2.1
abbrev c (K : OwnK) : Code := K.2.2.2.2.2.2.2.2.2.1
abbrev n0 (K : OwnK) : Nat := K.2.2.2.2.2.2.2.2.2.2.1
abbrev Post (K : OwnK) : Option Value → Heap → Prop := K.2.2.2.2.2.2.2.2.2.2.2
end OwnK
/-- a place of the walk -/
abbrev OwnSt (K : OwnK) (T : State) (locs : List Loc) (cells slots : Nat) : Prop := Stand K.p K.l K.e K.R K.s K.m K.args K.below K.meth K.c T locs cells slots
/-- from this state the run ends as the contract says -/
def OwnDone (K : OwnK) (t : State) : Prop :=
  ∃ s₂ o, Steps K.p.tables K.e K.below t s₂ ∧ s₂.status = .running ∧ Ended s₂ K.below o ∧ ∃ v L, o = .returned v ∧ (Fr K.n0 L ∧ K.Post v s₂.heap) ∧ FrameEnd K.s o s₂ L K.R.cells K.R.slots
/-- from every state at this pc, with these locals, this stack and this heap the run ends as the contract says -/
def Go (K : OwnK) (h : Heap) (cells slots pc : Nat) (Ls : List Slot) (st : List Value) : Prop :=
  ∀ T locs, OwnSt K T locs cells slots → T.heap = h → Fr K.n0 locs → OwnDone K (T.setTop (mkF K.m pc Ls.toArray st))
/-- what the walk through one body may lean on -/
def Cx (K : OwnK) (Z : State) (own name : String) (code : ByteArray) (maxL : Nat) (ret : Option FieldType) (R : Room) (n0 : Nat) (Post : Option Value → Heap → Prop) : Prop :=
  K.p.tables.exec = Jvm.exec ∧ K.c.code = code ∧ K.c.maxLocals = maxL ∧ K.s.vm.findClass own = some K.m.cls ∧ K.meth.name = name ∧ K.meth.sig.returnType = ret ∧ K.meth.locks = false ∧ Z.Warmed39 K.s.vm ∧ K.R = R ∧ K.n0 = n0 ∧ K.Post = Post
/-- a body's contract -/
def OwnMet (l : Launch) (y : MethodName) (bytes : ByteArray) (maxL : Nat) (ret : Option FieldType) (ws : List Jvm.Cond) (rm : Room) (Z : State) (h : Heap) (n0 : Nat) (as : Array Value) (P : Option Value → Heap → Prop) : Prop :=
  MetFree l y (head1 (Jvm.Cond.code y bytes maxL ret :: ws) rm) (fun a U => a = as ∧ Z.Warmed39 U.vm ∧ U.heap = h) (fun _ _ _ _ _ => True) (fun _ U o U' => ∃ v L, o = .returned v ∧ (Fr n0 L ∧ P v U'.heap) ∧ FrameEnd U o U' L rm.cells rm.slots)
theorem own_clamp (n : Int32) : n.toNatClampNeg = n.toInt.toNat := rfl
theorem own_newA (cA : ClassId) (ty : FieldType) (n : Int32) : (newA cA ty n).slots = Array.replicate n.toNatClampNeg (defaultValue ty) := rfl
theorem own_setSlot (c : Cell) (i : Nat) (v : Value) : (c.setSlot i v).slots = c.slots.setIfInBounds i v := rfl
theorem own_dnull (C : String) : defaultValue (.object C) = .null := rfl
section OwnLaws
variable {K : OwnK} {Z : State} {own name : String} {code : ByteArray} {maxL : Nat} {ret : Option FieldType} {R : Room} {n0 : Nat} {Post : Option Value → Heap → Prop} {h : Heap} {cells slots pc : Nat} {Ls Ls' : List Slot} {st rest : List Value} {a0 : Array Value}
theorem OwnDone.of {t t' : State} (k : ∀ target, Steps K.p.tables K.e K.below t' target → Steps K.p.tables K.e K.below t target) (d : OwnDone K t') : OwnDone K t := by
  obtain ⟨s₂, o, h1, r⟩ := d
  exact ⟨s₂, o, k _ h1, r⟩
theorem OwnMet.of {l : Launch} {desc : String} {bytes : ByteArray} {ws : List Jvm.Cond} {as : Array Value} (hp : plainFor (⟨own, name, desc⟩ : MethodName) = true) (ef : ∀ m, entryFrame m as maxL = mkF m 0 Ls.toArray [])
    (go : ∀ K : OwnK, K.l = l → Cx K Z own name bytes maxL ret R n0 Post → Go K h 0 0 0 Ls []) : OwnMet l ⟨own, name, desc⟩ bytes maxL ret ws R Z h n0 as Post := by
  refine MetFree.of_bodySF hp hisR ?_
  intro p e s m args below meth c s₁ Bd hml0 hP hK
  obtain ⟨rfl, hZ, hh⟩ := hP
  have g := go (p, l, e, R, s, m, args, below, meth, c, n0, Post) rfl ⟨Bd.exec, Bd.bytes, hml0, findClass_of_methodNamed Bd.named, (name_of_methodNamed Bd.named Bd.method).1, Bd.returns, Bd.notSynchronized, hZ, rfl, rfl, rfl⟩
  have d := g s₁ [] (Stand.of_body Bd) (by rw [← hh, Bd.state]; rfl) (Fr.nil n0)
  rw [ef m]
  exact d
theorem own_cut0 {A : Prop} (G : Prop) (h1 : G → A) (h2 : G) : A := h1 h2
theorem own_cut1 {α : Type} {A : Prop} (P G : α → Prop) (h1 : (∀ z, P z → G z) → A) (h2 : ∀ z, P z → G z) : A := h1 h2
theorem own_cut2 {α β : Type} {A : Prop} (P G : α → β → Prop) (h1 : (∀ z w, P z w → G z w) → A) (h2 : ∀ z w, P z w → G z w) : A := h1 h2
theorem own_cut3 {α β γ : Type} {A : Prop} (P G : α → β → γ → Prop) (h1 : (∀ z w u, P z w u → G z w u) → A) (h2 : ∀ z w u, P z w u → G z w u) : A := h1 h2
theorem Go.step {pc' : Nat} {st' : List Value} (g : Go K h cells slots pc' Ls' st') (f : ∀ T locs, OwnSt K T locs cells slots → ∀ target, Steps K.p.tables K.e K.below (T.setTop (mkF K.m pc' Ls'.toArray st')) target → Steps K.p.tables K.e K.below (T.setTop (mkF K.m pc Ls.toArray st)) target) : Go K h cells slots pc Ls st :=
  fun T locs X e N => OwnDone.of (f T locs X) (g T locs X e N)
/-! 1. loads, constants, stores -/
theorem w_iload (pc' : Nat) (C : Cx K Z own name code maxL ret R n0 Post) {k : Nat} {v : Int32} (hd : decode code pc = .ok (.iload k, 2)) (hp : pc + 2 = pc') (hl : Ls[k]? = some (.val (.int v))) (g : Go K h cells slots pc' Ls (.int v :: st)) : Go K h cells slots pc Ls st := by
  subst hp; exact g.step fun T locs X t q => XS.iload X.here C.1 rfl (hb C.2.1 hd) (by simpa using hl) q
theorem w_iloadN (pc' : Nat) (C : Cx K Z own name code maxL ret R n0 Post) {k : Fin 4} {v : Int32} (hd : decode code pc = .ok (.iload_n k, 1)) (hp : pc + 1 = pc') (hl : Ls[k.val]? = some (.val (.int v))) (g : Go K h cells slots pc' Ls (.int v :: st)) : Go K h cells slots pc Ls st := by
  subst hp; exact g.step fun T locs X t q => XS.iloadN X.here C.1 rfl (hb C.2.1 hd) (by simpa using hl) q
theorem w_lload (pc' : Nat) (C : Cx K Z own name code maxL ret R n0 Post) {k : Nat} {v : Int64} (hd : decode code pc = .ok (.lload k, 2)) (hp : pc + 2 = pc') (hl : Ls[k]? = some (.val (.long v))) (g : Go K h cells slots pc' Ls (.long v :: st)) : Go K h cells slots pc Ls st := by
  subst hp; exact g.step fun T locs X t q => XS.lload X.here C.1 rfl (hb C.2.1 hd) (by simpa using hl) q
theorem w_lloadN (pc' : Nat) (C : Cx K Z own name code maxL ret R n0 Post) {k : Fin 4} {v : Int64} (hd : decode code pc = .ok (.lload_n k, 1)) (hp : pc + 1 = pc') (hl : Ls[k.val]? = some (.val (.long v))) (g : Go K h cells slots pc' Ls (.long v :: st)) : Go K h cells slots pc Ls st := by
  subst hp; exact g.step fun T locs X t q => XS.lloadN X.here C.1 rfl (hb C.2.1 hd) (by simpa using hl) q
theorem w_aload (pc' : Nat) (C : Cx K Z own name code maxL ret R n0 Post) {k : Nat} {v : Value} (hd : decode code pc = .ok (.aload k, 2)) (hp : pc + 2 = pc') (hl : Ls[k]? = some (.val v)) (hv : v.isRef = true) (g : Go K h cells slots pc' Ls (v :: st)) : Go K h cells slots pc Ls st := by
  subst hp; exact g.step fun T locs X t q => XS.aload X.here C.1 rfl (hb C.2.1 hd) (by simpa using hl) hv q
theorem w_aloadN (pc' : Nat) (C : Cx K Z own name code maxL ret R n0 Post) {k : Fin 4} {v : Value} (hd : decode code pc = .ok (.aload_n k, 1)) (hp : pc + 1 = pc') (hl : Ls[k.val]? = some (.val v)) (hv : v.isRef = true) (g : Go K h cells slots pc' Ls (v :: st)) : Go K h cells slots pc Ls st := by
  subst hp; exact g.step fun T locs X t q => XS.aloadN X.here C.1 rfl (hb C.2.1 hd) (by simpa using hl) hv q
theorem w_iconst (pc' : Nat) (n : Int32) (C : Cx K Z own name code maxL ret R n0 Post) {i : Int} (hd : decode code pc = .ok (.iconst i, 1)) (hp : pc + 1 = pc') (hn : Int32.ofInt i = n) (g : Go K h cells slots pc' Ls (.int n :: st)) : Go K h cells slots pc Ls st := by
  subst hp hn; exact g.step fun T locs X t q => XS.iconst X.here C.1 rfl (hb C.2.1 hd) q
theorem w_bipush (pc' : Nat) (n : Int32) (C : Cx K Z own name code maxL ret R n0 Post) {i : Int} (hd : decode code pc = .ok (.bipush i, 2)) (hp : pc + 2 = pc') (hn : (Int8.ofInt i).toInt32 = n) (g : Go K h cells slots pc' Ls (.int n :: st)) : Go K h cells slots pc Ls st := by
  subst hp hn; exact g.step fun T locs X t q => XS.bipush X.here C.1 rfl (hb C.2.1 hd) q
theorem w_sipush (pc' : Nat) (n : Int32) (C : Cx K Z own name code maxL ret R n0 Post) {i : Int} (hd : decode code pc = .ok (.sipush i, 3)) (hp : pc + 3 = pc') (hn : (Int16.ofInt i).toInt32 = n) (g : Go K h cells slots pc' Ls (.int n :: st)) : Go K h cells slots pc Ls st := by
  subst hp hn; exact g.step fun T locs X t q => XS.sipush X.here C.1 rfl (hb C.2.1 hd) q
theorem w_lconst (pc' : Nat) (n : Int64) (C : Cx K Z own name code maxL ret R n0 Post) {k : Fin 2} (hd : decode code pc = .ok (.lconst k, 1)) (hp : pc + 1 = pc') (hn : Int64.ofNat k = n) (g : Go K h cells slots pc' Ls (.long n :: st)) : Go K h cells slots pc Ls st := by
  subst hp hn; exact g.step fun T locs X t q => XS.lconst X.here C.1 rfl (hb C.2.1 hd) q
theorem w_null (pc' : Nat) (C : Cx K Z own name code maxL ret R n0 Post) (hd : decode code pc = .ok (.aconst_null, 1)) (hp : pc + 1 = pc') (g : Go K h cells slots pc' Ls (.null :: st)) : Go K h cells slots pc Ls st := by
  subst hp; exact g.step fun T locs X t q => XS.aconstNull X.here C.1 rfl (hb C.2.1 hd) q
theorem w_ldc (pc' : Nat) (C : Cx K Z own name code maxL ret R n0 Post) {i : Nat} {v : Int32} (hd : decode code pc = .ok (.ldc i, 2)) (hp : pc + 2 = pc') (w : (Cond.constant own i v).before a0 Z = true) (g : Go K h cells slots pc' Ls (.int v :: st)) : Go K h cells slots pc Ls st := by
  subst hp; exact g.step fun T locs X t q => X.ldcInt C.1 C.2.2.2.1 (mvT C.2.2.2.2.2.2.2.1 w) (g := mkF K.m pc Ls.toArray st) rfl (hb C.2.1 hd) _ q
theorem w_ldcw (pc' : Nat) (C : Cx K Z own name code maxL ret R n0 Post) {i : Nat} {v : Int32} (hd : decode code pc = .ok (.ldc_w i, 3)) (hp : pc + 3 = pc') (w : (Cond.constant own i v).before a0 Z = true) (g : Go K h cells slots pc' Ls (.int v :: st)) : Go K h cells slots pc Ls st := by
  subst hp; exact g.step fun T locs X t q => X.ldcwInt C.1 C.2.2.2.1 (mvT C.2.2.2.2.2.2.2.1 w) (g := mkF K.m pc Ls.toArray st) rfl (hb C.2.1 hd) _ q
theorem w_ldc2 (pc' : Nat) (C : Cx K Z own name code maxL ret R n0 Post) {i : Nat} {v : Int64} (hd : decode code pc = .ok (.ldc2_w i, 3)) (hp : pc + 3 = pc') (w : (Cond.constantLong own i v).before a0 Z = true) (g : Go K h cells slots pc' Ls (.long v :: st)) : Go K h cells slots pc Ls st := by
  subst hp; exact g.step fun T locs X t q => X.ldc2Long C.1 C.2.2.2.1 (mvT C.2.2.2.2.2.2.2.1 w) (g := mkF K.m pc Ls.toArray st) rfl (hb C.2.1 hd) _ q
theorem w_istore (pc' : Nat) (Ls' : List Slot) (C : Cx K Z own name code maxL ret R n0 Post) {k : Nat} {x : Int32} (hd : decode code pc = .ok (.istore k, 2)) (hp : pc + 2 = pc') (hl : storeLocals Ls.toArray k (.int x) = some Ls'.toArray) (g : Go K h cells slots pc' Ls' st) : Go K h cells slots pc Ls (.int x :: st) := by
  subst hp; exact g.step fun T locs X t q => XS.istore X.here C.1 rfl (hb C.2.1 hd) rfl hl q
theorem w_istoreN (pc' : Nat) (Ls' : List Slot) (C : Cx K Z own name code maxL ret R n0 Post) {k : Fin 4} {x : Int32} (hd : decode code pc = .ok (.istore_n k, 1)) (hp : pc + 1 = pc') (hl : storeLocals Ls.toArray k.val (.int x) = some Ls'.toArray) (g : Go K h cells slots pc' Ls' st) : Go K h cells slots pc Ls (.int x :: st) := by
  subst hp; exact g.step fun T locs X t q => XS.istoreN X.here C.1 rfl (hb C.2.1 hd) rfl hl q
theorem w_lstore (pc' : Nat) (Ls' : List Slot) (C : Cx K Z own name code maxL ret R n0 Post) {k : Nat} {x : Int64} (hd : decode code pc = .ok (.lstore k, 2)) (hp : pc + 2 = pc') (hl : storeLocals Ls.toArray k (.long x) = some Ls'.toArray) (g : Go K h cells slots pc' Ls' st) : Go K h cells slots pc Ls (.long x :: st) := by
  subst hp; exact g.step fun T locs X t q => XS.lstore X.here C.1 rfl (hb C.2.1 hd) rfl hl q
theorem w_lstoreN (pc' : Nat) (Ls' : List Slot) (C : Cx K Z own name code maxL ret R n0 Post) {k : Fin 4} {x : Int64} (hd : decode code pc = .ok (.lstore_n k, 1)) (hp : pc + 1 = pc') (hl : storeLocals Ls.toArray k.val (.long x) = some Ls'.toArray) (g : Go K h cells slots pc' Ls' st) : Go K h cells slots pc Ls (.long x :: st) := by
  subst hp; exact g.step fun T locs X t q => XS.lstoreN X.here C.1 rfl (hb C.2.1 hd) rfl hl q
theorem w_astore (pc' : Nat) (Ls' : List Slot) (C : Cx K Z own name code maxL ret R n0 Post) {k : Nat} {x : Value} (hd : decode code pc = .ok (.astore k, 2)) (hp : pc + 2 = pc') (hv : x.isRef = true) (hl : storeLocals Ls.toArray k x = some Ls'.toArray) (g : Go K h cells slots pc' Ls' st) : Go K h cells slots pc Ls (x :: st) := by
  subst hp; exact g.step fun T locs X t q => XS.astore X.here C.1 rfl (hb C.2.1 hd) rfl hv hl q
theorem w_astoreN (pc' : Nat) (Ls' : List Slot) (C : Cx K Z own name code maxL ret R n0 Post) {k : Fin 4} {x : Value} (hd : decode code pc = .ok (.astore_n k, 1)) (hp : pc + 1 = pc') (hv : x.isRef = true) (hl : storeLocals Ls.toArray k.val x = some Ls'.toArray) (g : Go K h cells slots pc' Ls' st) : Go K h cells slots pc Ls (x :: st) := by
  subst hp; exact g.step fun T locs X t q => XS.astoreN X.here C.1 rfl (hb C.2.1 hd) rfl hv hl q
theorem w_iinc (pc' : Nat) (Ls' : List Slot) (C : Cx K Z own name code maxL ret R n0 Post) {k : Nat} {cst : Int} {x z : Int32} (hd : decode code pc = .ok (.iinc k cst, 3)) (hp : pc + 3 = pc') (hl : Ls[k]? = some (.val (.int x))) (hz : x + Int32.ofInt cst = z) (hs : storeLocals Ls.toArray k (.int z) = some Ls'.toArray) (g : Go K h cells slots pc' Ls' st) : Go K h cells slots pc Ls st := by
  subst hp hz; exact g.step fun T locs X t q => XS.iinc X.here C.1 rfl (hb C.2.1 hd) (by simpa using hl) hs q
/-! 2. arithmetic -/
theorem w_iadd (pc' : Nat) (C : Cx K Z own name code maxL ret R n0 Post) {x y : Int32} (hd : decode code pc = .ok (.iadd, 1)) (hp : pc + 1 = pc') (g : Go K h cells slots pc' Ls (.int (x + y) :: st)) : Go K h cells slots pc Ls (.int y :: .int x :: st) := by
  subst hp; exact g.step fun T locs X t q => XS.iadd X.here C.1 rfl (hb C.2.1 hd) rfl q
theorem w_isub (pc' : Nat) (C : Cx K Z own name code maxL ret R n0 Post) {x y : Int32} (hd : decode code pc = .ok (.isub, 1)) (hp : pc + 1 = pc') (g : Go K h cells slots pc' Ls (.int (x - y) :: st)) : Go K h cells slots pc Ls (.int y :: .int x :: st) := by
  subst hp; exact g.step fun T locs X t q => XS.isub X.here C.1 rfl (hb C.2.1 hd) rfl q
theorem w_imul (pc' : Nat) (C : Cx K Z own name code maxL ret R n0 Post) {x y : Int32} (hd : decode code pc = .ok (.imul, 1)) (hp : pc + 1 = pc') (g : Go K h cells slots pc' Ls (.int (x * y) :: st)) : Go K h cells slots pc Ls (.int y :: .int x :: st) := by
  subst hp; exact g.step fun T locs X t q => XS.imul X.here C.1 rfl (hb C.2.1 hd) rfl q
theorem w_iand (pc' : Nat) (C : Cx K Z own name code maxL ret R n0 Post) {x y : Int32} (hd : decode code pc = .ok (.iand, 1)) (hp : pc + 1 = pc') (g : Go K h cells slots pc' Ls (.int (x &&& y) :: st)) : Go K h cells slots pc Ls (.int y :: .int x :: st) := by
  subst hp; exact g.step fun T locs X t q => XS.iand X.here C.1 rfl (hb C.2.1 hd) rfl q
theorem w_ior (pc' : Nat) (C : Cx K Z own name code maxL ret R n0 Post) {x y : Int32} (hd : decode code pc = .ok (.ior, 1)) (hp : pc + 1 = pc') (g : Go K h cells slots pc' Ls (.int (x ||| y) :: st)) : Go K h cells slots pc Ls (.int y :: .int x :: st) := by
  subst hp; exact g.step fun T locs X t q => XS.ior X.here C.1 rfl (hb C.2.1 hd) rfl q
theorem w_ixor (pc' : Nat) (C : Cx K Z own name code maxL ret R n0 Post) {x y : Int32} (hd : decode code pc = .ok (.ixor, 1)) (hp : pc + 1 = pc') (g : Go K h cells slots pc' Ls (.int (x ^^^ y) :: st)) : Go K h cells slots pc Ls (.int y :: .int x :: st) := by
  subst hp; exact g.step fun T locs X t q => XS.ixor X.here C.1 rfl (hb C.2.1 hd) rfl q
theorem w_ishl (pc' : Nat) (C : Cx K Z own name code maxL ret R n0 Post) {x y : Int32} (hd : decode code pc = .ok (.ishl, 1)) (hp : pc + 1 = pc') (g : Go K h cells slots pc' Ls (.int (x <<< (y &&& 31)) :: st)) : Go K h cells slots pc Ls (.int y :: .int x :: st) := by
  subst hp; exact g.step fun T locs X t q => XS.ishl X.here C.1 rfl (hb C.2.1 hd) rfl q
theorem w_ishr (pc' : Nat) (C : Cx K Z own name code maxL ret R n0 Post) {x y : Int32} (hd : decode code pc = .ok (.ishr, 1)) (hp : pc + 1 = pc') (g : Go K h cells slots pc' Ls (.int (x >>> (y &&& 31)) :: st)) : Go K h cells slots pc Ls (.int y :: .int x :: st) := by
  subst hp; exact g.step fun T locs X t q => XS.ishr X.here C.1 rfl (hb C.2.1 hd) rfl q
theorem w_iushr (pc' : Nat) (C : Cx K Z own name code maxL ret R n0 Post) {x y : Int32} (hd : decode code pc = .ok (.iushr, 1)) (hp : pc + 1 = pc') (g : Go K h cells slots pc' Ls (.int ((x.toUInt32 >>> (y &&& 31).toUInt32).toInt32) :: st)) : Go K h cells slots pc Ls (.int y :: .int x :: st) := by
  subst hp; exact g.step fun T locs X t q => XS.iushr X.here C.1 rfl (hb C.2.1 hd) rfl q
theorem w_ladd (pc' : Nat) (C : Cx K Z own name code maxL ret R n0 Post) {x y : Int64} (hd : decode code pc = .ok (.ladd, 1)) (hp : pc + 1 = pc') (g : Go K h cells slots pc' Ls (.long (x + y) :: st)) : Go K h cells slots pc Ls (.long y :: .long x :: st) := by
  subst hp; exact g.step fun T locs X t q => XS.ladd X.here C.1 rfl (hb C.2.1 hd) rfl q
theorem w_lsub (pc' : Nat) (C : Cx K Z own name code maxL ret R n0 Post) {x y : Int64} (hd : decode code pc = .ok (.lsub, 1)) (hp : pc + 1 = pc') (g : Go K h cells slots pc' Ls (.long (x - y) :: st)) : Go K h cells slots pc Ls (.long y :: .long x :: st) := by
  subst hp; exact g.step fun T locs X t q => XS.lsub X.here C.1 rfl (hb C.2.1 hd) rfl q
theorem w_lmul (pc' : Nat) (C : Cx K Z own name code maxL ret R n0 Post) {x y : Int64} (hd : decode code pc = .ok (.lmul, 1)) (hp : pc + 1 = pc') (g : Go K h cells slots pc' Ls (.long (x * y) :: st)) : Go K h cells slots pc Ls (.long y :: .long x :: st) := by
  subst hp; exact g.step fun T locs X t q => XS.lmul X.here C.1 rfl (hb C.2.1 hd) rfl q
theorem w_land (pc' : Nat) (C : Cx K Z own name code maxL ret R n0 Post) {x y : Int64} (hd : decode code pc = .ok (.land, 1)) (hp : pc + 1 = pc') (g : Go K h cells slots pc' Ls (.long (x &&& y) :: st)) : Go K h cells slots pc Ls (.long y :: .long x :: st) := by
  subst hp; exact g.step fun T locs X t q => XS.land X.here C.1 rfl (hb C.2.1 hd) rfl q
theorem w_lor (pc' : Nat) (C : Cx K Z own name code maxL ret R n0 Post) {x y : Int64} (hd : decode code pc = .ok (.lor, 1)) (hp : pc + 1 = pc') (g : Go K h cells slots pc' Ls (.long (x ||| y) :: st)) : Go K h cells slots pc Ls (.long y :: .long x :: st) := by
  subst hp; exact g.step fun T locs X t q => XS.lor X.here C.1 rfl (hb C.2.1 hd) rfl q
theorem w_lxor (pc' : Nat) (C : Cx K Z own name code maxL ret R n0 Post) {x y : Int64} (hd : decode code pc = .ok (.lxor, 1)) (hp : pc + 1 = pc') (g : Go K h cells slots pc' Ls (.long (x ^^^ y) :: st)) : Go K h cells slots pc Ls (.long y :: .long x :: st) := by
  subst hp; exact g.step fun T locs X t q => XS.lxor X.here C.1 rfl (hb C.2.1 hd) rfl q
theorem w_lshl (pc' : Nat) (C : Cx K Z own name code maxL ret R n0 Post) {x : Int64} {y : Int32} (hd : decode code pc = .ok (.lshl, 1)) (hp : pc + 1 = pc') (g : Go K h cells slots pc' Ls (.long (x <<< (y &&& 0x3f).toInt64) :: st)) : Go K h cells slots pc Ls (.int y :: .long x :: st) := by
  subst hp; exact g.step fun T locs X t q => XS.lshl X.here C.1 rfl (hb C.2.1 hd) rfl q
theorem w_lshr (pc' : Nat) (C : Cx K Z own name code maxL ret R n0 Post) {x : Int64} {y : Int32} (hd : decode code pc = .ok (.lshr, 1)) (hp : pc + 1 = pc') (g : Go K h cells slots pc' Ls (.long (x >>> (y &&& 0x3f).toInt64) :: st)) : Go K h cells slots pc Ls (.int y :: .long x :: st) := by
  subst hp; exact g.step fun T locs X t q => XS.lshr X.here C.1 rfl (hb C.2.1 hd) rfl q
theorem w_lushr (pc' : Nat) (C : Cx K Z own name code maxL ret R n0 Post) {x : Int64} {y : Int32} (hd : decode code pc = .ok (.lushr, 1)) (hp : pc + 1 = pc') (g : Go K h cells slots pc' Ls (.long ((x.toUInt64 >>> (y &&& 0x3f).toInt64.toUInt64).toInt64) :: st)) : Go K h cells slots pc Ls (.int y :: .long x :: st) := by
  subst hp; exact g.step fun T locs X t q => XS.lushr X.here C.1 rfl (hb C.2.1 hd) rfl q
theorem w_ineg (pc' : Nat) (C : Cx K Z own name code maxL ret R n0 Post) {x : Int32} (hd : decode code pc = .ok (.ineg, 1)) (hp : pc + 1 = pc') (g : Go K h cells slots pc' Ls (.int (-x) :: st)) : Go K h cells slots pc Ls (.int x :: st) := by
  subst hp; exact g.step fun T locs X t q => XS.ineg X.here C.1 rfl (hb C.2.1 hd) rfl q
theorem w_lneg (pc' : Nat) (C : Cx K Z own name code maxL ret R n0 Post) {x : Int64} (hd : decode code pc = .ok (.lneg, 1)) (hp : pc + 1 = pc') (g : Go K h cells slots pc' Ls (.long (-x) :: st)) : Go K h cells slots pc Ls (.long x :: st) := by
  subst hp; exact g.step fun T locs X t q => XS.lneg X.here C.1 rfl (hb C.2.1 hd) rfl q
theorem w_i2l (pc' : Nat) (C : Cx K Z own name code maxL ret R n0 Post) {x : Int32} (hd : decode code pc = .ok (.i2l, 1)) (hp : pc + 1 = pc') (g : Go K h cells slots pc' Ls (.long (x.toInt64) :: st)) : Go K h cells slots pc Ls (.int x :: st) := by
  subst hp; exact g.step fun T locs X t q => XS.i2l X.here C.1 rfl (hb C.2.1 hd) rfl q
theorem w_l2i (pc' : Nat) (C : Cx K Z own name code maxL ret R n0 Post) {x : Int64} (hd : decode code pc = .ok (.l2i, 1)) (hp : pc + 1 = pc') (g : Go K h cells slots pc' Ls (.int (x.toInt32) :: st)) : Go K h cells slots pc Ls (.long x :: st) := by
  subst hp; exact g.step fun T locs X t q => XS.l2i X.here C.1 rfl (hb C.2.1 hd) rfl q
theorem w_i2b (pc' : Nat) (C : Cx K Z own name code maxL ret R n0 Post) {x : Int32} (hd : decode code pc = .ok (.i2b, 1)) (hp : pc + 1 = pc') (g : Go K h cells slots pc' Ls (.int (x.toInt8.toInt32) :: st)) : Go K h cells slots pc Ls (.int x :: st) := by
  subst hp; exact g.step fun T locs X t q => XS.i2b X.here C.1 rfl (hb C.2.1 hd) rfl q
theorem w_i2s (pc' : Nat) (C : Cx K Z own name code maxL ret R n0 Post) {x : Int32} (hd : decode code pc = .ok (.i2s, 1)) (hp : pc + 1 = pc') (g : Go K h cells slots pc' Ls (.int (x.toInt16.toInt32) :: st)) : Go K h cells slots pc Ls (.int x :: st) := by
  subst hp; exact g.step fun T locs X t q => XS.i2s X.here C.1 rfl (hb C.2.1 hd) rfl q
theorem w_i2c (pc' : Nat) (C : Cx K Z own name code maxL ret R n0 Post) {x : Int32} (hd : decode code pc = .ok (.i2c, 1)) (hp : pc + 1 = pc') (g : Go K h cells slots pc' Ls (.int (x.toUInt32.toUInt16.toUInt32.toInt32) :: st)) : Go K h cells slots pc Ls (.int x :: st) := by
  subst hp; exact g.step fun T locs X t q => XS.i2c X.here C.1 rfl (hb C.2.1 hd) rfl q
theorem w_idiv (pc' : Nat) (C : Cx K Z own name code maxL ret R n0 Post) {x y : Int32} (hd : decode code pc = .ok (.idiv, 1)) (hp : pc + 1 = pc') (hy : y ≠ 0) (g : Go K h cells slots pc' Ls (.int (x / y) :: st)) : Go K h cells slots pc Ls (.int y :: .int x :: st) := by
  subst hp; exact g.step fun T locs X t q => XS.idiv X.here C.1 rfl (hb C.2.1 hd) rfl hy q
theorem w_ldiv (pc' : Nat) (C : Cx K Z own name code maxL ret R n0 Post) {x y : Int64} (hd : decode code pc = .ok (.ldiv, 1)) (hp : pc + 1 = pc') (hy : y ≠ 0) (g : Go K h cells slots pc' Ls (.long (x / y) :: st)) : Go K h cells slots pc Ls (.long y :: .long x :: st) := by
  subst hp; exact g.step fun T locs X t q => XS.ldiv X.here C.1 rfl (hb C.2.1 hd) rfl hy q
theorem w_irem (pc' : Nat) (C : Cx K Z own name code maxL ret R n0 Post) {x y : Int32} (hd : decode code pc = .ok (.irem, 1)) (hp : pc + 1 = pc') (hy : y ≠ 0) (g : Go K h cells slots pc' Ls (.int (x % y) :: st)) : Go K h cells slots pc Ls (.int y :: .int x :: st) := by
  subst hp; exact g.step fun T locs X t q => iremM (g := mkF K.m pc Ls.toArray (.int y :: .int x :: st)) X C.1 rfl (hb C.2.1 hd) rfl hy q
theorem own_lrem (x y : Int64) : x - x / y * y = x % y := by
  apply Int64.toInt_inj.mp
  rw [Int64.toInt_sub, Int64.toInt_mul, Int64.toInt_div, Int64.toInt_mod, Int.tmod_def]
  have h1 := x.le_toInt; have h2 := x.toInt_lt
  have q : ((x.toInt.tdiv y.toInt).bmod (2 ^ 64) * y.toInt).bmod (2 ^ 64) = (x.toInt.tdiv y.toInt * y.toInt).bmod (2 ^ 64) := by rw [Int.bmod_mul_bmod]
  rw [q, Int.sub_bmod_bmod]
  rw [show x.toInt - x.toInt.tdiv y.toInt * y.toInt = x.toInt - y.toInt * x.toInt.tdiv y.toInt from by rw [Int.mul_comm], ← Int.tmod_def]
  have h3 : (x.toInt.tmod y.toInt).natAbs ≤ x.toInt.natAbs := by rw [Int.natAbs_tmod]; exact Nat.mod_le _ _
  have h4 := Int.tmod_nonneg (a := x.toInt) y.toInt
  have h5 := Int.tmod_nonneg (a := -x.toInt) y.toInt
  rw [Int.neg_tmod] at h5
  apply Int.bmod_eq_of_le <;> omega
theorem w_lrem (pc' : Nat) (C : Cx K Z own name code maxL ret R n0 Post) {x y : Int64} (hd : decode code pc = .ok (.lrem, 1)) (hp : pc + 1 = pc') (hy : y ≠ 0) (g : Go K h cells slots pc' Ls (.long (x % y) :: st)) : Go K h cells slots pc Ls (.long y :: .long x :: st) := by
  subst hp; exact g.step fun T locs X t q => XS.lrem X.here C.1 rfl (hb C.2.1 hd) rfl hy (by rw [own_lrem]; exact q)
theorem w_dup (pc' : Nat) (C : Cx K Z own name code maxL ret R n0 Post) {x : Value} (hd : decode code pc = .ok (.dup, 1)) (hp : pc + 1 = pc') (hc : x.category = 1) (g : Go K h cells slots pc' Ls (x :: x :: st)) : Go K h cells slots pc Ls (x :: st) := by
  subst hp; exact g.step fun T locs X t q => XS.dup X.here C.1 rfl (hb C.2.1 hd) rfl hc q
theorem w_pop (pc' : Nat) (C : Cx K Z own name code maxL ret R n0 Post) {x : Value} (hd : decode code pc = .ok (.pop, 1)) (hp : pc + 1 = pc') (hc : x.category = 1) (g : Go K h cells slots pc' Ls st) : Go K h cells slots pc Ls (x :: st) := by
  subst hp; exact g.step fun T locs X t q => XS.pop X.here C.1 rfl (hb C.2.1 hd) rfl hc q
theorem w_dupX1 (pc' : Nat) (C : Cx K Z own name code maxL ret R n0 Post) {x y : Value} (hd : decode code pc = .ok (.dup_x1, 1)) (hp : pc + 1 = pc') (hc : x.category = 1) (hc' : y.category = 1) (g : Go K h cells slots pc' Ls (x :: y :: x :: st)) : Go K h cells slots pc Ls (x :: y :: st) := by
  subst hp; exact g.step fun T locs X t q => XS.dupX1 X.here C.1 rfl (hb C.2.1 hd) rfl hc hc' q
/-! 3. jumps -/
theorem w_goto (pc' : Nat) (C : Cx K Z own name code maxL ret R n0 Post) {o : Int} (hd : decode code pc = .ok (.goto o, 3)) (hp : (pc : Int) + o = (pc' : Nat)) (g : Go K h cells slots pc' Ls st) : Go K h cells slots pc Ls st :=
  g.step fun T locs X t q => XS.goto X.here C.1 rfl (pc0 := pc) (pc' := pc') rfl (hb C.2.1 hd) (by omega) (by omega) q
/-- what a comparison asks, in plain words -/
def cP : ClassFile.Cond → Int32 → Int32 → Prop
  | .eq, x, y => x = y
  | .ne, x, y => ¬ (x = y)
  | .lt, x, y => x.toInt < y.toInt
  | .ge, x, y => y.toInt ≤ x.toInt
  | .gt, x, y => y.toInt < x.toInt
  | .le, x, y => x.toInt ≤ y.toInt
theorem own_icmpT {cd : ClassFile.Cond} {x y : Int32} (q : cP cd x y) : if_icmp.holds cd x y = true := by
  cases cd <;> simp only [cP] at q <;> simp [if_icmp.holds, Int32.lt_iff_toInt_lt, Int32.le_iff_toInt_le] <;> first | exact q | omega
theorem own_icmpF {cd : ClassFile.Cond} {x y : Int32} (q : ¬ cP cd x y) : if_icmp.holds cd x y = false := by
  cases cd <;> simp only [cP] at q <;> simp [if_icmp.holds, Int32.lt_iff_toInt_lt, Int32.le_iff_toInt_le] <;> first | exact q | omega | (simpa using q)
theorem w_icmpY (pc' : Nat) (C : Cx K Z own name code maxL ret R n0 Post) {cd : ClassFile.Cond} {x y : Int32} {o : Int} (hd : decode code pc = .ok (.if_icmp cd o, 3)) (hp : (pc : Int) + o = (pc' : Nat)) (q : cP cd x y) (g : Go K h cells slots pc' Ls st) : Go K h cells slots pc Ls (.int y :: .int x :: st) :=
  g.step fun T locs X t k => XS.icmpYes X.here C.1 rfl (pc0 := pc) (pc' := pc') rfl (hb C.2.1 hd) rfl (own_icmpT q) (by omega) (by omega) k
theorem w_icmpN (pc' : Nat) (C : Cx K Z own name code maxL ret R n0 Post) {cd : ClassFile.Cond} {x y : Int32} {o : Int} (hd : decode code pc = .ok (.if_icmp cd o, 3)) (hp : pc + 3 = pc') (q : ¬ cP cd x y) (g : Go K h cells slots pc' Ls st) : Go K h cells slots pc Ls (.int y :: .int x :: st) := by
  subst hp; exact g.step fun T locs X t k => XS.icmpNo X.here C.1 rfl (hb C.2.1 hd) rfl (own_icmpF q) k
theorem w_icmp (pcY pcN : Nat) (C : Cx K Z own name code maxL ret R n0 Post) {cd : ClassFile.Cond} {x y : Int32} {o : Int} (hd : decode code pc = .ok (.if_icmp cd o, 3)) (hp : (pc : Int) + o = (pcY : Nat)) (hn : pc + 3 = pcN) (gY : cP cd x y → Go K h cells slots pcY Ls st) (gN : ¬ cP cd x y → Go K h cells slots pcN Ls st) : Go K h cells slots pc Ls (.int y :: .int x :: st) := by
  by_cases q : cP cd x y
  · exact w_icmpY pcY C hd hp q (gY q)
  · exact w_icmpN pcN C hd hn q (gN q)
theorem w_ifY (pc' : Nat) (C : Cx K Z own name code maxL ret R n0 Post) {cd : ClassFile.Cond} {x : Int32} {o : Int} (hd : decode code pc = .ok (.ifCond cd o, 3)) (hp : (pc : Int) + o = (pc' : Nat)) (q : cP cd x 0) (g : Go K h cells slots pc' Ls st) : Go K h cells slots pc Ls (.int x :: st) :=
  g.step fun T locs X t k => XS.ifYes X.here C.1 rfl (pc0 := pc) (pc' := pc') rfl (hb C.2.1 hd) rfl ((if0 _ _).trans (own_icmpT q)) (by omega) (by omega) k
theorem w_ifN (pc' : Nat) (C : Cx K Z own name code maxL ret R n0 Post) {cd : ClassFile.Cond} {x : Int32} {o : Int} (hd : decode code pc = .ok (.ifCond cd o, 3)) (hp : pc + 3 = pc') (q : ¬ cP cd x 0) (g : Go K h cells slots pc' Ls st) : Go K h cells slots pc Ls (.int x :: st) := by
  subst hp; exact g.step fun T locs X t k => XS.ifNo X.here C.1 rfl (hb C.2.1 hd) rfl ((if0 _ _).trans (own_icmpF q)) k
theorem w_if (pcY pcN : Nat) (C : Cx K Z own name code maxL ret R n0 Post) {cd : ClassFile.Cond} {x : Int32} {o : Int} (hd : decode code pc = .ok (.ifCond cd o, 3)) (hp : (pc : Int) + o = (pcY : Nat)) (hn : pc + 3 = pcN) (gY : cP cd x 0 → Go K h cells slots pcY Ls st) (gN : ¬ cP cd x 0 → Go K h cells slots pcN Ls st) : Go K h cells slots pc Ls (.int x :: st) := by
  by_cases q : cP cd x 0
  · exact w_ifY pcY C hd hp q (gY q)
  · exact w_ifN pcN C hd hn q (gN q)
/-- lcmp and the branch behind it -/
def cL : ClassFile.Cond → Int64 → Int64 → Prop
  | .eq, x, y => x = y
  | .ne, x, y => ¬ (x = y)
  | .lt, x, y => x.toInt < y.toInt
  | .ge, x, y => y.toInt ≤ x.toInt
  | .gt, x, y => y.toInt < x.toInt
  | .le, x, y => x.toInt ≤ y.toInt
theorem own_lc (cd : ClassFile.Cond) (x y : Int64) : cP cd (lcmpW x y) 0 ↔ cL cd x y := by
  have h1 := lw_lt x y; have h2 := lw_gt x y; have h3 := lw_eq x y
  rw [Int32.lt_iff_toInt_lt, Int64.lt_iff_toInt_lt] at h1 h2
  cases cd <;> simp only [cP, cL]
  · exact h3
  · exact not_congr h3
  · exact h1
  · constructor <;> intro q <;> omega
  · exact h2
  · constructor <;> intro q <;> omega
theorem w_lcmp (pc' : Nat) (C : Cx K Z own name code maxL ret R n0 Post) {x y : Int64} (hd : decode code pc = .ok (.lcmp, 1)) (hp : pc + 1 = pc') (g : Go K h cells slots pc' Ls (.int (lcmpW x y) :: st)) : Go K h cells slots pc Ls (.long y :: .long x :: st) := by
  subst hp; exact g.step fun T locs X t q => XS.lcmp X.here C.1 rfl (hb C.2.1 hd) rfl q
theorem w_lifY (pc1 pc' : Nat) (C : Cx K Z own name code maxL ret R n0 Post) {cd : ClassFile.Cond} {x y : Int64} {o : Int} (hd0 : decode code pc = .ok (.lcmp, 1)) (hp0 : pc + 1 = pc1) (hd : decode code pc1 = .ok (.ifCond cd o, 3)) (hp : (pc1 : Int) + o = (pc' : Nat)) (q : cL cd x y) (g : Go K h cells slots pc' Ls st) : Go K h cells slots pc Ls (.long y :: .long x :: st) :=
  w_lcmp pc1 C hd0 hp0 (w_ifY pc' C hd hp ((own_lc cd x y).mpr q) g)
theorem w_lifN (pc1 pc' : Nat) (C : Cx K Z own name code maxL ret R n0 Post) {cd : ClassFile.Cond} {x y : Int64} {o : Int} (hd0 : decode code pc = .ok (.lcmp, 1)) (hp0 : pc + 1 = pc1) (hd : decode code pc1 = .ok (.ifCond cd o, 3)) (hp : pc1 + 3 = pc') (q : ¬ cL cd x y) (g : Go K h cells slots pc' Ls st) : Go K h cells slots pc Ls (.long y :: .long x :: st) :=
  w_lcmp pc1 C hd0 hp0 (w_ifN pc' C hd hp (fun z => q ((own_lc cd x y).mp z)) g)
theorem w_lif (pc1 pcY pcN : Nat) (C : Cx K Z own name code maxL ret R n0 Post) {cd : ClassFile.Cond} {x y : Int64} {o : Int} (hd0 : decode code pc = .ok (.lcmp, 1)) (hp0 : pc + 1 = pc1) (hd : decode code pc1 = .ok (.ifCond cd o, 3)) (hp : (pc1 : Int) + o = (pcY : Nat)) (hn : pc1 + 3 = pcN) (gY : cL cd x y → Go K h cells slots pcY Ls st) (gN : ¬ cL cd x y → Go K h cells slots pcN Ls st) : Go K h cells slots pc Ls (.long y :: .long x :: st) := by
  by_cases q : cL cd x y
  · exact w_lifY pc1 pcY C hd0 hp0 hd hp q (gY q)
  · exact w_lifN pc1 pcN C hd0 hp0 hd hn q (gN q)
theorem w_nullN (pc' : Nat) (C : Cx K Z own name code maxL ret R n0 Post) {b : Addr} {o : Int} (hd : decode code pc = .ok (.ifnull o, 3)) (hp : pc + 3 = pc') (g : Go K h cells slots pc' Ls st) : Go K h cells slots pc Ls (.ref b :: st) := by
  subst hp; exact g.step fun T locs X t k => XS.ifnullNo X.here C.1 rfl (hb C.2.1 hd) rfl k
theorem w_nonnullY (pc' : Nat) (C : Cx K Z own name code maxL ret R n0 Post) {b : Addr} {o : Int} (hd : decode code pc = .ok (.ifnonnull o, 3)) (hp : (pc : Int) + o = (pc' : Nat)) (g : Go K h cells slots pc' Ls st) : Go K h cells slots pc Ls (.ref b :: st) :=
  g.step fun T locs X t k => XS.ifnonnullYes X.here C.1 rfl (pc0 := pc) (pc' := pc') rfl (hb C.2.1 hd) rfl (by omega) (by omega) k
/-! 4. the end -/
theorem own_ret (C : Cx K Z own name code maxL ret R n0 Post) {v : Option Value} (hv : ret = none → v = none) (hc : cells ≤ R.cells) (hs : slots ≤ R.slots) (hq : Post v h)
    (hend : ∀ T locs, OwnSt K T locs cells slots → ∀ fs, (∀ (f : JFrame) (acts : List Action), f.method = K.m → f.locked = none → f.entered = [] → (doReturn K.e (T.setTop f) acts v).1 = T.setFrames fs) → Steps K.p.tables K.e K.below (T.setTop (mkF K.m pc Ls.toArray st)) (T.setFrames fs)) : Go K h cells slots pc Ls st := by
  obtain ⟨hx, hby, hml, hown, hnm, hret, hlk, hZ, hR, hn0, hPost⟩ := C
  intro T locs X eT N
  obtain ⟨fs, hr, hrun, hended, hW, hsame⟩ := X.leave (v := v) (fun q => hv (hret ▸ q)) hlk
  refine ⟨_, _, hend T locs X fs hr, hrun, hended, v, locs, rfl, ⟨N, ?_⟩, ⟨_, rfl⟩, hW, hsame.mono (by rw [hR]; exact hc) (by rw [hR]; exact hs)⟩
  rw [hPost]
  show Post v T.heap
  rw [eT]; exact hq
theorem w_retN {t : FieldType} (C : Cx K Z own name code maxL (some t) R n0 Post) (ht : t = .boolean ∨ t = .byte ∨ t = .char ∨ t = .short) {z z' : Int32} (hd : decode code pc = .ok (.ireturn, 1)) (hz : nar t z = z') (hc : cells ≤ R.cells) (hs : slots ≤ R.slots) (hq : Post (some (.int z')) h) : Go K h cells slots pc Ls (.int z :: st) := by
  subst hz
  exact own_ret C (fun q => by cases q) hc hs hq fun T locs X fs hr => retN X C.1 C.2.2.2.2.2.1 ht (hb C.2.1 hd) hr
theorem w_retI (C : Cx K Z own name code maxL (some .int) R n0 Post) {z : Int32} (hd : decode code pc = .ok (.ireturn, 1)) (hc : cells ≤ R.cells) (hs : slots ≤ R.slots) (hq : Post (some (.int z)) h) : Go K h cells slots pc Ls (.int z :: st) :=
  own_ret C (fun q => by cases q) hc hs hq fun T locs X fs hr => retOut X C.1 C.2.2.2.2.2.1 rfl (Or.inl ⟨rfl, Or.inl rfl, z, rfl⟩) (hb C.2.1 hd) hr
theorem w_retL (C : Cx K Z own name code maxL (some .long) R n0 Post) {z : Int64} (hd : decode code pc = .ok (.lreturn, 1)) (hc : cells ≤ R.cells) (hs : slots ≤ R.slots) (hq : Post (some (.long z)) h) : Go K h cells slots pc Ls (.long z :: st) :=
  own_ret C (fun q => by cases q) hc hs hq fun T locs X fs hr => retOut X C.1 C.2.2.2.2.2.1 rfl (Or.inr (Or.inl ⟨rfl, rfl, z, rfl⟩)) (hb C.2.1 hd) hr
theorem w_retA {t : FieldType} (C : Cx K Z own name code maxL (some t) R n0 Post) (ht : t.isReference = true) {z : Value} (hz : z.isRef = true) (hn : narrow t z = z) (hd : decode code pc = .ok (.areturn, 1)) (hc : cells ≤ R.cells) (hs : slots ≤ R.slots) (hq : Post (some z) h) : Go K h cells slots pc Ls (z :: st) :=
  own_ret C (fun q => by cases q) hc hs hq fun T locs X fs hr => retOut X C.1 C.2.2.2.2.2.1 hn (Or.inr (Or.inr (Or.inr (Or.inr ⟨rfl, ht, hz⟩)))) (hb C.2.1 hd) hr
theorem w_ret (C : Cx K Z own name code maxL none R n0 Post) (hd : decode code pc = .ok (.return_, 1)) (hc : cells ≤ R.cells) (hs : slots ≤ R.slots) (hq : Post none h) : Go K h cells slots pc Ls [] :=
  own_ret C (fun _ => rfl) hc hs hq fun T locs X fs hr => X.returnOut C.1 C.2.2.2.2.2.1 (hb C.2.1 hd) hr
/-! 5. arrays of ints, bytes .. -/
/-- the array at a holds these ints -/
def Ai (Z : State) (h : Heap) (a : Addr) (ty : FieldType) (vs : List Int32) : Prop := ∃ c : Cell, Arr Z h a c ty ∧ c.slots = (vs.map Value.int).toArray
theorem Ai.lt {a : Addr} {ty : FieldType} {vs : List Int32} (A : Ai Z h a ty vs) : a < h.size := by obtain ⟨c, A, -⟩ := A; exact A.lt
theorem Ai.keep {h' : Heap} {a : Addr} {ty : FieldType} {vs : List Int32} {ws : List Addr} (A : Ai Z h a ty vs) (K : Keep h h' ws) (q : a ∉ ws) : Ai Z h' a ty vs := by
  obtain ⟨c, A, r⟩ := A; exact ⟨c, ⟨K.2.1 a c A.1 q, A.2⟩, r⟩
theorem Ai.ext {h' : Heap} {a : Addr} {ty : FieldType} {vs : List Int32} (A : Ai Z h a ty vs) (E : Ext h h') : Ai Z h' a ty vs := by
  obtain ⟨c, A, r⟩ := A; exact ⟨c, A.ext E, r⟩
theorem own_idx {j : Int32} {i n : Nat} (hj : j.toInt = (i : Int)) (hi : i < n) : ¬ (j < 0 ∨ n ≤ j.toNatClampNeg) ∧ j.toNatClampNeg = i := by
  have q : j.toNatClampNeg = i := by rw [own_clamp, hj]; simp
  refine ⟨?_, q⟩
  rw [q, Int32.lt_iff_toInt_lt, hj]
  simp only [Int32.reduceToInt]
  omega
theorem w_newarr (pc' : Nat) (cap : Nat) (k : Nat) (C : Cx K Z own name code maxL ret R n0 Post) (hn0 : n0 ≤ h.size) {aty : ArrayType} {n : Int32} (hd : decode code pc = .ok (.newarray aty, 2)) (hp : pc + 2 = pc') (w : (Cond.arrayClass (newarray.typeOf aty)).before a0 Z = true) (hdef : defaultValue (newarray.typeOf aty) = .int 0) (hk : n.toInt = (k : Int)) (hcap : k ≤ cap) (hb0 : cap * 8 ≤ 536870912) (hc : cells + 1 ≤ R.cells) (hs : slots + cap ≤ R.slots)
    (g : ∀ h' a, Ext h h' → n0 ≤ a → h.size ≤ a → Ai Z h' a (newarray.typeOf aty) (List.replicate k 0) → n0 ≤ h'.size → Go K h' (cells + 1) (slots + cap) pc' Ls (.ref a :: st)) : Go K h cells slots pc Ls (.int n :: st) := by
  obtain ⟨hx, hby, hml, hown, hnm, hret, hlk, hZ, hR, hn, hPost⟩ := C
  subst hp
  intro T locs X eT N
  have hnn : ¬ n < 0 := by rw [Int32.lt_iff_toInt_lt, hk]; simp only [Int32.reduceToInt]; omega
  have hkn : n.toNatClampNeg = k := by rw [own_clamp, hk]; simp
  obtain ⟨T', h', cA, X', e', E, A, st'⟩ := newP X hx hZ w eT (g := mkF K.m pc Ls.toArray (.int n :: st)) rfl (hb hby hd) rfl hnn (cap := cap) (by omega) hb0 (by rw [hR]; exact hc) (by rw [hR]; exact hs)
  refine OwnDone.of (st' ·) (g h' h.size E hn0 (Nat.le_refl _) ⟨_, A, ?_⟩ (Nat.le_trans hn0 E.1) T' locs X' e' N)
  rw [own_newA, hkn, hdef]
  simp
theorem w_len (pc' : Nat) (z : Int32) (C : Cx K Z own name code maxL ret R n0 Post) {a : Addr} {ty : FieldType} {vs : List Int32} (A : Ai Z h a ty vs) (hd : decode code pc = .ok (.arraylength, 1)) (hp : pc + 1 = pc') (hz : vs.length.toInt32 = z) (g : Go K h cells slots pc' Ls (.int z :: st)) : Go K h cells slots pc Ls (.ref a :: st) := by
  obtain ⟨c, A, hc⟩ := A
  have hn : c.slots.size = vs.length := by rw [hc]; simp
  subst hp hz
  intro T locs X eT N
  refine OwnDone.of (fun t q => X.arraylength C.1 (by rw [eT]; exact A.1) (State.isArrayOf_alike C.2.2.2.2.2.2.2.1.alike A.2.1) (g := mkF K.m pc Ls.toArray (.ref a :: st)) rfl rfl (hb C.2.1 hd) t (by rw [hn]; exact q)) (g T locs X eT N)
theorem w_iaload (pc' : Nat) (i : Nat) (v : Int32) (C : Cx K Z own name code maxL ret R n0 Post) {a : Addr} {vs : List Int32} {j : Int32} (A : Ai Z h a .int vs) (hd : decode code pc = .ok (.iaload, 1)) (hp : pc + 1 = pc') (hj : j.toInt = (i : Int)) (hv : vs[i]? = some v) (g : Go K h cells slots pc' Ls (.int v :: st)) : Go K h cells slots pc Ls (.int j :: .ref a :: st) := by
  obtain ⟨c, A, hc⟩ := A
  have hi : i < vs.length := (List.getElem?_eq_some_iff.mp hv).1
  have hn : c.slots.size = vs.length := by rw [hc]; simp
  obtain ⟨q1, q2⟩ := own_idx (n := c.slots.size) hj (by rw [hn]; exact hi)
  have hat : c.slots[j.toNatClampNeg]? = some (.int v) := by rw [hc, q2]; simp [hv]
  subst hp
  intro T locs X eT N
  exact OwnDone.of (fun t q => X.iaload C.1 (by rw [eT]; exact A.1) (State.isArrayOf_alike C.2.2.2.2.2.2.2.1.alike A.2.1) A.2.2 q1 hat (g := mkF K.m pc Ls.toArray (.int j :: .ref a :: st)) rfl rfl (hb C.2.1 hd) t q) (g T locs X eT N)
theorem w_baload (pc' : Nat) (i : Nat) (v : Int32) (C : Cx K Z own name code maxL ret R n0 Post) {a : Addr} {vs : List Int32} {j : Int32} (A : Ai Z h a .byte vs) (hd : decode code pc = .ok (.baload, 1)) (hp : pc + 1 = pc') (hj : j.toInt = (i : Int)) (hv : vs[i]? = some v) (g : Go K h cells slots pc' Ls (.int v :: st)) : Go K h cells slots pc Ls (.int j :: .ref a :: st) := by
  obtain ⟨c, A, hc⟩ := A
  have hi : i < vs.length := (List.getElem?_eq_some_iff.mp hv).1
  have hn : c.slots.size = vs.length := by rw [hc]; simp
  obtain ⟨q1, q2⟩ := own_idx (n := c.slots.size) hj (by rw [hn]; exact hi)
  have hat : c.slots[j.toNatClampNeg]? = some (.int v) := by rw [hc, q2]; simp [hv]
  subst hp
  intro T locs X eT N
  exact OwnDone.of (fun t q => X.baloadBytes C.1 (by rw [eT]; exact A.1) (State.isArrayOf_alike C.2.2.2.2.2.2.2.1.alike A.2.1) A.2.2 q1 hat (g := mkF K.m pc Ls.toArray (.int j :: .ref a :: st)) rfl rfl (hb C.2.1 hd) t q) (g T locs X eT N)
theorem own_set {h' : Heap} {a : Addr} {ty : FieldType} {vs : List Int32} {c : Cell} {i : Nat} {x : Int32} (A : Arr Z h a c ty) (hc : c.slots = (vs.map Value.int).toArray) (W : Wr h h' a i (.int x)) : Ai Z h' a ty (vs.set i x) :=
  ⟨_, A.same W, by rw [own_setSlot, hc]; simp [List.map_set]⟩
theorem w_iastore (pc' : Nat) (i : Nat) (C : Cx K Z own name code maxL ret R n0 Post) {a : Addr} {vs : List Int32} {j x : Int32} (A : Ai Z h a .int vs) (ha : n0 ≤ a) (hd : decode code pc = .ok (.iastore, 1)) (hp : pc + 1 = pc') (hj : j.toInt = (i : Int)) (hi : i < vs.length)
    (g : ∀ h', Keep h h' [a] → Ai Z h' a .int (vs.set i x) → Go K h' cells slots pc' Ls st) : Go K h cells slots pc Ls (.int x :: .int j :: .ref a :: st) := by
  obtain ⟨c, A, hc⟩ := A
  have hn : c.slots.size = vs.length := by rw [hc]; simp
  obtain ⟨q1, q2⟩ := own_idx (n := c.slots.size) hj (by rw [hn]; exact hi)
  subst hp
  intro T locs X eT N
  obtain ⟨T', h', X', e', W, st'⟩ := stI X C.1 C.2.2.2.2.2.2.2.1 eT A (j := j) (x := x) q1 (g := mkF K.m pc Ls.toArray (.int x :: .int j :: .ref a :: st)) rfl rfl (hb C.2.1 hd)
  rw [q2] at X' W
  exact OwnDone.of (st' ·) (g h' (Keep.of_wr W) (own_set A hc W) T' _ X' e' (Fr.snoc X' N (by rw [C.2.2.2.2.2.2.2.2.2.1]; exact ha)))
theorem w_bastore (pc' : Nat) (i : Nat) (x' : Int32) (C : Cx K Z own name code maxL ret R n0 Post) {a : Addr} {vs : List Int32} {j x : Int32} (A : Ai Z h a .byte vs) (ha : n0 ≤ a) (hd : decode code pc = .ok (.bastore, 1)) (hp : pc + 1 = pc') (hj : j.toInt = (i : Int)) (hi : i < vs.length) (hx' : x.toInt8.toInt32 = x')
    (g : ∀ h', Keep h h' [a] → Ai Z h' a .byte (vs.set i x') → Go K h' cells slots pc' Ls st) : Go K h cells slots pc Ls (.int x :: .int j :: .ref a :: st) := by
  obtain ⟨c, A, hc⟩ := A
  have hn : c.slots.size = vs.length := by rw [hc]; simp
  obtain ⟨q1, q2⟩ := own_idx (n := c.slots.size) hj (by rw [hn]; exact hi)
  subst hp hx'
  intro T locs X eT N
  obtain ⟨T', h', X', e', W, st'⟩ := stB X C.1 C.2.2.2.2.2.2.2.1 eT A (j := j) (x := x) q1 (g := mkF K.m pc Ls.toArray (.int x :: .int j :: .ref a :: st)) rfl rfl (hb C.2.1 hd)
  rw [q2] at X' W
  exact OwnDone.of (st' ·) (g h' (Keep.of_wr W) (own_set A hc W) T' _ X' e' (Fr.snoc X' N (by rw [C.2.2.2.2.2.2.2.2.2.1]; exact ha)))
/-! 6. objects -/
theorem w_new (pc' : Nat) {Cn : String} {n i : Nat} (C : Cx K Z own name code maxL ret R n0 Post) (hn0 : n0 ≤ h.size) (hd : decode code pc = .ok (.new i, 3)) (hp : pc + 3 = pc') (w1 : (Cond.classLink own i Cn).before a0 Z = true) (w2 : (Cond.instantiable Cn n).before a0 Z = true) (w3 : (Cond.initialized Cn).before a0 Z = true) (hc : cells + 1 ≤ R.cells) (hs : slots + n ≤ R.slots)
    (g : ∀ h' a, Ext h h' → n0 ≤ a → h.size ≤ a → Exa Z h' a Cn → (∀ {O nm d : String} {ty : FieldType}, Laid Z a0 Cn O nm d → parseFieldDescriptor d = some ty → Fld Z h' a O nm d (defaultValue ty)) → n0 ≤ h'.size → Go K h' (cells + 1) (slots + n) pc' Ls (.ref a :: st)) : Go K h cells slots pc Ls st := by
  obtain ⟨hx, hby, hml, hown, hnm, hret, hlk, hZ, hR, hn, hPost⟩ := C
  subst hp
  intro T locs X eT N
  obtain ⟨T', h', X', e', E, A, D, -, st'⟩ := newO X hx hZ hown w1 w2 w3 eT (g := mkF K.m pc Ls.toArray st) rfl (hb hby hd) (by rw [hR]; exact hc) (by rw [hR]; exact hs)
  exact OwnDone.of (st' ·) (g h' h.size E hn0 (Nat.le_refl _) A D (Nat.le_trans hn0 E.1) T' locs X' e' N)
theorem w_getF (pc' : Nat) {R0 O n d host : String} {i : Nat} (C : Cx K Z own name code maxL ret R n0 Post) {a : Addr} {v : Value} (F : Fld Z h a O n d v) (hd : decode code pc = .ok (.getfield i, 3)) (hp : pc + 3 = pc') (w : (Cond.fieldLink own i R0 n d).before a0 Z = true ∨ (Cond.fieldLinkNest own i R0 n d host).before a0 Z = true) (via : Via Z R0 O n d) (g : Go K h cells slots pc' Ls (v :: st)) : Go K h cells slots pc Ls (.ref a :: st) := by
  subst hp
  intro T locs X eT N
  obtain ⟨T', X', e', st'⟩ := getF X C.1 C.2.2.2.2.2.2.2.1 C.2.2.2.1 w via eT F (g := mkF K.m pc Ls.toArray (.ref a :: st)) rfl rfl (hb C.2.1 hd)
  exact OwnDone.of (st' ·) (g T' locs X' e' N)
theorem w_putF (pc' : Nat) {R0 O n d host Cn : String} {i kk : Nat} {ty : FieldType} (C : Cx K Z own name code maxL ret R n0 Post) {a : Addr} {v old : Value} (F : Fld Z h a O n d old) (E : Exa Z h a Cn) (ha : n0 ≤ a) (hd : decode code pc = .ok (.putfield i, 3)) (hp : pc + 3 = pc') (w : (Cond.fieldLink own i R0 n d).before a0 Z = true ∨ (Cond.fieldLinkNest own i R0 n d host).before a0 Z = true) (via : Via Z R0 O n d)
    (L : (Cond.lays Cn O n d).before a0 Z = true ∨ ((Cond.laysFinal Cn O n d).before a0 Z = true ∧ own = O ∧ name = "<init>")) (wi : (Cond.instantiable Cn kk).before a0 Z = true) (hty : parseFieldDescriptor d = some ty) (hn : narrow ty v = v) (hf : fits ty v = true)
    (g : ∀ h', Keep h h' [a] → Wr h h' a (Jvm.RoadKit.slotOf Z O n d) v → Fld Z h' a O n d v → Exa Z h' a Cn → Go K h' cells slots pc' Ls st) : Go K h cells slots pc Ls (v :: .ref a :: st) := by
  subst hp
  intro T locs X eT N
  obtain ⟨T', h', X', e', W, st'⟩ := putF X C.1 C.2.2.2.2.2.2.2.1 C.2.2.2.1 w via eT F E (L.imp id fun q => ⟨q.1, q.2.1, C.2.2.2.2.1.trans q.2.2⟩) wi hty hn hf (g := mkF K.m pc Ls.toArray (v :: .ref a :: st)) rfl rfl (hb C.2.1 hd)
  exact OwnDone.of (st' ·) (g h' (Keep.of_wr W) W (F.same W) (E.wr W) T' _ X' e' (Fr.snoc X' N (by rw [C.2.2.2.2.2.2.2.2.2.1]; exact ha)))
theorem w_initO (pc' W : Nat) {i : Nat} (C : Cx K Z own name code maxL ret R n0 Post) {a : Addr} (hd : decode code pc = .ok (.invokespecial i, 3)) (hp : pc + 3 = pc') (w1 : (Cond.methodLink own i Lib.objectInit).before a0 Z = true) (w2 : (Cond.instanceMethod Lib.objectInit).before a0 Z = true) (w3 : (Cond.code Lib.objectInit ⟨#[0xb1]⟩ 1 none).before a0 Z = true)
    (hsz : Ls.length = maxL) (hf : 1 ≤ R.frames) (hW : (st.map fun v => v.category).sum ≤ W) (hl : W + 12 ≤ R.locals) (g : Go K h cells slots pc' Ls st) : Go K h cells slots pc Ls (.ref a :: st) := by
  obtain ⟨hx, hby, hml, hown, hnm, hret, hlk, hZ, hR, hn, hPost⟩ := C
  subst hp
  intro T locs X eT N
  obtain ⟨T', X', e', st'⟩ := initO X hx hZ hown w1 w2 w3 eT (g := mkF K.m pc Ls.toArray (.ref a :: st)) rfl (by rw [hml]; simpa using hsz) rfl (hb hby hd) (by rw [hR]; exact hf) (W := W) (by show 2 * 0 + _ ≤ _; simpa using hW) (by rw [hR]; exact hl)
  exact OwnDone.of (st' ·) (g T' locs X' e' N)
/-! 7. calls -/
theorem w_callS (pc' W : Nat) {y : MethodName} {bytes : ByteArray} {mL i : Nat} {rt : Option FieldType} {rm : Room} {P : Option Value → Heap → Prop} (argsL : List Value) (C : Cx K Z own name code maxL ret R n0 Post) (hd : decode code pc = .ok (.invokestatic i, 3)) (hp : pc + 3 = pc')
    (w1 : (Cond.methodLink own i y).before a0 Z = true) (w2 : (Cond.static y).before a0 Z = true) (w3 : (Cond.initialized y.cls).before a0 Z = true) (w4 : (Cond.code y bytes mL rt).before a0 Z = true) (hy : y.cls ≠ "java/lang/invoke/MethodHandle" ∧ y.cls ≠ "java/lang/invoke/VarHandle")
    (hM : OwnMet K.l y bytes mL rt [] rm Z h n0 argsL.toArray P) {ps : List FieldType} {r : Option FieldType} (hpd : parseMethodDescriptor y.desc = some ⟨ps, r⟩) (hlen : argsL.length = ps.length)
    (hst : st = argsL.reverse ++ rest) (hsz : Ls.length = maxL) (hW : (rest.map fun v => v.category).sum ≤ W) (hf : rm.frames + 1 ≤ R.frames) (hl : W + (mL + 11) + rm.locals ≤ R.locals) (hc : cells + rm.cells ≤ R.cells) (hs : slots + rm.slots ≤ R.slots)
    (g : ∀ v h', P v h' → Go K h' (cells + rm.cells) (slots + rm.slots) pc' Ls (v.toList ++ rest)) : Go K h cells slots pc Ls st := by
  obtain ⟨hx, hby, hml, hown, hnm, hret, hlk, hZ, hR, hn, hPost⟩ := C
  subst hp hst
  intro T locs X eT N
  obtain ⟨v, vm₁, ⟨T', L', k', n'⟩, -, X', ⟨Lc, hQ, l1, y1, z1⟩, st'⟩ := Jvm.LawKit.callS X hx (y := y) hown (mvT hZ w1) (mvT hZ w2) (mvT hZ w3) (mvT hZ w4) hy (backOf (W := W) (Q := fun v h L => Fr n0 L ∧ P v h) hM hZ w4 w3 (by rw [hR]; exact hf) (by rw [hR]; exact hl)) (g := mkF K.m pc Ls.toArray (argsL.reverse ++ rest)) rfl (by rw [hml]; simpa using hsz) (argsL := argsL) (rest := rest) (lenOf hpd hlen) rfl (by show 2 * 0 + _ ≤ _; simpa using hW) (hb hby hd) (fun _ _ => ⟨rfl, eT, by rw [hR]; exact hc, by rw [hR]; exact hs⟩)
  dsimp only [Pt.U, Pt.locs, Pt.cells, Pt.slots] at X' l1 y1 z1 st' hQ
  subst l1 y1 z1
  exact OwnDone.of (st' ·) (g v T'.heap hQ.2 T' _ X' rfl (Fr.app N (by rw [hn]; exact hQ.1)))
theorem w_callI (pc' W : Nat) {y : MethodName} {bytes : ByteArray} {mL i : Nat} {rm : Room} {P : Option Value → Heap → Prop} (argsL : List Value) (C : Cx K Z own name code maxL ret R n0 Post) {a : Addr} (hd : decode code pc = .ok (.invokespecial i, 3)) (hp : pc + 3 = pc') (hy1 : y.name = "<init>")
    (w1 : (Cond.methodLink own i y).before a0 Z = true) (w2 : (Cond.instanceMethod y).before a0 Z = true) (w3 : (Cond.initialized y.cls).before a0 Z = true) (w4 : (Cond.code y bytes mL none).before a0 Z = true) (hy : y.cls ≠ "java/lang/invoke/MethodHandle" ∧ y.cls ≠ "java/lang/invoke/VarHandle")
    (hM : OwnMet K.l y bytes mL none [] rm Z h n0 (.ref a :: argsL).toArray P) {ps : List FieldType} {r : Option FieldType} (hpd : parseMethodDescriptor y.desc = some ⟨ps, r⟩) (hlen : argsL.length = ps.length)
    (hst : st = argsL.reverse ++ .ref a :: rest) (hsz : Ls.length = maxL) (hW : (rest.map fun v => v.category).sum ≤ W) (hf : rm.frames + 1 ≤ R.frames) (hl : W + (mL + 11) + rm.locals ≤ R.locals) (hc : cells + rm.cells ≤ R.cells) (hs : slots + rm.slots ≤ R.slots)
    (g : ∀ v h', P v h' → Go K h' (cells + rm.cells) (slots + rm.slots) pc' Ls (v.toList ++ rest)) : Go K h cells slots pc Ls st := by
  obtain ⟨hx, hby, hml, hown, hnm, hret, hlk, hZ, hR, hn, hPost⟩ := C
  subst hp hst
  intro T locs X eT N
  obtain ⟨v, vm₁, ⟨T', L', k', n'⟩, -, X', ⟨Lc, hQ, l1, y1, z1⟩, st'⟩ := X.specialBack hx (y := y) hy1 hown (mvT hZ w1) (mvT hZ w2) (mvT hZ w4) hy (backOf (W := W) (Q := fun v h L => Fr n0 L ∧ P v h) hM hZ w4 w3 (by rw [hR]; exact hf) (by rw [hR]; exact hl)) (g := mkF K.m pc Ls.toArray (argsL.reverse ++ .ref a :: rest)) rfl (by rw [hml]; simpa using hsz) (Steps.refl _) (a := a) (argsL := argsL) (rest := rest) (lenOf hpd hlen) rfl (by show 2 * 0 + _ ≤ _; simpa using hW) (hb hby hd) (fun _ _ => ⟨rfl, eT, by rw [hR]; exact hc, by rw [hR]; exact hs⟩)
  dsimp only [Pt.U, Pt.locs, Pt.cells, Pt.slots] at X' l1 y1 z1 st' hQ
  subst l1 y1 z1
  exact OwnDone.of (fun t q => st'.trans q) (g v T'.heap hQ.2 T' _ X' rfl (Fr.app N (by rw [hn]; exact hQ.1)))
theorem w_callIN (pc' W : Nat) {host : String} {y : MethodName} {bytes : ByteArray} {mL i : Nat} {rm : Room} {P : Option Value → Heap → Prop} (argsL : List Value) (C : Cx K Z own name code maxL ret R n0 Post) {a : Addr} (hd : decode code pc = .ok (.invokespecial i, 3)) (hp : pc + 3 = pc') (hy1 : y.name = "<init>")
    (w1 : (Cond.methodLinkNest own i y host).before a0 Z = true) (w2 : (Cond.instanceMethod y).before a0 Z = true) (w3 : (Cond.initialized y.cls).before a0 Z = true) (w4 : (Cond.code y bytes mL none).before a0 Z = true) (hy : y.cls ≠ "java/lang/invoke/MethodHandle" ∧ y.cls ≠ "java/lang/invoke/VarHandle")
    (hM : OwnMet K.l y bytes mL none [] rm Z h n0 (.ref a :: argsL).toArray P) {ps : List FieldType} {r : Option FieldType} (hpd : parseMethodDescriptor y.desc = some ⟨ps, r⟩) (hlen : argsL.length = ps.length)
    (hst : st = argsL.reverse ++ .ref a :: rest) (hsz : Ls.length = maxL) (hW : (rest.map fun v => v.category).sum ≤ W) (hf : rm.frames + 1 ≤ R.frames) (hl : W + (mL + 11) + rm.locals ≤ R.locals) (hc : cells + rm.cells ≤ R.cells) (hs : slots + rm.slots ≤ R.slots)
    (g : ∀ v h', P v h' → Go K h' (cells + rm.cells) (slots + rm.slots) pc' Ls (v.toList ++ rest)) : Go K h cells slots pc Ls st := by
  obtain ⟨hx, hby, hml, hown, hnm, hret, hlk, hZ, hR, hn, hPost⟩ := C
  subst hp hst
  intro T locs X eT N
  obtain ⟨v, vm₁, ⟨T', L', k', n'⟩, -, X', ⟨Lc, hQ, l1, y1, z1⟩, st'⟩ := X.specialBackNest hx (y := y) hy1 hown (Cond.methodLinkNest_wide hZ w1 :) (mvT hZ w2) (mvT hZ w4) hy (backOf (W := W) (Q := fun v h L => Fr n0 L ∧ P v h) hM hZ w4 w3 (by rw [hR]; exact hf) (by rw [hR]; exact hl)) (g := mkF K.m pc Ls.toArray (argsL.reverse ++ .ref a :: rest)) rfl (by rw [hml]; simpa using hsz) (Steps.refl _) (a := a) (argsL := argsL) (rest := rest) (lenOf hpd hlen) rfl (by show 2 * 0 + _ ≤ _; simpa using hW) (hb hby hd) (fun _ _ => ⟨rfl, eT, by rw [hR]; exact hc, by rw [hR]; exact hs⟩)
  dsimp only [Pt.U, Pt.locs, Pt.cells, Pt.slots] at X' l1 y1 z1 st' hQ
  subst l1 y1 z1
  exact OwnDone.of (fun t q => st'.trans q) (g v T'.heap hQ.2 T' _ X' rfl (Fr.app N (by rw [hn]; exact hQ.1)))
theorem w_callV (pc' W : Nat) {Cn : String} {y : MethodName} {bytes : ByteArray} {mL i : Nat} {rt : Option FieldType} {rm : Room} {P : Option Value → Heap → Prop} (argsL : List Value) (C : Cx K Z own name code maxL ret R n0 Post) {a : Addr} (E : Exa Z h a Cn) (hd : decode code pc = .ok (.invokevirtual i, 3)) (hp : pc + 3 = pc')
    (w1 : (Cond.methodLink own i y).before a0 Z = true) (w2 : (Cond.declares y).before a0 Z = true) (w5 : (Cond.selects Cn y y).before a0 Z = true) (w6 : (Cond.instanceMethod y).before a0 Z = true) (w3 : (Cond.initialized y.cls).before a0 Z = true) (w4 : (Cond.code y bytes mL rt).before a0 Z = true) (hy : y.cls ≠ "java/lang/invoke/MethodHandle" ∧ y.cls ≠ "java/lang/invoke/VarHandle")
    (hM : OwnMet K.l y bytes mL rt [] rm Z h n0 (.ref a :: argsL).toArray P) {ps : List FieldType} {r : Option FieldType} (hpd : parseMethodDescriptor y.desc = some ⟨ps, r⟩) (hlen : argsL.length = ps.length)
    (hst : st = argsL.reverse ++ .ref a :: rest) (hsz : Ls.length = maxL) (hW : (rest.map fun v => v.category).sum ≤ W) (hf : rm.frames + 1 ≤ R.frames) (hl : W + (mL + 11) + rm.locals ≤ R.locals) (hc : cells + rm.cells ≤ R.cells) (hs : slots + rm.slots ≤ R.slots)
    (g : ∀ v h', P v h' → Go K h' (cells + rm.cells) (slots + rm.slots) pc' Ls (v.toList ++ rest)) : Go K h cells slots pc Ls st := by
  obtain ⟨hx, hby, hml, hown, hnm, hret, hlk, hZ, hR, hn, hPost⟩ := C
  subst hp hst
  intro T locs X eT N
  obtain ⟨cq, kq, qa, qb, qc⟩ := isOf hZ eT E
  obtain ⟨v, vm₁, ⟨T', L', k', n'⟩, -, X', ⟨Lc, hQ, l1, y1, z1⟩, st'⟩ := X.virtualBack hx (y := y) (z := y) hown (mvT hZ w1) (mvT hZ w2) (notFace_of_selects (args := #[]) (mvT hZ w5)) (mvT hZ w5) (mvT hZ w6) hy (backOf (W := W) (Q := fun v h L => Fr n0 L ∧ P v h) hM hZ w4 w3 (by rw [hR]; exact hf) (by rw [hR]; exact hl)) qa qc (g := mkF K.m pc Ls.toArray (argsL.reverse ++ .ref a :: rest)) rfl (by rw [hml]; simpa using hsz) (Steps.refl _) (argsL := argsL) (rest := rest) (lenOf hpd hlen) rfl (by show 2 * 0 + _ ≤ _; simpa using hW) (hb hby hd) (fun _ _ => ⟨rfl, eT, by rw [hR]; exact hc, by rw [hR]; exact hs⟩)
  dsimp only [Pt.U, Pt.locs, Pt.cells, Pt.slots] at X' l1 y1 z1 st' hQ
  subst l1 y1 z1
  exact OwnDone.of (fun t q => st'.trans q) (g v T'.heap hQ.2 T' _ X' rfl (Fr.app N (by rw [hn]; exact hQ.1)))
theorem w_callP (pc' W : Nat) {Cn : String} {y z : MethodName} {bytes : ByteArray} {mL i : Nat} {rt : Option FieldType} {rm : Room} {P : Option Value → Heap → Prop} (argsL : List Value) (C : Cx K Z own name code maxL ret R n0 Post) {a : Addr} (E : Exa Z h a Cn) (hd : decode code pc = .ok (.invokevirtual i, 3)) (hp : pc + 3 = pc')
    (w1 : (Cond.methodLink own i y).before a0 Z = true) (w7 : (Cond.privateMethod y).before a0 Z = true) (w5 : (Cond.selects z.cls z z).before a0 Z = true) (hzy : z.cls = y.cls) (w6 : (Cond.instanceMethod y).before a0 Z = true) (w3 : (Cond.initialized y.cls).before a0 Z = true) (w4 : (Cond.code y bytes mL rt).before a0 Z = true) (hy : y.cls ≠ "java/lang/invoke/MethodHandle" ∧ y.cls ≠ "java/lang/invoke/VarHandle")
    (hM : OwnMet K.l y bytes mL rt [] rm Z h n0 (.ref a :: argsL).toArray P) {ps : List FieldType} {r : Option FieldType} (hpd : parseMethodDescriptor y.desc = some ⟨ps, r⟩) (hlen : argsL.length = ps.length)
    (hst : st = argsL.reverse ++ .ref a :: rest) (hsz : Ls.length = maxL) (hW : (rest.map fun v => v.category).sum ≤ W) (hf : rm.frames + 1 ≤ R.frames) (hl : W + (mL + 11) + rm.locals ≤ R.locals) (hc : cells + rm.cells ≤ R.cells) (hs : slots + rm.slots ≤ R.slots)
    (g : ∀ v h', P v h' → Go K h' (cells + rm.cells) (slots + rm.slots) pc' Ls (v.toList ++ rest)) : Go K h cells slots pc Ls st := by
  obtain ⟨hx, hby, hml, hown, hnm, hret, hlk, hZ, hR, hn, hPost⟩ := C
  subst hp hst
  intro T locs X eT N
  have hpriv : K.s.PrivateAt y := Cond.privateMethod_at (mvP hZ w7 (args := #[]))
  have hsel : (Cond.selects y.cls y y).before K.args K.s = true := by
    obtain ⟨c2, r2, m2, q1, q2, q3, q4, kP, hkP, hkPi⟩ := Cond.selects_spec (mvT hZ w5 (args := #[]))
    exact selects_self_of_private (by rw [← hzy]; exact findClass_of_methodNamed q3) hkP hkPi hpriv (mvT hZ w6) hy
  obtain ⟨cq, q1, q2⟩ := E.cell
  obtain ⟨v, vm₁, ⟨T', L', k', n'⟩, -, X', ⟨Lc, hQ, l1, y1, z1⟩, st'⟩ := X.privateBack hx (y := y) hown (mvT hZ w1) (mvT hZ w6) hsel hpriv (mvT hZ w4) hy (backOf (W := W) (Q := fun v h L => Fr n0 L ∧ P v h) hM hZ w4 w3 (by rw [hR]; exact hf) (by rw [hR]; exact hl)) (g := mkF K.m pc Ls.toArray (argsL.reverse ++ .ref a :: rest)) rfl (by rw [hml]; simpa using hsz) (Steps.refl _) (a := a) (by rw [eT]; exact q1) q2 (argsL := argsL) (rest := rest) (lenOf hpd hlen) rfl (by show 2 * 0 + _ ≤ _; simpa using hW) (hb hby hd) (fun _ _ => ⟨rfl, eT, by rw [hR]; exact hc, by rw [hR]; exact hs⟩)
  dsimp only [Pt.U, Pt.locs, Pt.cells, Pt.slots] at X' l1 y1 z1 st' hQ
  subst l1 y1 z1
  exact OwnDone.of (fun t q => st'.trans q) (g v T'.heap hQ.2 T' _ X' rfl (Fr.app N (by rw [hn]; exact hQ.1)))
theorem Go.more {c' s' : Nat} (g : Go K h c' s' pc Ls st) (h1 : cells ≤ c') (h2 : slots ≤ s') : Go K h cells slots pc Ls st := fun T locs X e N => g T locs (X.more h1 h2) e N
end OwnLaws
/-! 8. numbers -/
theorem own_un (x : Int32) : (x.toUInt32.toNat : Int) = x.toInt % 4294967296 := by
  have h1 : x.toInt = x.toBitVec.toInt := rfl
  have h2 : x.toUInt32.toNat = x.toBitVec.toNat := rfl
  rw [h1, h2, BitVec.toInt_eq_toNat_cond]
  have := x.toBitVec.isLt
  split <;> omega
theorem own_ul (x : Int64) : (x.toUInt64.toNat : Int) = x.toInt % 18446744073709551616 := by
  have h1 : x.toInt = x.toBitVec.toInt := rfl
  have h2 : x.toUInt64.toNat = x.toBitVec.toNat := rfl
  rw [h1, h2, BitVec.toInt_eq_toNat_cond]
  have := x.toBitVec.isLt
  split <;> omega
theorem own_in (u : UInt32) : (u.toInt32).toInt = ((u.toNat : Int) + 2147483648) % 4294967296 - 2147483648 := by
  have h1 : (u.toInt32).toInt = u.toBitVec.toInt := rfl
  have h2 : u.toNat = u.toBitVec.toNat := rfl
  rw [h1, h2, BitVec.toInt_eq_toNat_cond]
  have := u.toBitVec.isLt
  split <;> omega
theorem own_il (u : UInt64) : (u.toInt64).toInt = ((u.toNat : Int) + 9223372036854775808) % 18446744073709551616 - 9223372036854775808 := by
  have h1 : (u.toInt64).toInt = u.toBitVec.toInt := rfl
  have h2 : u.toNat = u.toBitVec.toNat := rfl
  rw [h1, h2, BitVec.toInt_eq_toNat_cond]
  have := u.toBitVec.isLt
  split <;> omega
theorem own_i2b (x : Int32) : (x.toInt8.toInt32).toInt = (x.toInt + 128) % 256 - 128 := by
  rw [Int8.toInt_toInt32, Int32.toInt_toInt8, Int.bmod_def]
  split <;> omega
theorem own_u16 (u : UInt16) : (u.toUInt32.toInt32).toInt = u.toNat := by
  have hu := u.toNat_lt
  rw [own_in, UInt16.toNat_toUInt32]
  omega
theorem own_i2c (x : Int32) : (x.toUInt32.toUInt16.toUInt32.toInt32).toInt = x.toInt % 65536 := by
  rw [own_u16, UInt32.toNat_toUInt16]
  have := own_un x
  omega
theorem own_l2i (x : Int64) : (x.toInt32).toInt = (x.toInt + 2147483648) % 4294967296 - 2147483648 := by
  rw [Int64.toInt_toInt32, Int.bmod_def]
  split <;> omega
theorem own_i2l (x : Int32) : (x.toInt64).toInt = x.toInt := Int32.toInt_toInt64 x
theorem own_iadd (x y : Int32) : (x + y).toInt = (x.toInt + y.toInt + 2147483648) % 4294967296 - 2147483648 := by
  rw [Int32.toInt_add, Int.bmod_def]; split <;> omega
theorem own_isub (x y : Int32) : (x - y).toInt = (x.toInt - y.toInt + 2147483648) % 4294967296 - 2147483648 := by
  rw [Int32.toInt_sub, Int.bmod_def]; split <;> omega
theorem own_imul (x y : Int32) : (x * y).toInt = (x.toInt * y.toInt + 2147483648) % 4294967296 - 2147483648 := by
  rw [Int32.toInt_mul, Int.bmod_def]; split <;> omega
theorem own_ladd (x y : Int64) : (x + y).toInt = (x.toInt + y.toInt + 9223372036854775808) % 18446744073709551616 - 9223372036854775808 := by
  rw [Int64.toInt_add, Int.bmod_def]; split <;> omega
theorem own_lsub (x y : Int64) : (x - y).toInt = (x.toInt - y.toInt + 9223372036854775808) % 18446744073709551616 - 9223372036854775808 := by
  rw [Int64.toInt_sub, Int.bmod_def]; split <;> omega
theorem own_iushr (x : Int32) {n : UInt32} (k : Nat) (hn : n.toNat = k) (h0 : 0 < k) (hk : k < 32) : ((x.toUInt32 >>> n).toInt32).toInt = x.toInt % 4294967296 / 2 ^ k := by
  have h1 : (x.toUInt32 >>> n).toNat = x.toUInt32.toNat / 2 ^ k := by rw [UInt32.toNat_shiftRight, hn, Nat.mod_eq_of_lt hk, Nat.shiftRight_eq_div_pow]
  have h2 := own_un x
  have h3 : x.toUInt32.toNat / 2 ^ k < 2147483648 := by
    have q : x.toUInt32.toNat < 4294967296 := x.toUInt32.toNat_lt
    have r : 2 ^ 1 ≤ 2 ^ k := Nat.pow_le_pow_right (by omega) h0
    exact Nat.div_lt_of_lt_mul (by omega)
  rw [own_in, h1, ← h2]
  have h4 : ((x.toUInt32.toNat : Int)) / 2 ^ k = ((x.toUInt32.toNat / 2 ^ k : Nat) : Int) := by simp
  rw [h4]
  omega
theorem own_lushr (x : Int64) {n : UInt64} (k : Nat) (hn : n.toNat = k) (h0 : 0 < k) (hk : k < 64) : ((x.toUInt64 >>> n).toInt64).toInt = x.toInt % 18446744073709551616 / 2 ^ k := by
  have h1 : (x.toUInt64 >>> n).toNat = x.toUInt64.toNat / 2 ^ k := by rw [UInt64.toNat_shiftRight, hn, Nat.mod_eq_of_lt hk, Nat.shiftRight_eq_div_pow]
  have h2 := own_ul x
  have h3 : x.toUInt64.toNat / 2 ^ k < 9223372036854775808 := by
    have q : x.toUInt64.toNat < 18446744073709551616 := x.toUInt64.toNat_lt
    have r : 2 ^ 1 ≤ 2 ^ k := Nat.pow_le_pow_right (by omega) h0
    exact Nat.div_lt_of_lt_mul (by omega)
  rw [own_il, h1, ← h2]
  have h4 : ((x.toUInt64.toNat : Int)) / 2 ^ k = ((x.toUInt64.toNat / 2 ^ k : Nat) : Int) := by simp
  rw [h4]
  omega
theorem own_mask (x m : Int32) (k : Nat) (hk : k < 32) (hm : m.toBitVec.toNat = 2 ^ k - 1) : (x &&& m).toInt = x.toInt % 2 ^ k := Jvm.Kit.i32_mask x m hk hm
theorem own_maskL (x m : Int64) (k : Nat) (hk : k < 64) (hm : m.toBitVec.toNat = 2 ^ k - 1) : (x &&& m).toInt = x.toInt % 2 ^ k := Jvm.Kit.i64_mask x m hk hm
theorem own_orN (a b q k : Nat) (ha : a < 2 ^ k) (hb : b = 2 ^ k * q) : a ||| b = a + b := by
  rw [Nat.or_comm, hb, ← Nat.two_pow_add_eq_or_of_lt ha, Nat.add_comm]
theorem own_or (x y : Int32) (k : Nat) (q : Nat) (h0 : 0 ≤ x.toInt) (h1 : x.toInt < 2 ^ k) (h2 : y.toInt = 2 ^ k * (q : Int)) (h3 : x.toInt + y.toInt < 2147483648) : (x ||| y).toInt = x.toInt + y.toInt := by
  have e1 := own_un x; have e2 := own_un y
  have n2 : (0 : Int) ≤ y.toInt := by rw [h2]; exact Int.mul_nonneg (Int.le_of_lt (Int.pow_pos (by decide))) (by omega)
  have a1 : x.toUInt32.toNat < 2 ^ k := by
    have : (x.toUInt32.toNat : Int) < ((2 ^ k : Nat) : Int) := by rw [e1, Int.natCast_pow]; have := x.toInt_lt; have := Int.emod_eq_of_lt h0 (by omega : x.toInt < 4294967296); rw [this]; exact h1
    omega
  have a2 : y.toUInt32.toNat = 2 ^ k * q := by
    have : (y.toUInt32.toNat : Int) = ((2 ^ k * q : Nat) : Int) := by rw [e2, Int.natCast_mul, Int.natCast_pow]; have := y.toInt_lt; rw [Int.emod_eq_of_lt n2 (by omega)]; exact h2
    omega
  have e3 : (x ||| y).toUInt32.toNat = x.toUInt32.toNat ||| y.toUInt32.toNat := rfl
  have e4 := own_un (x ||| y)
  rw [e3, own_orN _ _ q k a1 a2] at e4
  have r1 := (x ||| y).toInt_lt; have r2 := (x ||| y).le_toInt
  have s1 := x.toInt_lt; have s2 := y.toInt_lt
  omega
theorem own_xor1 (x : Int32) : (x ^^^ 1).toInt = x.toInt + 1 - 2 * (x.toInt % 2) := by
  have e1 := own_un x
  have e3 : (x ^^^ 1).toUInt32.toNat = x.toUInt32.toNat ^^^ 1 := rfl
  have e4 := own_un (x ^^^ 1)
  rw [e3] at e4
  have d1 : (x.toUInt32.toNat ^^^ 1) / 2 = x.toUInt32.toNat / 2 := by rw [Nat.xor_div_two]; simp
  have d2 : (x.toUInt32.toNat ^^^ 1) % 2 = (x.toUInt32.toNat + 1) % 2 := by
    have t0 : (x.toUInt32.toNat ^^^ 1).testBit 0 = (x.toUInt32.toNat.testBit 0 ^^ (1 : Nat).testBit 0) := Nat.testBit_xor _ _ _
    rw [Nat.testBit_zero, Nat.testBit_zero, Nat.testBit_zero] at t0
    rcases Nat.mod_two_eq_zero_or_one x.toUInt32.toNat with q | q <;> rcases Nat.mod_two_eq_zero_or_one (x.toUInt32.toNat ^^^ 1) with r | r <;> rw [q, r] at t0 <;> first | (exfalso; revert t0; decide) | omega
  have r1 := (x ^^^ 1).toInt_lt; have r2 := (x ^^^ 1).le_toInt
  have s1 := x.toInt_lt; have s2 := x.le_toInt
  omega
theorem own_eqi {x y : Int32} : x = y ↔ x.toInt = y.toInt := Int32.toInt_inj.symm
theorem own_eqli {x y : Int64} : x = y ↔ x.toInt = y.toInt := Int64.toInt_inj.symm
theorem own_eq {x y : Int32} (h : x.toInt = y.toInt) : x = y := Int32.toInt_inj.mp h
theorem own_eqL {x y : Int64} (h : x.toInt = y.toInt) : x = y := Int64.toInt_inj.mp h
theorem own_ne {x y : Int32} (h : ¬ x = y) : x.toInt ≠ y.toInt := fun q => h (Int32.toInt_inj.mp q)
theorem own_neL {x y : Int64} (h : ¬ x = y) : x.toInt ≠ y.toInt := fun q => h (Int64.toInt_inj.mp q)
theorem own_or32N (n : Nat) : n ||| 32 = n + 32 - 32 * (n / 32 % 2) := by
  have hs : ∀ s, s < 64 → s ||| 32 = s + 32 - 32 * (s / 32 % 2) ∧ s ||| 32 < 64 := by decide
  have h1 := hs (n % 64) (Nat.mod_lt _ (by decide))
  have h2 : n = 2 ^ 6 * (n / 64) ||| (n % 64) := by rw [← Nat.two_pow_add_eq_or_of_lt (i := 6) (Nat.mod_lt _ (by decide))]; omega
  have h3 : n ||| 32 = 2 ^ 6 * (n / 64) + (n % 64 ||| 32) := by
    rw [Nat.two_pow_add_eq_or_of_lt (i := 6) h1.2, ← Nat.or_assoc, ← h2]
  rw [h3, h1.1]
  omega
theorem own_or32 (x : Int32) (h0 : 0 ≤ x.toInt) (h1 : x.toInt < 65536) : (x ||| 32).toInt = x.toInt + 32 - 32 * (x.toInt / 32 % 2) := by
  have e1 := own_un x; have e4 := own_un (x ||| 32)
  have e3 : (x ||| 32).toUInt32.toNat = x.toUInt32.toNat ||| 32 := rfl
  rw [e3, own_or32N] at e4
  have r1 := (x ||| 32).toInt_lt; have r2 := (x ||| 32).le_toInt
  omega
theorem d4_0 : decode jdk_65_method_103_code 0 = .ok (.iconst 0, 1) := by decide +kernel
theorem d4_1 : decode jdk_65_method_103_code 1 = .ok (.istore_n 2, 1) := by decide +kernel
theorem d4_2 : decode jdk_65_method_103_code 2 = .ok (.aload_n 0, 1) := by decide +kernel
theorem d4_3 : decode jdk_65_method_103_code 3 = .ok (.arraylength, 1) := by decide +kernel
theorem d4_4 : decode jdk_65_method_103_code 4 = .ok (.istore_n 3, 1) := by decide +kernel
theorem d4_5 : decode jdk_65_method_103_code 5 = .ok (.iload_n 2, 1) := by decide +kernel
theorem d4_6 : decode jdk_65_method_103_code 6 = .ok (.iload_n 3, 1) := by decide +kernel
theorem d4_7 : decode jdk_65_method_103_code 7 = .ok (.if_icmp .ge 13, 3) := by decide +kernel
theorem d4_10 : decode jdk_65_method_103_code 10 = .ok (.aload_n 0, 1) := by decide +kernel
theorem d4_11 : decode jdk_65_method_103_code 11 = .ok (.iload_n 2, 1) := by decide +kernel
theorem d4_12 : decode jdk_65_method_103_code 12 = .ok (.iload_n 1, 1) := by decide +kernel
theorem d4_13 : decode jdk_65_method_103_code 13 = .ok (.iastore, 1) := by decide +kernel
theorem d4_14 : decode jdk_65_method_103_code 14 = .ok (.iinc 2 1, 3) := by decide +kernel
theorem d4_17 : decode jdk_65_method_103_code 17 = .ok (.goto (-12), 3) := by decide +kernel
theorem d4_20 : decode jdk_65_method_103_code 20 = .ok (.return_, 1) := by decide +kernel
theorem pn_java_util_Arrays : plainName "java/util/Arrays" = true := by first | (simp [plainName, overriddenIn]; done) | decide +kernel
theorem pd_aII_to_V : parseMethodDescriptor "([II)V" = some ⟨[(.array .int), .int], none⟩ := by decide +kernel
theorem d3_0 : decode prog_34_method_8_code 0 = .ok (.iload_n 0, 1) := by decide +kernel
theorem d3_1 : decode prog_34_method_8_code 1 = .ok (.newarray .int, 2) := by decide +kernel
theorem d3_3 : decode prog_34_method_8_code 3 = .ok (.astore_n 1, 1) := by decide +kernel
theorem d3_4 : decode prog_34_method_8_code 4 = .ok (.aload_n 1, 1) := by decide +kernel
theorem d3_5 : decode prog_34_method_8_code 5 = .ok (.iconst (-1), 1) := by decide +kernel
theorem d3_6 : decode prog_34_method_8_code 6 = .ok (.invokestatic 38, 3) := by decide +kernel
theorem d3_9 : decode prog_34_method_8_code 9 = .ok (.aload_n 1, 1) := by decide +kernel
theorem d3_10 : decode prog_34_method_8_code 10 = .ok (.areturn, 1) := by decide +kernel
theorem pn_com_example_ontology_path_queries_ontologypathqueries_engine_IntSet : plainName "com/example/ontology_path_queries/ontologypathqueries/engine/IntSet" = true := by first | (simp [plainName, overriddenIn]; done) | decide +kernel
theorem pd_I_to_aI : parseMethodDescriptor "(I)[I" = some ⟨[.int], some (.array .int)⟩ := by decide +kernel
theorem d1_0 : decode prog_34_method_1_code 0 = .ok (.aload_n 0, 1) := by decide +kernel
theorem d1_1 : decode prog_34_method_1_code 1 = .ok (.invokespecial 1, 3) := by decide +kernel
theorem d1_4 : decode prog_34_method_1_code 4 = .ok (.aload_n 0, 1) := by decide +kernel
theorem d1_5 : decode prog_34_method_1_code 5 = .ok (.bipush 8, 2) := by decide +kernel
theorem d1_7 : decode prog_34_method_1_code 7 = .ok (.invokestatic 7, 3) := by decide +kernel
theorem d1_10 : decode prog_34_method_1_code 10 = .ok (.putfield 13, 3) := by decide +kernel
theorem d1_13 : decode prog_34_method_1_code 13 = .ok (.return_, 1) := by decide +kernel
theorem pd__to_V : parseMethodDescriptor "()V" = some ⟨[], none⟩ := by decide +kernel
theorem d7_0 : decode prog_34_method_6_code 0 = .ok (.aload_n 0, 1) := by decide +kernel
theorem d7_1 : decode prog_34_method_6_code 1 = .ok (.getfield 13, 3) := by decide +kernel
theorem d7_4 : decode prog_34_method_6_code 4 = .ok (.arraylength, 1) := by decide +kernel
theorem d7_5 : decode prog_34_method_6_code 5 = .ok (.iconst 1, 1) := by decide +kernel
theorem d7_6 : decode prog_34_method_6_code 6 = .ok (.isub, 1) := by decide +kernel
theorem d7_7 : decode prog_34_method_6_code 7 = .ok (.istore_n 2, 1) := by decide +kernel
theorem d7_8 : decode prog_34_method_6_code 8 = .ok (.iload_n 1, 1) := by decide +kernel
theorem d7_9 : decode prog_34_method_6_code 9 = .ok (.ldc 37, 2) := by decide +kernel
theorem d7_11 : decode prog_34_method_6_code 11 = .ok (.imul, 1) := by decide +kernel
theorem d7_12 : decode prog_34_method_6_code 12 = .ok (.istore_n 3, 1) := by decide +kernel
theorem d7_13 : decode prog_34_method_6_code 13 = .ok (.iload_n 3, 1) := by decide +kernel
theorem d7_14 : decode prog_34_method_6_code 14 = .ok (.iload_n 3, 1) := by decide +kernel
theorem d7_15 : decode prog_34_method_6_code 15 = .ok (.bipush 16, 2) := by decide +kernel
theorem d7_17 : decode prog_34_method_6_code 17 = .ok (.iushr, 1) := by decide +kernel
theorem d7_18 : decode prog_34_method_6_code 18 = .ok (.ixor, 1) := by decide +kernel
theorem d7_19 : decode prog_34_method_6_code 19 = .ok (.iload_n 2, 1) := by decide +kernel
theorem d7_20 : decode prog_34_method_6_code 20 = .ok (.iand, 1) := by decide +kernel
theorem d7_21 : decode prog_34_method_6_code 21 = .ok (.istore 4, 2) := by decide +kernel
theorem d7_23 : decode prog_34_method_6_code 23 = .ok (.aload_n 0, 1) := by decide +kernel
theorem d7_24 : decode prog_34_method_6_code 24 = .ok (.getfield 13, 3) := by decide +kernel
theorem d7_27 : decode prog_34_method_6_code 27 = .ok (.iload 4, 2) := by decide +kernel
theorem d7_29 : decode prog_34_method_6_code 29 = .ok (.iaload, 1) := by decide +kernel
theorem d7_30 : decode prog_34_method_6_code 30 = .ok (.iconst (-1), 1) := by decide +kernel
theorem d7_31 : decode prog_34_method_6_code 31 = .ok (.if_icmp .eq 25, 3) := by decide +kernel
theorem d7_34 : decode prog_34_method_6_code 34 = .ok (.aload_n 0, 1) := by decide +kernel
theorem d7_35 : decode prog_34_method_6_code 35 = .ok (.getfield 13, 3) := by decide +kernel
theorem d7_38 : decode prog_34_method_6_code 38 = .ok (.iload 4, 2) := by decide +kernel
theorem d7_40 : decode prog_34_method_6_code 40 = .ok (.iaload, 1) := by decide +kernel
theorem d7_41 : decode prog_34_method_6_code 41 = .ok (.iload_n 1, 1) := by decide +kernel
theorem d7_42 : decode prog_34_method_6_code 42 = .ok (.if_icmp .eq 14, 3) := by decide +kernel
theorem d7_45 : decode prog_34_method_6_code 45 = .ok (.iload 4, 2) := by decide +kernel
theorem d7_47 : decode prog_34_method_6_code 47 = .ok (.iconst 1, 1) := by decide +kernel
theorem d7_48 : decode prog_34_method_6_code 48 = .ok (.iadd, 1) := by decide +kernel
theorem d7_49 : decode prog_34_method_6_code 49 = .ok (.iload_n 2, 1) := by decide +kernel
theorem d7_50 : decode prog_34_method_6_code 50 = .ok (.iand, 1) := by decide +kernel
theorem d7_51 : decode prog_34_method_6_code 51 = .ok (.istore 4, 2) := by decide +kernel
theorem d7_53 : decode prog_34_method_6_code 53 = .ok (.goto (-30), 3) := by decide +kernel
theorem d7_56 : decode prog_34_method_6_code 56 = .ok (.iload 4, 2) := by decide +kernel
theorem d7_58 : decode prog_34_method_6_code 58 = .ok (.ireturn, 1) := by decide +kernel
theorem pd_I_to_I : parseMethodDescriptor "(I)I" = some ⟨[.int], some .int⟩ := by decide +kernel
theorem d10_0 : decode prog_34_method_7_code 0 = .ok (.aload_n 0, 1) := by decide +kernel
theorem d10_1 : decode prog_34_method_7_code 1 = .ok (.getfield 13, 3) := by decide +kernel
theorem d10_4 : decode prog_34_method_7_code 4 = .ok (.astore_n 1, 1) := by decide +kernel
theorem d10_5 : decode prog_34_method_7_code 5 = .ok (.aload_n 0, 1) := by decide +kernel
theorem d10_6 : decode prog_34_method_7_code 6 = .ok (.iconst 2, 1) := by decide +kernel
theorem d10_7 : decode prog_34_method_7_code 7 = .ok (.aload_n 1, 1) := by decide +kernel
theorem d10_8 : decode prog_34_method_7_code 8 = .ok (.arraylength, 1) := by decide +kernel
theorem d10_9 : decode prog_34_method_7_code 9 = .ok (.imul, 1) := by decide +kernel
theorem d10_10 : decode prog_34_method_7_code 10 = .ok (.invokestatic 7, 3) := by decide +kernel
theorem d10_13 : decode prog_34_method_7_code 13 = .ok (.putfield 13, 3) := by decide +kernel
theorem d10_16 : decode prog_34_method_7_code 16 = .ok (.aload_n 1, 1) := by decide +kernel
theorem d10_17 : decode prog_34_method_7_code 17 = .ok (.astore_n 2, 1) := by decide +kernel
theorem d10_18 : decode prog_34_method_7_code 18 = .ok (.aload_n 2, 1) := by decide +kernel
theorem d10_19 : decode prog_34_method_7_code 19 = .ok (.arraylength, 1) := by decide +kernel
theorem d10_20 : decode prog_34_method_7_code 20 = .ok (.istore_n 3, 1) := by decide +kernel
theorem d10_21 : decode prog_34_method_7_code 21 = .ok (.iconst 0, 1) := by decide +kernel
theorem d10_22 : decode prog_34_method_7_code 22 = .ok (.istore 4, 2) := by decide +kernel
theorem d10_24 : decode prog_34_method_7_code 24 = .ok (.iload 4, 2) := by decide +kernel
theorem d10_26 : decode prog_34_method_7_code 26 = .ok (.iload_n 3, 1) := by decide +kernel
theorem d10_27 : decode prog_34_method_7_code 27 = .ok (.if_icmp .ge 34, 3) := by decide +kernel
theorem d10_30 : decode prog_34_method_7_code 30 = .ok (.aload_n 2, 1) := by decide +kernel
theorem d10_31 : decode prog_34_method_7_code 31 = .ok (.iload 4, 2) := by decide +kernel
theorem d10_33 : decode prog_34_method_7_code 33 = .ok (.iaload, 1) := by decide +kernel
theorem d10_34 : decode prog_34_method_7_code 34 = .ok (.istore 5, 2) := by decide +kernel
theorem d10_36 : decode prog_34_method_7_code 36 = .ok (.iload 5, 2) := by decide +kernel
theorem d10_38 : decode prog_34_method_7_code 38 = .ok (.iconst (-1), 1) := by decide +kernel
theorem d10_39 : decode prog_34_method_7_code 39 = .ok (.if_icmp .eq 16, 3) := by decide +kernel
theorem d10_42 : decode prog_34_method_7_code 42 = .ok (.aload_n 0, 1) := by decide +kernel
theorem d10_43 : decode prog_34_method_7_code 43 = .ok (.getfield 13, 3) := by decide +kernel
theorem d10_46 : decode prog_34_method_7_code 46 = .ok (.aload_n 0, 1) := by decide +kernel
theorem d10_47 : decode prog_34_method_7_code 47 = .ok (.iload 5, 2) := by decide +kernel
theorem d10_49 : decode prog_34_method_7_code 49 = .ok (.invokevirtual 26, 3) := by decide +kernel
theorem d10_52 : decode prog_34_method_7_code 52 = .ok (.iload 5, 2) := by decide +kernel
theorem d10_54 : decode prog_34_method_7_code 54 = .ok (.iastore, 1) := by decide +kernel
theorem d10_55 : decode prog_34_method_7_code 55 = .ok (.iinc 4 1, 3) := by decide +kernel
theorem d10_58 : decode prog_34_method_7_code 58 = .ok (.goto (-34), 3) := by decide +kernel
theorem d10_61 : decode prog_34_method_7_code 61 = .ok (.return_, 1) := by decide +kernel
theorem d6_0 : decode prog_34_method_2_code 0 = .ok (.iload_n 1, 1) := by decide +kernel
theorem d6_1 : decode prog_34_method_2_code 1 = .ok (.ifCond .ge 17, 3) := by decide +kernel
theorem d6_4 : decode prog_34_method_2_code 4 = .ok (.new 17, 3) := by decide +kernel
theorem d6_7 : decode prog_34_method_2_code 7 = .ok (.dup, 1) := by decide +kernel
theorem d6_8 : decode prog_34_method_2_code 8 = .ok (.iload_n 1, 1) := by decide +kernel
theorem d6_14 : decode prog_34_method_2_code 14 = .ok (.invokespecial 23, 3) := by decide +kernel
theorem d6_17 : decode prog_34_method_2_code 17 = .ok (.athrow, 1) := by decide +kernel
theorem d6_18 : decode prog_34_method_2_code 18 = .ok (.aload_n 0, 1) := by decide +kernel
theorem d6_19 : decode prog_34_method_2_code 19 = .ok (.iload_n 1, 1) := by decide +kernel
theorem d6_20 : decode prog_34_method_2_code 20 = .ok (.invokevirtual 26, 3) := by decide +kernel
theorem d6_23 : decode prog_34_method_2_code 23 = .ok (.istore_n 2, 1) := by decide +kernel
theorem d6_24 : decode prog_34_method_2_code 24 = .ok (.aload_n 0, 1) := by decide +kernel
theorem d6_25 : decode prog_34_method_2_code 25 = .ok (.getfield 13, 3) := by decide +kernel
theorem d6_28 : decode prog_34_method_2_code 28 = .ok (.iload_n 2, 1) := by decide +kernel
theorem d6_29 : decode prog_34_method_2_code 29 = .ok (.iaload, 1) := by decide +kernel
theorem d6_30 : decode prog_34_method_2_code 30 = .ok (.iload_n 1, 1) := by decide +kernel
theorem d6_31 : decode prog_34_method_2_code 31 = .ok (.if_icmp .ne 5, 3) := by decide +kernel
theorem d6_34 : decode prog_34_method_2_code 34 = .ok (.iconst 0, 1) := by decide +kernel
theorem d6_35 : decode prog_34_method_2_code 35 = .ok (.ireturn, 1) := by decide +kernel
theorem d6_36 : decode prog_34_method_2_code 36 = .ok (.aload_n 0, 1) := by decide +kernel
theorem d6_37 : decode prog_34_method_2_code 37 = .ok (.getfield 13, 3) := by decide +kernel
theorem d6_40 : decode prog_34_method_2_code 40 = .ok (.iload_n 2, 1) := by decide +kernel
theorem d6_41 : decode prog_34_method_2_code 41 = .ok (.iload_n 1, 1) := by decide +kernel
theorem d6_42 : decode prog_34_method_2_code 42 = .ok (.iastore, 1) := by decide +kernel
theorem d6_43 : decode prog_34_method_2_code 43 = .ok (.aload_n 0, 1) := by decide +kernel
theorem d6_44 : decode prog_34_method_2_code 44 = .ok (.dup, 1) := by decide +kernel
theorem d6_45 : decode prog_34_method_2_code 45 = .ok (.getfield 30, 3) := by decide +kernel
theorem d6_48 : decode prog_34_method_2_code 48 = .ok (.iconst 1, 1) := by decide +kernel
theorem d6_49 : decode prog_34_method_2_code 49 = .ok (.iadd, 1) := by decide +kernel
theorem d6_50 : decode prog_34_method_2_code 50 = .ok (.putfield 30, 3) := by decide +kernel
theorem d6_53 : decode prog_34_method_2_code 53 = .ok (.iconst 2, 1) := by decide +kernel
theorem d6_54 : decode prog_34_method_2_code 54 = .ok (.aload_n 0, 1) := by decide +kernel
theorem d6_55 : decode prog_34_method_2_code 55 = .ok (.getfield 30, 3) := by decide +kernel
theorem d6_58 : decode prog_34_method_2_code 58 = .ok (.imul, 1) := by decide +kernel
theorem d6_59 : decode prog_34_method_2_code 59 = .ok (.aload_n 0, 1) := by decide +kernel
theorem d6_60 : decode prog_34_method_2_code 60 = .ok (.getfield 13, 3) := by decide +kernel
theorem d6_63 : decode prog_34_method_2_code 63 = .ok (.arraylength, 1) := by decide +kernel
theorem d6_64 : decode prog_34_method_2_code 64 = .ok (.if_icmp .le 7, 3) := by decide +kernel
theorem d6_67 : decode prog_34_method_2_code 67 = .ok (.aload_n 0, 1) := by decide +kernel
theorem d6_68 : decode prog_34_method_2_code 68 = .ok (.invokevirtual 34, 3) := by decide +kernel
theorem d6_71 : decode prog_34_method_2_code 71 = .ok (.iconst 1, 1) := by decide +kernel
theorem d6_72 : decode prog_34_method_2_code 72 = .ok (.ireturn, 1) := by decide +kernel
theorem pd_I_to_Z : parseMethodDescriptor "(I)Z" = some ⟨[.int], some .boolean⟩ := by decide +kernel
theorem d5_0 : decode prog_34_method_5_code 0 = .ok (.aload_n 0, 1) := by decide +kernel
theorem d5_1 : decode prog_34_method_5_code 1 = .ok (.getfield 30, 3) := by decide +kernel
theorem d5_4 : decode prog_34_method_5_code 4 = .ok (.newarray .int, 2) := by decide +kernel
theorem d5_6 : decode prog_34_method_5_code 6 = .ok (.astore_n 1, 1) := by decide +kernel
theorem d5_7 : decode prog_34_method_5_code 7 = .ok (.iconst 0, 1) := by decide +kernel
theorem d5_8 : decode prog_34_method_5_code 8 = .ok (.istore_n 2, 1) := by decide +kernel
theorem d5_9 : decode prog_34_method_5_code 9 = .ok (.aload_n 0, 1) := by decide +kernel
theorem d5_10 : decode prog_34_method_5_code 10 = .ok (.getfield 13, 3) := by decide +kernel
theorem d5_13 : decode prog_34_method_5_code 13 = .ok (.astore_n 3, 1) := by decide +kernel
theorem d5_14 : decode prog_34_method_5_code 14 = .ok (.aload_n 3, 1) := by decide +kernel
theorem d5_15 : decode prog_34_method_5_code 15 = .ok (.arraylength, 1) := by decide +kernel
theorem d5_16 : decode prog_34_method_5_code 16 = .ok (.istore 4, 2) := by decide +kernel
theorem d5_18 : decode prog_34_method_5_code 18 = .ok (.iconst 0, 1) := by decide +kernel
theorem d5_19 : decode prog_34_method_5_code 19 = .ok (.istore 5, 2) := by decide +kernel
theorem d5_21 : decode prog_34_method_5_code 21 = .ok (.iload 5, 2) := by decide +kernel
theorem d5_23 : decode prog_34_method_5_code 23 = .ok (.iload 4, 2) := by decide +kernel
theorem d5_25 : decode prog_34_method_5_code 25 = .ok (.if_icmp .ge 29, 3) := by decide +kernel
theorem d5_28 : decode prog_34_method_5_code 28 = .ok (.aload_n 3, 1) := by decide +kernel
theorem d5_29 : decode prog_34_method_5_code 29 = .ok (.iload 5, 2) := by decide +kernel
theorem d5_31 : decode prog_34_method_5_code 31 = .ok (.iaload, 1) := by decide +kernel
theorem d5_32 : decode prog_34_method_5_code 32 = .ok (.istore 6, 2) := by decide +kernel
theorem d5_34 : decode prog_34_method_5_code 34 = .ok (.iload 6, 2) := by decide +kernel
theorem d5_36 : decode prog_34_method_5_code 36 = .ok (.iconst (-1), 1) := by decide +kernel
theorem d5_37 : decode prog_34_method_5_code 37 = .ok (.if_icmp .eq 11, 3) := by decide +kernel
theorem d5_40 : decode prog_34_method_5_code 40 = .ok (.aload_n 1, 1) := by decide +kernel
theorem d5_41 : decode prog_34_method_5_code 41 = .ok (.iload_n 2, 1) := by decide +kernel
theorem d5_42 : decode prog_34_method_5_code 42 = .ok (.iinc 2 1, 3) := by decide +kernel
theorem d5_45 : decode prog_34_method_5_code 45 = .ok (.iload 6, 2) := by decide +kernel
theorem d5_47 : decode prog_34_method_5_code 47 = .ok (.iastore, 1) := by decide +kernel
theorem d5_48 : decode prog_34_method_5_code 48 = .ok (.iinc 5 1, 3) := by decide +kernel
theorem d5_51 : decode prog_34_method_5_code 51 = .ok (.goto (-30), 3) := by decide +kernel
theorem d5_54 : decode prog_34_method_5_code 54 = .ok (.aload_n 1, 1) := by decide +kernel
theorem d5_55 : decode prog_34_method_5_code 55 = .ok (.areturn, 1) := by decide +kernel
theorem pd__to_aI : parseMethodDescriptor "()[I" = some ⟨[], some (.array .int)⟩ := by decide +kernel
theorem d8_0 : decode method_3_code 0 = .ok (.iload_n 1, 1) := by decide +kernel
theorem d8_1 : decode method_3_code 1 = .ok (.ifCond .le 14, 3) := by decide +kernel
theorem d8_4 : decode method_3_code 4 = .ok (.aload_n 0, 1) := by decide +kernel
theorem d8_5 : decode method_3_code 5 = .ok (.iconst 0, 1) := by decide +kernel
theorem d8_6 : decode method_3_code 6 = .ok (.iaload, 1) := by decide +kernel
theorem d8_7 : decode method_3_code 7 = .ok (.aload_n 0, 1) := by decide +kernel
theorem d8_8 : decode method_3_code 8 = .ok (.iload_n 1, 1) := by decide +kernel
theorem d8_9 : decode method_3_code 9 = .ok (.iaload, 1) := by decide +kernel
theorem d8_10 : decode method_3_code 10 = .ok (.if_icmp .ne 5, 3) := by decide +kernel
theorem d8_13 : decode method_3_code 13 = .ok (.iconst 0, 1) := by decide +kernel
theorem d8_14 : decode method_3_code 14 = .ok (.ireturn, 1) := by decide +kernel
theorem d8_15 : decode method_3_code 15 = .ok (.iload_n 1, 1) := by decide +kernel
theorem d8_16 : decode method_3_code 16 = .ok (.iconst 1, 1) := by decide +kernel
theorem d8_17 : decode method_3_code 17 = .ok (.if_icmp .le 14, 3) := by decide +kernel
theorem d8_20 : decode method_3_code 20 = .ok (.aload_n 0, 1) := by decide +kernel
theorem d8_21 : decode method_3_code 21 = .ok (.iconst 1, 1) := by decide +kernel
theorem d8_22 : decode method_3_code 22 = .ok (.iaload, 1) := by decide +kernel
theorem d8_23 : decode method_3_code 23 = .ok (.aload_n 0, 1) := by decide +kernel
theorem d8_24 : decode method_3_code 24 = .ok (.iload_n 1, 1) := by decide +kernel
theorem d8_25 : decode method_3_code 25 = .ok (.iaload, 1) := by decide +kernel
theorem d8_26 : decode method_3_code 26 = .ok (.if_icmp .ne 5, 3) := by decide +kernel
theorem d8_29 : decode method_3_code 29 = .ok (.iconst 0, 1) := by decide +kernel
theorem d8_30 : decode method_3_code 30 = .ok (.ireturn, 1) := by decide +kernel
theorem d8_31 : decode method_3_code 31 = .ok (.iload_n 1, 1) := by decide +kernel
theorem d8_32 : decode method_3_code 32 = .ok (.iconst 2, 1) := by decide +kernel
theorem d8_33 : decode method_3_code 33 = .ok (.if_icmp .le 14, 3) := by decide +kernel
theorem d8_36 : decode method_3_code 36 = .ok (.aload_n 0, 1) := by decide +kernel
theorem d8_37 : decode method_3_code 37 = .ok (.iconst 2, 1) := by decide +kernel
theorem d8_38 : decode method_3_code 38 = .ok (.iaload, 1) := by decide +kernel
theorem d8_39 : decode method_3_code 39 = .ok (.aload_n 0, 1) := by decide +kernel
theorem d8_40 : decode method_3_code 40 = .ok (.iload_n 1, 1) := by decide +kernel
theorem d8_41 : decode method_3_code 41 = .ok (.iaload, 1) := by decide +kernel
theorem d8_42 : decode method_3_code 42 = .ok (.if_icmp .ne 5, 3) := by decide +kernel
theorem d8_45 : decode method_3_code 45 = .ok (.iconst 0, 1) := by decide +kernel
theorem d8_46 : decode method_3_code 46 = .ok (.ireturn, 1) := by decide +kernel
theorem d8_47 : decode method_3_code 47 = .ok (.iload_n 1, 1) := by decide +kernel
theorem d8_48 : decode method_3_code 48 = .ok (.iconst 3, 1) := by decide +kernel
theorem d8_49 : decode method_3_code 49 = .ok (.if_icmp .le 14, 3) := by decide +kernel
theorem d8_52 : decode method_3_code 52 = .ok (.aload_n 0, 1) := by decide +kernel
theorem d8_53 : decode method_3_code 53 = .ok (.iconst 3, 1) := by decide +kernel
theorem d8_54 : decode method_3_code 54 = .ok (.iaload, 1) := by decide +kernel
theorem d8_55 : decode method_3_code 55 = .ok (.aload_n 0, 1) := by decide +kernel
theorem d8_56 : decode method_3_code 56 = .ok (.iload_n 1, 1) := by decide +kernel
theorem d8_57 : decode method_3_code 57 = .ok (.iaload, 1) := by decide +kernel
theorem d8_58 : decode method_3_code 58 = .ok (.if_icmp .ne 5, 3) := by decide +kernel
theorem d8_61 : decode method_3_code 61 = .ok (.iconst 0, 1) := by decide +kernel
theorem d8_62 : decode method_3_code 62 = .ok (.ireturn, 1) := by decide +kernel
theorem d8_63 : decode method_3_code 63 = .ok (.iconst 1, 1) := by decide +kernel
theorem d8_64 : decode method_3_code 64 = .ok (.ireturn, 1) := by decide +kernel
theorem pn_com_example_ontology_path_queries_ontologypathqueries_engine_IntSetToArrayPinLaw : plainName "com/example/ontology_path_queries/ontologypathqueries/engine/IntSetToArrayPinLaw" = true := by first | (simp [plainName, overriddenIn]; done) | decide +kernel
theorem pd_aII_to_Z : parseMethodDescriptor "([II)Z" = some ⟨[(.array .int), .int], some .boolean⟩ := by decide +kernel
theorem d9_0 : decode method_4_code 0 = .ok (.iconst 0, 1) := by decide +kernel
theorem d9_1 : decode method_4_code 1 = .ok (.istore_n 2, 1) := by decide +kernel
theorem d9_2 : decode method_4_code 2 = .ok (.aload_n 0, 1) := by decide +kernel
theorem d9_3 : decode method_4_code 3 = .ok (.arraylength, 1) := by decide +kernel
theorem d9_4 : decode method_4_code 4 = .ok (.ifCond .le 13, 3) := by decide +kernel
theorem d9_7 : decode method_4_code 7 = .ok (.aload_n 0, 1) := by decide +kernel
theorem d9_8 : decode method_4_code 8 = .ok (.iconst 0, 1) := by decide +kernel
theorem d9_9 : decode method_4_code 9 = .ok (.iaload, 1) := by decide +kernel
theorem d9_10 : decode method_4_code 10 = .ok (.iload_n 1, 1) := by decide +kernel
theorem d9_11 : decode method_4_code 11 = .ok (.if_icmp .ne 6, 3) := by decide +kernel
theorem d9_14 : decode method_4_code 14 = .ok (.iinc 2 1, 3) := by decide +kernel
theorem d9_17 : decode method_4_code 17 = .ok (.aload_n 0, 1) := by decide +kernel
theorem d9_18 : decode method_4_code 18 = .ok (.arraylength, 1) := by decide +kernel
theorem d9_19 : decode method_4_code 19 = .ok (.iconst 1, 1) := by decide +kernel
theorem d9_20 : decode method_4_code 20 = .ok (.if_icmp .le 13, 3) := by decide +kernel
theorem d9_23 : decode method_4_code 23 = .ok (.aload_n 0, 1) := by decide +kernel
theorem d9_24 : decode method_4_code 24 = .ok (.iconst 1, 1) := by decide +kernel
theorem d9_25 : decode method_4_code 25 = .ok (.iaload, 1) := by decide +kernel
theorem d9_26 : decode method_4_code 26 = .ok (.iload_n 1, 1) := by decide +kernel
theorem d9_27 : decode method_4_code 27 = .ok (.if_icmp .ne 6, 3) := by decide +kernel
theorem d9_30 : decode method_4_code 30 = .ok (.iinc 2 1, 3) := by decide +kernel
theorem d9_33 : decode method_4_code 33 = .ok (.aload_n 0, 1) := by decide +kernel
theorem d9_34 : decode method_4_code 34 = .ok (.arraylength, 1) := by decide +kernel
theorem d9_35 : decode method_4_code 35 = .ok (.iconst 2, 1) := by decide +kernel
theorem d9_36 : decode method_4_code 36 = .ok (.if_icmp .le 13, 3) := by decide +kernel
theorem d9_39 : decode method_4_code 39 = .ok (.aload_n 0, 1) := by decide +kernel
theorem d9_40 : decode method_4_code 40 = .ok (.iconst 2, 1) := by decide +kernel
theorem d9_41 : decode method_4_code 41 = .ok (.iaload, 1) := by decide +kernel
theorem d9_42 : decode method_4_code 42 = .ok (.iload_n 1, 1) := by decide +kernel
theorem d9_43 : decode method_4_code 43 = .ok (.if_icmp .ne 6, 3) := by decide +kernel
theorem d9_46 : decode method_4_code 46 = .ok (.iinc 2 1, 3) := by decide +kernel
theorem d9_49 : decode method_4_code 49 = .ok (.aload_n 0, 1) := by decide +kernel
theorem d9_50 : decode method_4_code 50 = .ok (.arraylength, 1) := by decide +kernel
theorem d9_51 : decode method_4_code 51 = .ok (.iconst 3, 1) := by decide +kernel
theorem d9_52 : decode method_4_code 52 = .ok (.if_icmp .le 13, 3) := by decide +kernel
theorem d9_55 : decode method_4_code 55 = .ok (.aload_n 0, 1) := by decide +kernel
theorem d9_56 : decode method_4_code 56 = .ok (.iconst 3, 1) := by decide +kernel
theorem d9_57 : decode method_4_code 57 = .ok (.iaload, 1) := by decide +kernel
theorem d9_58 : decode method_4_code 58 = .ok (.iload_n 1, 1) := by decide +kernel
theorem d9_59 : decode method_4_code 59 = .ok (.if_icmp .ne 6, 3) := by decide +kernel
theorem d9_62 : decode method_4_code 62 = .ok (.iinc 2 1, 3) := by decide +kernel
theorem d9_65 : decode method_4_code 65 = .ok (.aload_n 0, 1) := by decide +kernel
theorem d9_66 : decode method_4_code 66 = .ok (.arraylength, 1) := by decide +kernel
theorem d9_67 : decode method_4_code 67 = .ok (.iconst 4, 1) := by decide +kernel
theorem d9_68 : decode method_4_code 68 = .ok (.if_icmp .le 13, 3) := by decide +kernel
theorem d9_71 : decode method_4_code 71 = .ok (.aload_n 0, 1) := by decide +kernel
theorem d9_72 : decode method_4_code 72 = .ok (.iconst 4, 1) := by decide +kernel
theorem d9_73 : decode method_4_code 73 = .ok (.iaload, 1) := by decide +kernel
theorem d9_74 : decode method_4_code 74 = .ok (.iload_n 1, 1) := by decide +kernel
theorem d9_75 : decode method_4_code 75 = .ok (.if_icmp .ne 6, 3) := by decide +kernel
theorem d9_78 : decode method_4_code 78 = .ok (.iinc 2 1, 3) := by decide +kernel
theorem d9_81 : decode method_4_code 81 = .ok (.iload_n 2, 1) := by decide +kernel
theorem d9_82 : decode method_4_code 82 = .ok (.ireturn, 1) := by decide +kernel
theorem pd_aII_to_I : parseMethodDescriptor "([II)I" = some ⟨[(.array .int), .int], some .int⟩ := by decide +kernel
theorem pd_IIIIII_to_Z : parseMethodDescriptor "(IIIIII)Z" = some ⟨[.int, .int, .int, .int, .int, .int], some .boolean⟩ := by decide +kernel
/-- the number whose low bits tell where the search for x begins -/
def own_z (x : Int32) : Int32 := (x * (-1640531527 : Int32)) ^^^ (((x * (-1640531527 : Int32)).toUInt32 >>> ((16 : Int32) &&& 31).toUInt32).toInt32)
def own_pos (cap : Nat) (x : Int32) (i : Nat) : Nat := (((own_z x).toInt % (cap : Int)).toNat + i) % cap
def own_F (T : List Int32) : List Int32 := T.filter (fun y => decide (¬ (y = (-1 : Int32))))
def own_PI (cap : Nat) (T : List Int32) : Prop := ∀ j y, T[j]? = some y → ¬ (y = (-1 : Int32)) → ∃ i, i < cap ∧ own_pos cap y i = j ∧ ∀ i', i' < i → ¬ (T[own_pos cap y i']? = some (-1 : Int32))
def own_rep (cap : Nat) (T S : List Int32) : Prop := T.length = cap ∧ own_PI cap T ∧ (own_F T).Perm S ∧ S.Nodup ∧ ∀ y ∈ S, 0 ≤ y.toInt
def own_at (cap : Nat) (T : List Int32) (x : Int32) (i : Nat) : Prop := i < cap ∧ (∀ i', i' < i → ¬ (T[own_pos cap x i']? = some (-1 : Int32)) ∧ ¬ (T[own_pos cap x i']? = some x)) ∧ (T[own_pos cap x i]? = some (-1 : Int32) ∨ T[own_pos cap x i]? = some x)
theorem own_pos_succ (cap : Nat) (x : Int32) (i : Nat) (hc : cap = 8 ∨ cap = 16) : ((own_pos cap x i + 1 : Nat) : Int) % (cap : Int) = ((own_pos cap x (i + 1) : Nat) : Int) := by
  unfold own_pos
  generalize ((own_z x).toInt % (cap : Int)).toNat = w
  rcases hc with rfl | rfl <;> omega
theorem own_pos_zero (cap : Nat) (x : Int32) (hc : cap = 8 ∨ cap = 16) : (own_z x).toInt % (cap : Int) = ((own_pos cap x 0 : Nat) : Int) := by
  unfold own_pos
  generalize (own_z x).toInt = w
  rcases hc with rfl | rfl <;> omega
theorem own_pos_lt (cap : Nat) (x : Int32) (i : Nat) (h : 0 < cap) : own_pos cap x i < cap := Nat.mod_lt _ h
theorem own_surj (cap : Nat) (x : Int32) (hc : cap = 8 ∨ cap = 16) (e : Nat) (he : e < cap) : ∃ i, i < cap ∧ own_pos cap x i = e := by
  refine ⟨(e + cap - ((own_z x).toInt % (cap : Int)).toNat) % cap, Nat.mod_lt _ (by omega), ?_⟩
  unfold own_pos
  rcases hc with rfl | rfl <;> omega
theorem own_memF (T : List Int32) (y : Int32) : y ∈ own_F T ↔ y ∈ T ∧ ¬ (y = (-1 : Int32)) := by
  simp [own_F]
theorem own_empty {cap : Nat} {T S : List Int32} (R : own_rep cap T S) (h : S.length < cap) : ∃ e, e < cap ∧ T[e]? = some (-1 : Int32) := by
  obtain ⟨h1, h2, h3, h4, h5⟩ := R
  by_cases q : (-1 : Int32) ∈ T
  · obtain ⟨e, he, hx⟩ := List.mem_iff_getElem.mp q
    exact ⟨e, by omega, by rw [List.getElem?_eq_getElem he, hx]⟩
  · have : own_F T = T := by
      apply List.filter_eq_self.mpr
      intro y hy
      simp only [decide_eq_true_eq]
      intro g; rw [g] at hy; exact q hy
    rw [this] at h3
    have := h3.length_eq
    omega
theorem own_in_iff {cap : Nat} {T S : List Int32} (R : own_rep cap T S) (y : Int32) : y ∈ S ↔ y ∈ T ∧ ¬ (y = (-1 : Int32)) := by
  rw [← R.2.2.1.mem_iff, own_memF]
theorem own_new {cap : Nat} {T S : List Int32} (R : own_rep cap T S) {x : Int32} {i : Nat} (hx : ¬ (x = (-1 : Int32))) (A : own_at cap T x i) (hm : T[own_pos cap x i]? = some (-1 : Int32)) : ¬ (x ∈ S) := by
  intro q
  obtain ⟨q1, -⟩ := (own_in_iff R x).mp q
  obtain ⟨j, hj, hx2⟩ := List.mem_iff_getElem.mp q1
  obtain ⟨i2, g1, g2, g3⟩ := R.2.1 j x (by rw [List.getElem?_eq_getElem hj, hx2]) hx
  have hv : T[own_pos cap x i2]? = some x := by rw [g2, List.getElem?_eq_getElem hj, hx2]
  rcases Nat.lt_trichotomy i2 i with t | t | t
  · exact (A.2.1 i2 t).2 hv
  · rw [t, hm] at hv; exact hx (Option.some.inj hv).symm
  · exact g3 i t hm
theorem own_old {cap : Nat} {T S : List Int32} (R : own_rep cap T S) {x : Int32} {i : Nat} (hx : ¬ (x = (-1 : Int32))) (hm : T[own_pos cap x i]? = some x) : x ∈ S :=
  (own_in_iff R x).mpr ⟨List.mem_of_getElem? hm, hx⟩
theorem own_Fset (T : List Int32) (j : Nat) (x : Int32) (hx : ¬ (x = (-1 : Int32))) (h : T[j]? = some (-1 : Int32)) : (own_F (T.set j x)).Perm (x :: own_F T) := by
  induction T generalizing j with
  | nil => simp at h
  | cons y ys ih =>
    match j with
    | 0 =>
      simp at h
      subst h
      simp [own_F, hx]
    | j + 1 =>
      simp only [List.getElem?_cons_succ] at h
      have := ih j h
      simp only [own_F, List.set_cons_succ, List.filter_cons] at this ⊢
      split
      · exact (List.Perm.cons y this).trans (List.Perm.swap x y _)
      · exact this
theorem own_add {cap : Nat} {T S : List Int32} (R : own_rep cap T S) {x : Int32} {i : Nat} (h0 : 0 ≤ x.toInt) (A : own_at cap T x i) (hm : T[own_pos cap x i]? = some (-1 : Int32)) (hcap : 0 < cap) : own_rep cap (T.set (own_pos cap x i) x) (x :: S) := by
  have hx : ¬ (x = (-1 : Int32)) := fun q => by rw [q] at h0; exact absurd h0 (by decide)
  have hn := own_new R hx A hm
  have R' := R
  obtain ⟨h1, h2, h3, h4, h5⟩ := R
  have keep : ∀ k : Nat, ¬ (T[k]? = some (-1 : Int32)) → ¬ ((T.set (own_pos cap x i) x)[k]? = some (-1 : Int32)) := by
    intro k hk
    by_cases q : own_pos cap x i = k
    · subst q; exact absurd hm hk
    · rw [List.getElem?_set_ne q]; exact hk
  have hlt : own_pos cap x i < T.length := by rw [h1]; exact own_pos_lt _ _ _ hcap
  refine ⟨by simp [h1], ?_, (own_Fset T _ x hx hm).trans (List.Perm.cons x h3), List.nodup_cons.mpr ⟨hn, h4⟩, ?_⟩
  · intro j y hj hy
    by_cases q : own_pos cap x i = j
    · subst q
      rw [List.getElem?_set_self hlt] at hj
      obtain rfl := Option.some.inj hj
      exact ⟨i, A.1, rfl, fun i' t => keep _ (A.2.1 i' t).1⟩
    · rw [List.getElem?_set_ne q] at hj
      obtain ⟨i2, g1, g2, g3⟩ := h2 j y hj hy
      exact ⟨i2, g1, g2, fun i' t => keep _ (g3 i' t)⟩
  · intro y hy
    rcases List.mem_cons.mp hy with rfl | t
    · exact h0
    · exact h5 y t
theorem own_rep0 (cap : Nat) : own_rep cap (List.replicate cap (-1 : Int32)) [] := by
  refine ⟨by simp, ?_, ?_, List.nodup_nil, fun y h => absurd h (by simp)⟩
  · intro j y hj hy
    rw [List.getElem?_replicate] at hj
    split at hj
    · exact absurd (Option.some.inj hj).symm hy
    · exact absurd hj (by simp)
  · have : own_F (List.replicate cap (-1 : Int32)) = [] := by simp [own_F]
    rw [this]
theorem own_rep_perm {cap : Nat} {T S S' : List Int32} (R : own_rep cap T S) (h : S.Perm S') : own_rep cap T S' :=
  ⟨R.1, R.2.1, R.2.2.1.trans h, h.nodup_iff.mp R.2.2.2.1, fun y hy => R.2.2.2.2 y (h.mem_iff.mpr hy)⟩
theorem own_Fsnoc (T : List Int32) (i : Nat) (y : Int32) (h : T[i]? = some y) : own_F (T.take (i + 1)) = if y = (-1 : Int32) then own_F (T.take i) else own_F (T.take i) ++ [y] := by
  have : T.take (i + 1) = T.take i ++ [y] := by rw [List.take_add_one, h]; rfl
  rw [this, own_F, List.filter_append]
  by_cases q : y = (-1 : Int32) <;> simp [q, own_F]
def own_ins (S : List Int32) (x : Int32) : List Int32 := if x ∈ S then S else x :: S
theorem own_countN (S : List Int32) (x : Int32) (hn : S.Nodup) (h : x ∈ S) : S.count x = 1 := by
  induction S with
  | nil => simp at h
  | cons y ys ih =>
    rw [List.nodup_cons] at hn
    rw [List.count_cons]
    by_cases q : y = x
    · subst q
      have : ys.count y = 0 := List.count_eq_zero.mpr hn.1
      simp [this]
    · have hm : x ∈ ys := by rcases List.mem_cons.mp h with rfl | t; exact absurd rfl q; exact t
      rw [ih hn.2 hm]
      simp [q]
theorem own_ins_len (S : List Int32) (x : Int32) : (own_ins S x).length = S.length + (if x ∈ S then 0 else 1) := by
  unfold own_ins; split <;> simp
theorem own_ins_mem (S : List Int32) (x y : Int32) : y ∈ own_ins S x ↔ y ∈ S ∨ y = x := by
  unfold own_ins
  split
  · constructor
    · exact Or.inl
    · rintro (h | rfl); exact h; assumption
  · simp [or_comm]
theorem own_take_set (vs : List Int32) (i : Nat) (q : Int32) (h : i < vs.length) : (vs.set i q).take (i + 1) = vs.take i ++ [q] := by
  rw [List.take_add_one, List.getElem?_set_self h, List.take_set_of_le (Nat.le_refl _)]
  rfl
set_option maxRecDepth 65536 in
set_option maxHeartbeats 40000000 in
theorem lp_fill {K : OwnK} {Z : State} {a0 : Array Value} (hw : ∀ d ∈ tables_1, d.before a0 Z = true) {n0 : Nat} {Post : Option Value → Heap → Prop} (C : Cx K Z "java/util/Arrays" "fill" jdk_65_method_103_code 4 none ({ frames := 0, cells := 0, slots := 0, locals := 0 } : Room) n0 Post) {h0 : Heap} {a : Addr} (g_a : n0 ≤ a) (q z : Int32) (N : Nat) (hN : z.toInt = (N : Int)) (hN2 : N < 1000) :
    ∀ (d ni : Nat) (i : Int32) (vs : List Int32) (h : Heap), ni + d = N → i.toInt = (ni : Int) → vs.length = N → n0 ≤ h.size → Keep h0 h [a] → Ai Z h a .int vs → (∀ h' : Heap, Keep h0 h' [a] → Ai Z h' a .int (vs.take ni ++ List.replicate d q) → Post none h') →
      Go K h 0 0 5 [.val (.ref a), .val (.int q), .val (.int i), .val (.int z)] [] := by
  intro d
  induction d with
  | zero =>
    intro ni i vs h hd hi hv hz KK A_a hq
    refine w_iloadN 6 C d4_5 rfl rfl ?_
    refine w_iloadN 7 C d4_6 rfl rfl ?_
    refine w_icmpY 20 C d4_7 rfl (show z.toInt ≤ i.toInt from (by omega)) ?_
    refine w_ret C d4_20 (by decide) (by decide) ?_
    exact (hq h KK (by rw [List.take_of_length_le (by omega)]; simpa using A_a))
  | succ d ih =>
    intro ni i vs h hd hi hv hz KK A_a hq
    refine w_iloadN 6 C d4_5 rfl rfl ?_
    refine w_iloadN 7 C d4_6 rfl rfl ?_
    refine w_icmpN 10 C d4_7 rfl (show ¬ (z.toInt ≤ i.toInt) from (by omega)) ?_
    refine w_aloadN 11 C d4_10 rfl rfl rfl ?_
    refine w_iloadN 12 C d4_11 rfl rfl ?_
    refine w_iloadN 13 C d4_12 rfl rfl ?_
    refine w_iastore 14 (ni) C A_a g_a d4_13 rfl hi (by omega) ?_
    intro h1 K_h1 A_a'
    replace A_a : Ai Z h1 a .int (vs.set ni q) := A_a'
    replace hz := Nat.le_trans hz K_h1.1
    replace KK := KK.trans K_h1 (allS (Or.inl (by simp)) all0)
    refine w_iinc (z := (i + (1 : Int32))) 17 [.val (.ref a), .val (.int q), .val (.int (i + (1 : Int32))), .val (.int z)] C d4_14 rfl rfl rfl rfl ?_
    refine w_goto 5 C d4_17 rfl ?_
    refine ih (ni + 1) _ _ _ (by omega) ?_ (by simpa using hv) hz KK A_a ?_
    · rw [own_iadd, hi, show (1 : Int32).toInt = 1 from by decide]; omega
    · intro h' k1 k2
      refine hq h' k1 ?_
      rw [own_take_set vs ni q (by omega), List.append_assoc] at k2
      exact k2
set_option maxRecDepth 65536 in
set_option maxHeartbeats 40000000 in
theorem rm_fill (l : Launch) (Z : State) (a0 : Array Value) (hw : ∀ d ∈ tables_1, d.before a0 Z = true) (ws : List Jvm.Cond) (a : Addr) (q : Int32) (vs : List Int32) (h0 : Heap) (n0 : Nat) (hz : n0 ≤ h0.size) (A_a : Ai Z h0 a .int vs) (g_a : n0 ≤ a) (hl : vs.length < 1000) :
    OwnMet l (⟨"java/util/Arrays", "fill", "([II)V"⟩ : MethodName) jdk_65_method_103_code 4 none ws ({ frames := 0, cells := 0, slots := 0, locals := 0 } : Room) Z h0 n0 #[.ref a, .int q] (fun v h => v = none ∧ Keep h0 h [a] ∧ Ai Z h a .int (List.replicate vs.length q)) := by
  refine OwnMet.of (own := "java/util/Arrays") (name := "fill") (desc := "([II)V") (Ls := [.val (.ref a), .val (.int q), .unset, .unset]) (plainFor_of_name pn_java_util_Arrays) (fun m => by first | (simp [entryFrame, mkF, argsToLocals, Value.category]; done) | rfl) ?_
  intro K hK C
  refine w_iconst 1 (0 : Int32) C d4_0 rfl rfl ?_
  refine w_istoreN 2 [.val (.ref a), .val (.int q), .val (.int (0 : Int32)), .unset] C d4_1 rfl rfl ?_
  refine w_aloadN 3 C d4_2 rfl rfl rfl ?_
  refine w_len 4 vs.length.toInt32 C A_a d4_3 rfl rfl ?_
  refine w_istoreN 5 [.val (.ref a), .val (.int q), .val (.int (0 : Int32)), .val (.int vs.length.toInt32)] C d4_4 rfl rfl ?_
  refine lp_fill hw C g_a q _ vs.length (len_toInt (by omega)) hl vs.length 0 (0 : Int32) vs h0 (by omega) (by decide) rfl hz (Keep.refl _ _) A_a ?_
  intro h' k1 k2
  exact ⟨rfl, k1, by simpa using k2⟩
set_option maxRecDepth 65536 in
set_option maxHeartbeats 40000000 in
theorem rm_empty (l : Launch) (Z : State) (a0 : Array Value) (hw : ∀ d ∈ tables_1, d.before a0 Z = true) (ws : List Jvm.Cond) (q : Int32) (nc : Nat) (h0 : Heap) (n0 : Nat) (hz : n0 ≤ h0.size) (hq : q.toInt = (nc : Int)) (h16 : nc ≤ 16) :
    OwnMet l (⟨"com/example/ontology_path_queries/ontologypathqueries/engine/IntSet", "emptyTable", "(I)[I"⟩ : MethodName) prog_34_method_8_code 2 (some (.array .int)) ws ({ frames := 1, cells := 1, slots := 16, locals := 15 } : Room) Z h0 n0 #[.int q] (fun v h => ∃ b : Addr, v = some (.ref b) ∧ h0.size ≤ b ∧ n0 ≤ b ∧ Keep h0 h [] ∧ Ai Z h b .int (List.replicate nc (-1 : Int32))) := by
  refine OwnMet.of (own := "com/example/ontology_path_queries/ontologypathqueries/engine/IntSet") (name := "emptyTable") (desc := "(I)[I") (Ls := [.val (.int q), .unset]) (plainFor_of_name pn_com_example_ontology_path_queries_ontologypathqueries_engine_IntSet) (fun m => by first | (simp [entryFrame, mkF, argsToLocals, Value.category]; done) | rfl) ?_
  intro K hK C
  have KK : Keep h0 h0 [] := Keep.refl _ _
  refine w_iloadN 1 C d3_0 rfl rfl ?_
  refine w_newarr 3 16 nc C hz d3_1 rfl (hw _ (List.mem_of_getElem? (i := 1) rfl)) rfl hq h16 (by decide) (by decide) (by decide) ?_
  intro h1 b2 X_b2 g_b2 sz0_b2 A_b2 hz_
  replace hz := hz_
  replace A_b2 : Ai Z h1 b2 .int (List.replicate nc (0 : Int32)) := A_b2
  have sz_b2 : h0.size ≤ b2 := Nat.le_trans KK.1 sz0_b2
  replace KK := KK.ext X_b2
  show Go K h1 1 16 3 [.val (.int q), .unset] [.ref b2]
  refine w_astoreN 4 [.val (.int q), .val (.ref b2)] C d3_3 rfl rfl rfl ?_
  refine w_aloadN 5 C d3_4 rfl rfl rfl ?_
  refine w_iconst 6 (-1 : Int32) C d3_5 rfl rfl ?_
  refine w_callS (y := (⟨"java/util/Arrays", "fill", "([II)V"⟩ : MethodName)) 9 0 [.ref b2, .int (-1 : Int32)] C d3_6 rfl (hw _ (List.mem_of_getElem? (i := 14) rfl)) (hw _ (List.mem_of_getElem? (i := 15) rfl)) (hw _ (List.mem_of_getElem? (i := 16) rfl)) (hw _ (List.mem_of_getElem? (i := 17) rfl)) (by decide) (rm_fill K.l Z a0 hw [] b2 (-1 : Int32) (List.replicate nc (0 : Int32)) h1 n0 hz A_b2 g_b2 (by simp; omega)) pd_aII_to_V rfl (rest := []) rfl rfl (Nat.le_of_eq rfl) (by decide) (by decide) (by decide) (by decide) ?_
  rintro v3 hF ⟨rfl, K1, A_b2⟩
  show Go K hF 1 16 9 [.val (.int q), .val (.ref b2)] []
  replace KK := KK.trans K1 (allS (Or.inr sz_b2) all0)
  refine w_aloadN 10 C d3_9 rfl rfl rfl ?_
  refine w_retA C rfl rfl rfl d3_10 (by decide) (by decide) ?_
  exact ⟨_, rfl, sz_b2, g_b2, KK, by simpa using A_b2⟩
set_option maxRecDepth 65536 in
set_option maxHeartbeats 40000000 in
theorem rm_init (l : Launch) (Z : State) (a0 : Array Value) (hw : ∀ d ∈ tables_1, d.before a0 Z = true) (ws : List Jvm.Cond) (a1 : Addr) (u1 : Value) (sz : Int32) (h0 : Heap) (n0 : Nat) (hz : n0 ≤ h0.size) (E_a1 : Exa Z h0 a1 "com/example/ontology_path_queries/ontologypathqueries/engine/IntSet") (g_a1 : n0 ≤ a1) (F_table_a1 : Fld Z h0 a1 "com/example/ontology_path_queries/ontologypathqueries/engine/IntSet" "table" "[I" u1) (F_size_a1 : Fld Z h0 a1 "com/example/ontology_path_queries/ontologypathqueries/engine/IntSet" "size" "I" (.int sz)) (hlt : a1 < h0.size) :
    OwnMet l (⟨"com/example/ontology_path_queries/ontologypathqueries/engine/IntSet", "<init>", "()V"⟩ : MethodName) prog_34_method_1_code 1 none ws ({ frames := 2, cells := 1, slots := 16, locals := 29 } : Room) Z h0 n0 #[.ref a1] (fun v h => ∃ b : Addr, v = none ∧ h0.size ≤ b ∧ n0 ≤ b ∧ Keep h0 h [a1] ∧ Exa Z h a1 "com/example/ontology_path_queries/ontologypathqueries/engine/IntSet" ∧ Fld Z h a1 "com/example/ontology_path_queries/ontologypathqueries/engine/IntSet" "table" "[I" (.ref b) ∧ Fld Z h a1 "com/example/ontology_path_queries/ontologypathqueries/engine/IntSet" "size" "I" (.int sz) ∧ Ai Z h b .int (List.replicate 8 (-1 : Int32))) := by
  refine OwnMet.of (own := "com/example/ontology_path_queries/ontologypathqueries/engine/IntSet") (name := "<init>") (desc := "()V") (Ls := [.val (.ref a1)]) (plainFor_of_name pn_com_example_ontology_path_queries_ontologypathqueries_engine_IntSet) (fun m => by first | (simp [entryFrame, mkF, argsToLocals, Value.category]; done) | rfl) ?_
  intro K hK C
  have KK : Keep h0 h0 [a1] := Keep.refl _ _
  refine w_aloadN 1 C d1_0 rfl rfl rfl ?_
  refine w_initO 4 0 C d1_1 rfl (hw _ (List.mem_of_getElem? (i := 8) rfl)) (hw _ (List.mem_of_getElem? (i := 9) rfl)) (hw _ (List.mem_of_getElem? (i := 10) rfl)) rfl (by decide) (Nat.le_of_eq rfl) (by decide) ?_
  refine w_aloadN 5 C d1_4 rfl rfl rfl ?_
  refine w_bipush 7 (8 : Int32) C d1_5 rfl rfl ?_
  refine w_callS (y := (⟨"com/example/ontology_path_queries/ontologypathqueries/engine/IntSet", "emptyTable", "(I)[I"⟩ : MethodName)) 10 1 [.int (8 : Int32)] C d1_7 rfl (hw _ (List.mem_of_getElem? (i := 11) rfl)) (hw _ (List.mem_of_getElem? (i := 12) rfl)) (hw _ (List.mem_of_getElem? (i := 4) rfl)) (hw _ (List.mem_of_getElem? (i := 13) rfl)) (by decide) (rm_empty K.l Z a0 hw [] (8 : Int32) 8 h0 n0 hz (by decide) (by decide)) pd_I_to_aI rfl (rest := [.ref a1]) rfl rfl (Nat.le_of_eq rfl) (by decide) (by decide) (by decide) (by decide) ?_
  rintro v1 hF ⟨b, rfl, sz_b, g_b, K1, A_b⟩
  show Go K hF 1 16 10 [.val (.ref a1)] [.ref b, .ref a1]
  have lt_a1 : a1 < h0.size := by
    obtain ⟨cl, _, q, -⟩ := E_a1
    exact (Array.getElem?_eq_some_iff.mp q).1
  have ne_b_a1 : b ≠ a1 := Nat.ne_of_gt (Nat.lt_of_lt_of_le lt_a1 sz_b)
  replace E_a1 := E_a1.keep K1
  replace F_table_a1 := F_table_a1.keep K1 nin0
  replace F_size_a1 := F_size_a1.keep K1 nin0
  replace hz := Nat.le_trans hz K1.1
  replace KK := KK.trans K1 all0
  refine w_putF (host := "") (ty := (.array .int)) 13 C F_table_a1 E_a1 g_a1 d1_10 rfl (Or.inl (hw _ (List.mem_of_getElem? (i := 18) rfl))) Via.refl (Or.inl (hw _ (List.mem_of_getElem? (i := 19) rfl))) (hw _ (List.mem_of_getElem? (i := 3) rfl)) (by decide) rfl rfl ?_
  intro h2 K_h2 W_h2 Fn_ En_
  replace F_size_a1 := F_size_a1.other W_h2 (Or.inr (slot_ne (Or.inl (hw _ (List.mem_of_getElem? (i := 26) rfl))) (Or.inl (hw _ (List.mem_of_getElem? (i := 19) rfl))) (by decide) (t := .int) (t' := (.array .int)) (by decide) (by decide)))
  replace F_table_a1 := Fn_
  replace E_a1 := En_
  replace A_b := A_b.keep K_h2 (ninS ne_b_a1 nin0)
  replace hz := Nat.le_trans hz K_h2.1
  replace KK := KK.trans K_h2 (allS (Or.inl (by simp)) all0)
  refine w_ret C d1_13 (by decide) (by decide) ?_
  exact ⟨b, rfl, sz_b, g_b, KK, E_a1, F_table_a1, F_size_a1, A_b⟩
set_option maxRecDepth 65536 in
set_option maxHeartbeats 40000000 in
theorem lp_slot {K : OwnK} {Z : State} {a0 : Array Value} (hw : ∀ d ∈ tables_1, d.before a0 Z = true) {n0 : Nat} {Post : Option Value → Heap → Prop} (C : Cx K Z "com/example/ontology_path_queries/ontologypathqueries/engine/IntSet" "slotOf" prog_34_method_6_code 5 (some .int) ({ frames := 0, cells := 0, slots := 0, locals := 0 } : Room) n0 Post) {h : Heap} {a1 ta : Addr} {T : List Int32} {x q2 q3 : Int32} (F_table_a1 : Fld Z h a1 "com/example/ontology_path_queries/ontologypathqueries/engine/IntSet" "table" "[I" (.ref ta)) (A_ta : Ai Z h ta .int T) (cap : Nat) (hc : cap = 8 ∨ cap = 16) (hT : T.length = cap) (hq2 : q2.toInt = (cap : Int) - 1)
    (hx : ∀ (r : Int32) (i : Nat), r.toInt = ((own_pos cap x i : Nat) : Int) → own_at cap T x i → Post (some (.int r)) h) :
    ∀ (d i : Nat) (j : Int32), i + d < cap → j.toInt = ((own_pos cap x i : Nat) : Int) → (T[own_pos cap x (i + d)]? = some (-1 : Int32)) → (∀ i', i' < i → ¬ (T[own_pos cap x i']? = some (-1 : Int32)) ∧ ¬ (T[own_pos cap x i']? = some x)) →
      Go K h 0 0 23 [.val (.ref a1), .val (.int x), .val (.int q2), .val (.int q3), .val (.int j)] [] := by
  intro d
  induction d with
  | zero =>
    intro i j hd hj he hp
    have hpl : own_pos cap x i < T.length := by rw [hT]; exact own_pos_lt _ _ _ (by omega)
    obtain ⟨y, hy⟩ : ∃ y, T[own_pos cap x i]? = some y := ⟨_, List.getElem?_eq_getElem hpl⟩
    rw [Nat.add_zero, hy] at he
    obtain rfl := Option.some.inj he
    refine w_aloadN 24 C d7_23 rfl rfl rfl ?_
    refine w_getF (host := "") 27 C F_table_a1 d7_24 rfl (Or.inl (hw _ (List.mem_of_getElem? (i := 18) rfl))) Via.refl ?_
    refine w_iload 29 C d7_27 rfl rfl ?_
    refine w_iaload 30 (own_pos cap x i) (-1 : Int32) C A_ta d7_29 rfl hj hy ?_
    refine w_iconst 31 (-1 : Int32) C d7_30 rfl rfl ?_
    refine w_icmpY 56 C d7_31 rfl (show (-1 : Int32) = (-1 : Int32) from rfl) ?_
    refine w_iload 58 C d7_56 rfl rfl ?_
    refine w_retI C d7_58 (by decide) (by decide) ?_
    exact (hx _ i hj ⟨by omega, hp, Or.inl hy⟩)
  | succ d ih =>
    intro i j hd hj he hp
    have hpl : own_pos cap x i < T.length := by rw [hT]; exact own_pos_lt _ _ _ (by omega)
    obtain ⟨y, hy⟩ : ∃ y, T[own_pos cap x i]? = some y := ⟨_, List.getElem?_eq_getElem hpl⟩
    refine w_aloadN 24 C d7_23 rfl rfl rfl ?_
    refine w_getF (host := "") 27 C F_table_a1 d7_24 rfl (Or.inl (hw _ (List.mem_of_getElem? (i := 18) rfl))) Via.refl ?_
    refine w_iload 29 C d7_27 rfl rfl ?_
    refine w_iaload 30 (own_pos cap x i) y C A_ta d7_29 rfl hj hy ?_
    refine w_iconst 31 (-1 : Int32) C d7_30 rfl rfl ?_
    refine w_icmp 56 34 C d7_31 rfl rfl (fun (hc31 : y = (-1 : Int32)) => ?_) (fun (hc31 : ¬ (y = (-1 : Int32))) => ?_)
    · refine w_iload 58 C d7_56 rfl rfl ?_
      refine w_retI C d7_58 (by decide) (by decide) ?_
      exact (hx _ i hj ⟨by omega, hp, Or.inl (by rw [hy, hc31])⟩)
    · refine w_aloadN 35 C d7_34 rfl rfl rfl ?_
      refine w_getF (host := "") 38 C F_table_a1 d7_35 rfl (Or.inl (hw _ (List.mem_of_getElem? (i := 18) rfl))) Via.refl ?_
      refine w_iload 40 C d7_38 rfl rfl ?_
      refine w_iaload 41 (own_pos cap x i) y C A_ta d7_40 rfl hj hy ?_
      refine w_iloadN 42 C d7_41 rfl rfl ?_
      refine w_icmp 56 45 C d7_42 rfl rfl (fun (hc42 : y = x) => ?_) (fun (hc42 : ¬ (y = x)) => ?_)
      · refine w_iload 58 C d7_56 rfl rfl ?_
        refine w_retI C d7_58 (by decide) (by decide) ?_
        exact (hx _ i hj ⟨by omega, hp, Or.inr (by rw [hy, hc42])⟩)
      · refine w_iload 47 C d7_45 rfl rfl ?_
        refine w_iconst 48 (1 : Int32) C d7_47 rfl rfl ?_
        refine w_iadd 49 C d7_48 rfl ?_
        refine w_iloadN 50 C d7_49 rfl rfl ?_
        refine w_iand 51 C d7_50 rfl ?_
        refine w_istore 53 [.val (.ref a1), .val (.int x), .val (.int q2), .val (.int q3), .val (.int ((j + (1 : Int32)) &&& q2))] C d7_51 rfl rfl ?_
        refine w_goto 23 C d7_53 rfl ?_
        refine ih (i + 1) _ (by omega) ?_ (by rw [show i + 1 + d = i + (d + 1) from by omega]; exact he) ?_
        · have e1 : (1 : Int32).toInt = 1 := by decide
          have hs : (j + (1 : Int32)).toInt = ((own_pos cap x i + 1 : Nat) : Int) := by rw [own_iadd, hj, e1]; omega
          have hm : ((j + (1 : Int32)) &&& q2).toInt = (j + (1 : Int32)).toInt % (cap : Int) := by
            rcases hc with rfl | rfl
            · obtain rfl : q2 = 7 := own_eq (by rw [hq2]; decide)
              exact own_mask _ 7 3 (by decide) (by decide)
            · obtain rfl : q2 = 15 := own_eq (by rw [hq2]; decide)
              exact own_mask _ 15 4 (by decide) (by decide)
          rw [hm, hs]
          exact own_pos_succ cap x i hc
        · intro i' hi'
          by_cases q : i' = i
          · subst q; rw [hy]; exact ⟨fun t => hc31 (Option.some.inj t), fun t => hc42 (Option.some.inj t)⟩
          · exact hp i' (by omega)
set_option maxRecDepth 65536 in
set_option maxHeartbeats 40000000 in
theorem rm_slot (l : Launch) (Z : State) (a0 : Array Value) (hw : ∀ d ∈ tables_1, d.before a0 Z = true) (ws : List Jvm.Cond) (a1 ta : Addr) (x : Int32) (cap : Nat) (T S : List Int32) (h0 : Heap) (n0 : Nat) (hz : n0 ≤ h0.size) (F_table_a1 : Fld Z h0 a1 "com/example/ontology_path_queries/ontologypathqueries/engine/IntSet" "table" "[I" (.ref ta)) (A_ta : Ai Z h0 ta .int T) (hc : cap = 8 ∨ cap = 16) (RP : own_rep cap T S) (hS : S.length < cap) :
    OwnMet l (⟨"com/example/ontology_path_queries/ontologypathqueries/engine/IntSet", "slotOf", "(I)I"⟩ : MethodName) prog_34_method_6_code 5 (some .int) ws ({ frames := 0, cells := 0, slots := 0, locals := 0 } : Room) Z h0 n0 #[.ref a1, .int x] (fun v h => (∃ (r : Int32) (i : Nat), v = some (.int r) ∧ r.toInt = ((own_pos cap x i : Nat) : Int) ∧ own_at cap T x i) ∧ h0 = h) := by
  refine OwnMet.of (own := "com/example/ontology_path_queries/ontologypathqueries/engine/IntSet") (name := "slotOf") (desc := "(I)I") (Ls := [.val (.ref a1), .val (.int x), .unset, .unset, .unset]) (plainFor_of_name pn_com_example_ontology_path_queries_ontologypathqueries_engine_IntSet) (fun m => by first | (simp [entryFrame, mkF, argsToLocals, Value.category]; done) | rfl) ?_
  intro K hK C
  have hT := RP.1
  obtain ⟨em, he1, he2⟩ := own_empty RP hS
  obtain ⟨ie, hi1, hi2⟩ := own_surj cap x hc em he1
  refine w_aloadN 1 C d7_0 rfl rfl rfl ?_
  refine w_getF (host := "") 4 C F_table_a1 d7_1 rfl (Or.inl (hw _ (List.mem_of_getElem? (i := 18) rfl))) Via.refl ?_
  refine w_len 5 T.length.toInt32 C A_ta d7_4 rfl rfl ?_
  refine w_iconst 6 (1 : Int32) C d7_5 rfl rfl ?_
  refine w_isub 7 C d7_6 rfl ?_
  refine w_istoreN 8 [.val (.ref a1), .val (.int x), .val (.int (T.length.toInt32 - (1 : Int32))), .unset, .unset] C d7_7 rfl rfl ?_
  generalize hv_x1 : (T.length.toInt32 - (1 : Int32)) = x1
  refine w_iloadN 9 C d7_8 rfl rfl ?_
  refine w_ldc (v := (-1640531527 : Int32)) 11 C d7_9 rfl (hw _ (List.mem_of_getElem? (i := 36) rfl)) ?_
  refine w_imul 12 C d7_11 rfl ?_
  refine w_istoreN 13 [.val (.ref a1), .val (.int x), .val (.int x1), .val (.int (x * (-1640531527 : Int32))), .unset] C d7_12 rfl rfl ?_
  generalize hv_x2 : (x * (-1640531527 : Int32)) = x2
  refine w_iloadN 14 C d7_13 rfl rfl ?_
  refine w_iloadN 15 C d7_14 rfl rfl ?_
  refine w_bipush 17 (16 : Int32) C d7_15 rfl rfl ?_
  refine w_iushr 18 C d7_17 rfl ?_
  refine w_ixor 19 C d7_18 rfl ?_
  refine w_iloadN 20 C d7_19 rfl rfl ?_
  refine w_iand 21 C d7_20 rfl ?_
  refine w_istore 23 [.val (.ref a1), .val (.int x), .val (.int x1), .val (.int x2), .val (.int ((x2 ^^^ ((x2.toUInt32 >>> ((16 : Int32) &&& 31).toUInt32).toInt32)) &&& x1))] C d7_21 rfl rfl ?_
  generalize hv_x3 : ((x2 ^^^ ((x2.toUInt32 >>> ((16 : Int32) &&& 31).toUInt32).toInt32)) &&& x1) = x3
  have hq2 : x1.toInt = (cap : Int) - 1 := by rw [← hv_x1, own_isub, len_toInt (by omega), hT, show (1 : Int32).toInt = 1 from by decide]; omega
  have hj : x3.toInt = ((own_pos cap x 0 : Nat) : Int) := by
    rw [← hv_x3, ← hv_x2]
    have hm : ∀ z : Int32, (z &&& x1).toInt = z.toInt % (cap : Int) := by
      intro z
      rcases hc with rfl | rfl
      · obtain rfl : x1 = 7 := own_eq (by rw [hq2]; decide)
        exact own_mask _ 7 3 (by decide) (by decide)
      · obtain rfl : x1 = 15 := own_eq (by rw [hq2]; decide)
        exact own_mask _ 15 4 (by decide) (by decide)
    show ((own_z x) &&& x1).toInt = _
    rw [hm]
    exact own_pos_zero cap x hc
  refine lp_slot hw C F_table_a1 A_ta cap hc hT hq2 ?_ ie 0 x3 (by omega) hj (by rw [Nat.zero_add, hi2]; exact he2) (fun i' hi' => absurd hi' (by omega))
  intro r i h1 h2
  exact ⟨⟨r, i, rfl, h1, h2⟩, rfl⟩
set_option maxRecDepth 65536 in
set_option maxHeartbeats 40000000 in
theorem lp_grow {K : OwnK} {Z : State} {a0 : Array Value} (hw : ∀ d ∈ tables_1, d.before a0 Z = true) {n0 : Nat} {Post : Option Value → Heap → Prop} (C : Cx K Z "com/example/ontology_path_queries/ontologypathqueries/engine/IntSet" "grow" prog_34_method_7_code 6 none ({ frames := 2, cells := 1, slots := 16, locals := 29 } : Room) n0 Post) {h0 : Heap} {a1 ta tb : Addr} {T : List Int32} {sz q3 : Int32} (g_a1 : n0 ≤ a1) (g_tb : n0 ≤ tb) (sz_tb : h0.size ≤ tb) (ne1 : ta ≠ tb) (ne2 : a1 ≠ tb) (hT : T.length = 8) (hF : (own_F T).Nodup) (hpos : ∀ y ∈ own_F T, 0 ≤ y.toInt) (hl : (own_F T).length < 16) (hq3 : q3.toInt = 8)
    (hx : ∀ (h : Heap) (T2 : List Int32), n0 ≤ h.size → Keep h0 h [a1] → Exa Z h a1 "com/example/ontology_path_queries/ontologypathqueries/engine/IntSet" → Fld Z h a1 "com/example/ontology_path_queries/ontologypathqueries/engine/IntSet" "table" "[I" (.ref tb) → Fld Z h a1 "com/example/ontology_path_queries/ontologypathqueries/engine/IntSet" "size" "I" (.int sz) → Ai Z h tb .int T2 → own_rep 16 T2 (own_F T) → Post none h) :
    ∀ (d ni : Nat) (i : Int32) (s5 : Slot) (h : Heap) (T2 S2 : List Int32), (s5 = .unset ∨ ∃ q : Int32, s5 = .val (.int q)) → ni + d = 8 → i.toInt = (ni : Int) → n0 ≤ h.size → Keep h0 h [a1] → Exa Z h a1 "com/example/ontology_path_queries/ontologypathqueries/engine/IntSet" → Fld Z h a1 "com/example/ontology_path_queries/ontologypathqueries/engine/IntSet" "table" "[I" (.ref tb) → Fld Z h a1 "com/example/ontology_path_queries/ontologypathqueries/engine/IntSet" "size" "I" (.int sz) → Ai Z h ta .int T → Ai Z h tb .int T2 → own_rep 16 T2 S2 → S2.Perm (own_F (T.take ni)) →
      Go K h 1 16 24 [.val (.ref a1), .val (.ref ta), .val (.ref ta), .val (.int q3), .val (.int i), s5] [] := by
  intro d
  induction d with
  | zero =>
    intro ni i s5 h T2 S2 h5 hd hi hz KK E_a1 F_table_a1 F_size_a1 A_ta A_tb RP hS2
    refine w_iload 26 C d10_24 rfl rfl ?_
    refine w_iloadN 27 C d10_26 rfl rfl ?_
    refine w_icmpY 61 C d10_27 rfl (show q3.toInt ≤ i.toInt from (by omega)) ?_
    refine w_ret C d10_61 (by decide) (by decide) ?_
    exact (hx h T2 hz KK E_a1 F_table_a1 F_size_a1 A_tb (own_rep_perm RP (by rw [List.take_of_length_le (by omega)] at hS2; exact hS2)))
  | succ d ih =>
    intro ni i s5 h T2 S2 h5 hd hi hz KK E_a1 F_table_a1 F_size_a1 A_ta A_tb RP hS2
    obtain ⟨y, hy⟩ : ∃ y, T[ni]? = some y := ⟨_, List.getElem?_eq_getElem (by omega)⟩
    have hi1 : (i + (1 : Int32)).toInt = ((ni + 1 : Nat) : Int) := by rw [own_iadd, hi, show (1 : Int32).toInt = 1 from by decide]; omega
    have hsn := own_Fsnoc T ni y hy
    have hsub : (own_F (T.take (ni + 1))).Sublist (own_F T) := List.Sublist.filter _ (List.take_sublist _ _)
    refine w_iload 26 C d10_24 rfl rfl ?_
    refine w_iloadN 27 C d10_26 rfl rfl ?_
    refine w_icmpN 30 C d10_27 rfl (show ¬ (q3.toInt ≤ i.toInt) from (by omega)) ?_
    refine w_aloadN 31 C d10_30 rfl rfl rfl ?_
    refine w_iload 33 C d10_31 rfl rfl ?_
    refine w_iaload 34 (ni) y C A_ta d10_33 rfl hi hy ?_
    rcases h5 with rfl | ⟨q5, rfl⟩
    · refine w_istore 36 [.val (.ref a1), .val (.ref ta), .val (.ref ta), .val (.int q3), .val (.int i), .val (.int y)] C d10_34 rfl rfl ?_
      refine w_iload 38 C d10_36 rfl rfl ?_
      refine w_iconst 39 (-1 : Int32) C d10_38 rfl rfl ?_
      refine w_icmp 55 42 C d10_39 rfl rfl (fun (hc39 : y = (-1 : Int32)) => ?_) (fun (hc39 : ¬ (y = (-1 : Int32))) => ?_)
      · refine w_iinc (z := (i + (1 : Int32))) 58 [.val (.ref a1), .val (.ref ta), .val (.ref ta), .val (.int q3), .val (.int (i + (1 : Int32))), .val (.int y)] C d10_55 rfl rfl rfl rfl ?_
        refine w_goto 24 C d10_58 rfl ?_
        rw [if_pos hc39] at hsn
        exact ih (ni + 1) _ _ h T2 S2 (Or.inr ⟨y, rfl⟩) (by omega) hi1 hz KK E_a1 F_table_a1 F_size_a1 A_ta A_tb RP (by rw [hsn]; exact hS2)
      · refine w_aloadN 43 C d10_42 rfl rfl rfl ?_
        refine w_getF (host := "") 46 C F_table_a1 d10_43 rfl (Or.inl (hw _ (List.mem_of_getElem? (i := 18) rfl))) Via.refl ?_
        refine w_aloadN 47 C d10_46 rfl rfl rfl ?_
        refine w_iload 49 C d10_47 rfl rfl ?_
        rw [if_neg hc39] at hsn
        have hyF : y ∈ own_F T := by rw [own_memF]; exact ⟨List.mem_of_getElem? hy, hc39⟩
        have hlen : S2.length < 16 := by
          have q1 := hS2.length_eq
          have q2 := hsub.length_le
          rw [hsn] at q2; simp at q2; omega
        refine w_callP (y := (⟨"com/example/ontology_path_queries/ontologypathqueries/engine/IntSet", "slotOf", "(I)I"⟩ : MethodName)) (z := (⟨"com/example/ontology_path_queries/ontologypathqueries/engine/IntSet", "toArray", "()[I"⟩ : MethodName)) (a := a1) 52 1 [.int y] C E_a1 d10_49 rfl (hw _ (List.mem_of_getElem? (i := 32) rfl)) (hw _ (List.mem_of_getElem? (i := 34) rfl)) (hw _ (List.mem_of_getElem? (i := 23) rfl)) rfl (hw _ (List.mem_of_getElem? (i := 33) rfl)) (hw _ (List.mem_of_getElem? (i := 4) rfl)) (hw _ (List.mem_of_getElem? (i := 35) rfl)) (by decide) (rm_slot K.l Z a0 hw [] a1 tb y 16 T2 S2 h n0 hz F_table_a1 A_tb (Or.inr rfl) RP hlen) pd_I_to_I rfl (rest := [.ref tb]) rfl rfl (Nat.le_of_eq rfl) (by decide) (by decide) (by decide) (by decide) ?_
        rintro v2 h1 ⟨⟨r, k, rfl, hr, hat⟩, rfl⟩
        show Go K h 1 16 52 [.val (.ref a1), .val (.ref ta), .val (.ref ta), .val (.int q3), .val (.int i), .val (.int y)] [.int r, .ref tb]
        have hyn : ¬ (y ∈ S2) := by
          rw [hS2.mem_iff]
          have q := List.Sublist.nodup hsub hF
          rw [hsn] at q
          intro t
          exact (List.nodup_append.mp q).2.2 y t y (by simp) rfl
        have hm : T2[own_pos 16 y k]? = some (-1 : Int32) := by
          rcases hat.2.2 with t | t
          · exact t
          · exact absurd (own_old RP hc39 t) hyn
        have hlt : own_pos 16 y k < T2.length := (List.getElem?_eq_some_iff.mp hm).1
        refine w_iload 54 C d10_52 rfl rfl ?_
        refine w_iastore 55 (own_pos 16 y k) C A_tb g_tb d10_54 rfl hr hlt ?_
        intro h3 K_h3 A_tb'
        replace A_tb : Ai Z h3 tb .int (T2.set (own_pos 16 y k) y) := A_tb'
        replace E_a1 := E_a1.keep K_h3
        replace F_table_a1 := F_table_a1.keep K_h3 (ninS ne2 nin0)
        replace F_size_a1 := F_size_a1.keep K_h3 (ninS ne2 nin0)
        replace A_ta := A_ta.keep K_h3 (ninS ne1 nin0)
        replace hz := Nat.le_trans hz K_h3.1
        replace KK := KK.trans K_h3 (allS (Or.inr sz_tb) all0)
        refine w_iinc (z := (i + (1 : Int32))) 58 [.val (.ref a1), .val (.ref ta), .val (.ref ta), .val (.int q3), .val (.int (i + (1 : Int32))), .val (.int y)] C d10_55 rfl rfl rfl rfl ?_
        refine w_goto 24 C d10_58 rfl ?_
        exact ih (ni + 1) _ _ _ _ (y :: S2) (Or.inr ⟨y, rfl⟩) (by omega) hi1 hz KK E_a1 F_table_a1 F_size_a1 A_ta A_tb (own_add RP (hpos y hyF) hat hm (by decide)) (by rw [hsn]; exact (List.Perm.cons y hS2).trans (List.perm_append_singleton y _).symm)
    · refine w_istore 36 [.val (.ref a1), .val (.ref ta), .val (.ref ta), .val (.int q3), .val (.int i), .val (.int y)] C d10_34 rfl rfl ?_
      refine w_iload 38 C d10_36 rfl rfl ?_
      refine w_iconst 39 (-1 : Int32) C d10_38 rfl rfl ?_
      refine w_icmp 55 42 C d10_39 rfl rfl (fun (hc39 : y = (-1 : Int32)) => ?_) (fun (hc39 : ¬ (y = (-1 : Int32))) => ?_)
      · refine w_iinc (z := (i + (1 : Int32))) 58 [.val (.ref a1), .val (.ref ta), .val (.ref ta), .val (.int q3), .val (.int (i + (1 : Int32))), .val (.int y)] C d10_55 rfl rfl rfl rfl ?_
        refine w_goto 24 C d10_58 rfl ?_
        rw [if_pos hc39] at hsn
        exact ih (ni + 1) _ _ h T2 S2 (Or.inr ⟨y, rfl⟩) (by omega) hi1 hz KK E_a1 F_table_a1 F_size_a1 A_ta A_tb RP (by rw [hsn]; exact hS2)
      · refine w_aloadN 43 C d10_42 rfl rfl rfl ?_
        refine w_getF (host := "") 46 C F_table_a1 d10_43 rfl (Or.inl (hw _ (List.mem_of_getElem? (i := 18) rfl))) Via.refl ?_
        refine w_aloadN 47 C d10_46 rfl rfl rfl ?_
        refine w_iload 49 C d10_47 rfl rfl ?_
        rw [if_neg hc39] at hsn
        have hyF : y ∈ own_F T := by rw [own_memF]; exact ⟨List.mem_of_getElem? hy, hc39⟩
        have hlen : S2.length < 16 := by
          have q1 := hS2.length_eq
          have q2 := hsub.length_le
          rw [hsn] at q2; simp at q2; omega
        refine w_callP (y := (⟨"com/example/ontology_path_queries/ontologypathqueries/engine/IntSet", "slotOf", "(I)I"⟩ : MethodName)) (z := (⟨"com/example/ontology_path_queries/ontologypathqueries/engine/IntSet", "toArray", "()[I"⟩ : MethodName)) (a := a1) 52 1 [.int y] C E_a1 d10_49 rfl (hw _ (List.mem_of_getElem? (i := 32) rfl)) (hw _ (List.mem_of_getElem? (i := 34) rfl)) (hw _ (List.mem_of_getElem? (i := 23) rfl)) rfl (hw _ (List.mem_of_getElem? (i := 33) rfl)) (hw _ (List.mem_of_getElem? (i := 4) rfl)) (hw _ (List.mem_of_getElem? (i := 35) rfl)) (by decide) (rm_slot K.l Z a0 hw [] a1 tb y 16 T2 S2 h n0 hz F_table_a1 A_tb (Or.inr rfl) RP hlen) pd_I_to_I rfl (rest := [.ref tb]) rfl rfl (Nat.le_of_eq rfl) (by decide) (by decide) (by decide) (by decide) ?_
        rintro v5 h4 ⟨⟨r, k, rfl, hr, hat⟩, rfl⟩
        show Go K h 1 16 52 [.val (.ref a1), .val (.ref ta), .val (.ref ta), .val (.int q3), .val (.int i), .val (.int y)] [.int r, .ref tb]
        have hyn : ¬ (y ∈ S2) := by
          rw [hS2.mem_iff]
          have q := List.Sublist.nodup hsub hF
          rw [hsn] at q
          intro t
          exact (List.nodup_append.mp q).2.2 y t y (by simp) rfl
        have hm : T2[own_pos 16 y k]? = some (-1 : Int32) := by
          rcases hat.2.2 with t | t
          · exact t
          · exact absurd (own_old RP hc39 t) hyn
        have hlt : own_pos 16 y k < T2.length := (List.getElem?_eq_some_iff.mp hm).1
        refine w_iload 54 C d10_52 rfl rfl ?_
        refine w_iastore 55 (own_pos 16 y k) C A_tb g_tb d10_54 rfl hr hlt ?_
        intro h6 K_h6 A_tb'
        replace A_tb : Ai Z h6 tb .int (T2.set (own_pos 16 y k) y) := A_tb'
        replace E_a1 := E_a1.keep K_h6
        replace F_table_a1 := F_table_a1.keep K_h6 (ninS ne2 nin0)
        replace F_size_a1 := F_size_a1.keep K_h6 (ninS ne2 nin0)
        replace A_ta := A_ta.keep K_h6 (ninS ne1 nin0)
        replace hz := Nat.le_trans hz K_h6.1
        replace KK := KK.trans K_h6 (allS (Or.inr sz_tb) all0)
        refine w_iinc (z := (i + (1 : Int32))) 58 [.val (.ref a1), .val (.ref ta), .val (.ref ta), .val (.int q3), .val (.int (i + (1 : Int32))), .val (.int y)] C d10_55 rfl rfl rfl rfl ?_
        refine w_goto 24 C d10_58 rfl ?_
        exact ih (ni + 1) _ _ _ _ (y :: S2) (Or.inr ⟨y, rfl⟩) (by omega) hi1 hz KK E_a1 F_table_a1 F_size_a1 A_ta A_tb (own_add RP (hpos y hyF) hat hm (by decide)) (by rw [hsn]; exact (List.Perm.cons y hS2).trans (List.perm_append_singleton y _).symm)
set_option maxRecDepth 65536 in
set_option maxHeartbeats 40000000 in
theorem rm_grow (l : Launch) (Z : State) (a0 : Array Value) (hw : ∀ d ∈ tables_1, d.before a0 Z = true) (ws : List Jvm.Cond) (a1 ta : Addr) (sz : Int32) (T S : List Int32) (h0 : Heap) (n0 : Nat) (hz : n0 ≤ h0.size) (E_a1 : Exa Z h0 a1 "com/example/ontology_path_queries/ontologypathqueries/engine/IntSet") (g_a1 : n0 ≤ a1) (F_table_a1 : Fld Z h0 a1 "com/example/ontology_path_queries/ontologypathqueries/engine/IntSet" "table" "[I" (.ref ta)) (F_size_a1 : Fld Z h0 a1 "com/example/ontology_path_queries/ontologypathqueries/engine/IntSet" "size" "I" (.int sz)) (A_ta : Ai Z h0 ta .int T) (RP : own_rep 8 T S) :
    OwnMet l (⟨"com/example/ontology_path_queries/ontologypathqueries/engine/IntSet", "grow", "()V"⟩ : MethodName) prog_34_method_7_code 6 none ws ({ frames := 2, cells := 1, slots := 16, locals := 29 } : Room) Z h0 n0 #[.ref a1] (fun v h => ∃ (tb : Addr) (T2 : List Int32), v = none ∧ h0.size ≤ tb ∧ n0 ≤ tb ∧ Keep h0 h [a1] ∧ Exa Z h a1 "com/example/ontology_path_queries/ontologypathqueries/engine/IntSet" ∧ Fld Z h a1 "com/example/ontology_path_queries/ontologypathqueries/engine/IntSet" "table" "[I" (.ref tb) ∧ Fld Z h a1 "com/example/ontology_path_queries/ontologypathqueries/engine/IntSet" "size" "I" (.int sz) ∧ Ai Z h tb .int T2 ∧ own_rep 16 T2 S) := by
  refine OwnMet.of (own := "com/example/ontology_path_queries/ontologypathqueries/engine/IntSet") (name := "grow") (desc := "()V") (Ls := [.val (.ref a1), .unset, .unset, .unset, .unset, .unset]) (plainFor_of_name pn_com_example_ontology_path_queries_ontologypathqueries_engine_IntSet) (fun m => by first | (simp [entryFrame, mkF, argsToLocals, Value.category]; done) | rfl) ?_
  intro K hK C
  have KK : Keep h0 h0 [a1] := Keep.refl _ _
  have hT := RP.1
  have hlt1 : a1 < h0.size := E_a1.lt
  have hlt2 : ta < h0.size := A_ta.lt
  refine w_aloadN 1 C d10_0 rfl rfl rfl ?_
  refine w_getF (host := "") 4 C F_table_a1 d10_1 rfl (Or.inl (hw _ (List.mem_of_getElem? (i := 18) rfl))) Via.refl ?_
  refine w_astoreN 5 [.val (.ref a1), .val (.ref ta), .unset, .unset, .unset, .unset] C d10_4 rfl rfl rfl ?_
  refine w_aloadN 6 C d10_5 rfl rfl rfl ?_
  refine w_iconst 7 (2 : Int32) C d10_6 rfl rfl ?_
  refine w_aloadN 8 C d10_7 rfl rfl rfl ?_
  refine w_len 9 T.length.toInt32 C A_ta d10_8 rfl rfl ?_
  refine w_imul 10 C d10_9 rfl ?_
  have e2 : (2 : Int32).toInt = 2 := by decide
  have hq : ((2 : Int32) * T.length.toInt32).toInt = ((16 : Nat) : Int) := by rw [own_imul, len_toInt (by omega), hT, e2]; decide
  refine w_callS (y := (⟨"com/example/ontology_path_queries/ontologypathqueries/engine/IntSet", "emptyTable", "(I)[I"⟩ : MethodName)) 13 1 [.int ((2 : Int32) * T.length.toInt32)] C d10_10 rfl (hw _ (List.mem_of_getElem? (i := 11) rfl)) (hw _ (List.mem_of_getElem? (i := 12) rfl)) (hw _ (List.mem_of_getElem? (i := 4) rfl)) (hw _ (List.mem_of_getElem? (i := 13) rfl)) (by decide) (rm_empty K.l Z a0 hw [] ((2 : Int32) * T.length.toInt32) 16 h0 n0 hz hq (by decide)) pd_I_to_aI rfl (rest := [.ref a1]) rfl rfl (Nat.le_of_eq rfl) (by decide) (by decide) (by decide) (by decide) ?_
  rintro v1 hF ⟨tb, rfl, sz_tb, g_tb, K1, A_tb⟩
  show Go K hF 1 16 13 [.val (.ref a1), .val (.ref ta), .unset, .unset, .unset, .unset] [.ref tb, .ref a1]
  have ne1 : ta ≠ tb := Nat.ne_of_lt (Nat.lt_of_lt_of_le hlt2 sz_tb)
  have ne2 : a1 ≠ tb := Nat.ne_of_lt (Nat.lt_of_lt_of_le hlt1 sz_tb)
  have ne3 : ta ≠ a1 := fun q => ne_arr E_a1 (hw _ (List.mem_of_getElem? (i := 3) rfl)) (A_ta.choose_spec.1) q.symm
  replace E_a1 := E_a1.keep K1
  replace F_table_a1 := F_table_a1.keep K1 nin0
  replace F_size_a1 := F_size_a1.keep K1 nin0
  replace A_ta := A_ta.keep K1 nin0
  replace hz := Nat.le_trans hz K1.1
  replace KK := KK.trans K1 all0
  refine w_putF (host := "") (ty := (.array .int)) 16 C F_table_a1 E_a1 g_a1 d10_13 rfl (Or.inl (hw _ (List.mem_of_getElem? (i := 18) rfl))) Via.refl (Or.inl (hw _ (List.mem_of_getElem? (i := 19) rfl))) (hw _ (List.mem_of_getElem? (i := 3) rfl)) (by decide) rfl rfl ?_
  intro h2 K_h2 W_h2 Fn_ En_
  replace F_size_a1 := F_size_a1.other W_h2 (Or.inr (slot_ne (Or.inl (hw _ (List.mem_of_getElem? (i := 26) rfl))) (Or.inl (hw _ (List.mem_of_getElem? (i := 19) rfl))) (by decide) (t := .int) (t' := (.array .int)) (by decide) (by decide)))
  replace F_table_a1 := Fn_
  replace E_a1 := En_
  replace A_ta := A_ta.keep K_h2 (ninS ne3 nin0)
  replace A_tb := A_tb.keep K_h2 (ninS (Ne.symm ne2) nin0)
  replace hz := Nat.le_trans hz K_h2.1
  replace KK := KK.trans K_h2 (allS (Or.inl (by simp)) all0)
  refine w_aloadN 17 C d10_16 rfl rfl rfl ?_
  refine w_astoreN 18 [.val (.ref a1), .val (.ref ta), .val (.ref ta), .unset, .unset, .unset] C d10_17 rfl rfl rfl ?_
  refine w_aloadN 19 C d10_18 rfl rfl rfl ?_
  refine w_len 20 T.length.toInt32 C A_ta d10_19 rfl rfl ?_
  refine w_istoreN 21 [.val (.ref a1), .val (.ref ta), .val (.ref ta), .val (.int T.length.toInt32), .unset, .unset] C d10_20 rfl rfl ?_
  refine w_iconst 22 (0 : Int32) C d10_21 rfl rfl ?_
  refine w_istore 24 [.val (.ref a1), .val (.ref ta), .val (.ref ta), .val (.int T.length.toInt32), .val (.int (0 : Int32)), .unset] C d10_22 rfl rfl ?_
  have hF : (own_F T).Nodup := RP.2.2.1.nodup_iff.mpr RP.2.2.2.1
  have hfl : (own_F T).length ≤ 8 := by rw [← hT]; exact List.length_filter_le _ _
  refine lp_grow (h0 := h0) hw C g_a1 g_tb sz_tb ne1 ne2 hT hF (fun y hy => RP.2.2.2.2 y (RP.2.2.1.mem_iff.mp hy)) (by omega) (by rw [len_toInt (by omega), hT]; rfl) ?_ 8 0 (0 : Int32) _ _ _ [] (Or.inl rfl) (by omega) (by decide) hz KK E_a1 F_table_a1 F_size_a1 A_ta A_tb (own_rep0 16) (by simp [own_F])
  intro h T2 k0 k1 k2 k3 k4 k5 k6
  exact ⟨tb, T2, rfl, sz_tb, g_tb, k1, k2, k3, k4, k5, own_rep_perm k6 RP.2.2.1⟩
set_option maxRecDepth 65536 in
set_option maxHeartbeats 40000000 in
theorem rm_add (l : Launch) (Z : State) (a0 : Array Value) (hw : ∀ d ∈ tables_1, d.before a0 Z = true) (ws : List Jvm.Cond) (a1 ta : Addr) (x sz : Int32) (T S : List Int32) (h0 : Heap) (n0 : Nat) (hz : n0 ≤ h0.size) (E_a1 : Exa Z h0 a1 "com/example/ontology_path_queries/ontologypathqueries/engine/IntSet") (g_a1 : n0 ≤ a1) (F_table_a1 : Fld Z h0 a1 "com/example/ontology_path_queries/ontologypathqueries/engine/IntSet" "table" "[I" (.ref ta)) (F_size_a1 : Fld Z h0 a1 "com/example/ontology_path_queries/ontologypathqueries/engine/IntSet" "size" "I" (.int sz)) (A_ta : Ai Z h0 ta .int T) (g_ta : n0 ≤ ta) (RP : own_rep 8 T S) (hx0 : 0 ≤ x.toInt) (hS : S.length ≤ 4) (hsz : sz.toInt = ((S.length : Nat) : Int)) :
    OwnMet l (⟨"com/example/ontology_path_queries/ontologypathqueries/engine/IntSet", "add", "(I)Z"⟩ : MethodName) prog_34_method_2_code 3 (some .boolean) ws ({ frames := 3, cells := 1, slots := 16, locals := 46 } : Room) Z h0 n0 #[.ref a1, .int x] (fun v h => ∃ (q : Int32) (tb : Addr) (cap : Nat) (T2 : List Int32) (s2 : Int32), v = some (.int q) ∧ (tb = ta ∨ h0.size ≤ tb) ∧ n0 ≤ tb ∧ Keep h0 h [a1, ta] ∧ Exa Z h a1 "com/example/ontology_path_queries/ontologypathqueries/engine/IntSet" ∧ Fld Z h a1 "com/example/ontology_path_queries/ontologypathqueries/engine/IntSet" "table" "[I" (.ref tb) ∧ Fld Z h a1 "com/example/ontology_path_queries/ontologypathqueries/engine/IntSet" "size" "I" (.int s2) ∧ Ai Z h tb .int T2 ∧ own_rep cap T2 (own_ins S x) ∧ s2.toInt = (((own_ins S x).length : Nat) : Int) ∧ (cap = 8 ∨ (cap = 16 ∧ (own_ins S x).length = 5))) := by
  refine OwnMet.of (own := "com/example/ontology_path_queries/ontologypathqueries/engine/IntSet") (name := "add") (desc := "(I)Z") (Ls := [.val (.ref a1), .val (.int x), .unset]) (plainFor_of_name pn_com_example_ontology_path_queries_ontologypathqueries_engine_IntSet) (fun m => by first | (simp [entryFrame, mkF, argsToLocals, Value.category]; done) | rfl) ?_
  intro K hK C
  have KK : Keep h0 h0 [a1, ta] := Keep.refl _ _
  have hT := RP.1
  have ne3 : ta ≠ a1 := fun q => ne_arr E_a1 (hw _ (List.mem_of_getElem? (i := 3) rfl)) (A_ta.choose_spec.1) q.symm
  have hx1 : ¬ (x = (-1 : Int32)) := fun q => by rw [q] at hx0; exact absurd hx0 (by decide)
  refine w_iloadN 1 C d6_0 rfl rfl ?_
  refine w_ifY 18 C d6_1 rfl (show (0 : Int32).toInt ≤ x.toInt from (by simp only [Int32.reduceToInt]; omega)) ?_
  refine w_aloadN 19 C d6_18 rfl rfl rfl ?_
  refine w_iloadN 20 C d6_19 rfl rfl ?_
  refine w_callP (y := (⟨"com/example/ontology_path_queries/ontologypathqueries/engine/IntSet", "slotOf", "(I)I"⟩ : MethodName)) (z := (⟨"com/example/ontology_path_queries/ontologypathqueries/engine/IntSet", "toArray", "()[I"⟩ : MethodName)) (a := a1) 23 0 [.int x] C E_a1 d6_20 rfl (hw _ (List.mem_of_getElem? (i := 32) rfl)) (hw _ (List.mem_of_getElem? (i := 34) rfl)) (hw _ (List.mem_of_getElem? (i := 23) rfl)) rfl (hw _ (List.mem_of_getElem? (i := 33) rfl)) (hw _ (List.mem_of_getElem? (i := 4) rfl)) (hw _ (List.mem_of_getElem? (i := 35) rfl)) (by decide) (rm_slot K.l Z a0 hw [] a1 ta x 8 T S h0 n0 hz F_table_a1 A_ta (Or.inl rfl) RP (by omega)) pd_I_to_I rfl (rest := []) rfl rfl (Nat.le_of_eq rfl) (by decide) (by decide) (by decide) (by decide) ?_
  rintro v2 h1 ⟨⟨r, k, rfl, hr, hat⟩, rfl⟩
  show Go K h0 0 0 23 [.val (.ref a1), .val (.int x), .unset] [.int r]
  have hpl : own_pos 8 x k < T.length := by rw [hT]; exact own_pos_lt _ _ _ (by decide)
  obtain ⟨y, hy⟩ : ∃ y, T[own_pos 8 x k]? = some y := ⟨_, List.getElem?_eq_getElem hpl⟩
  refine w_istoreN 24 [.val (.ref a1), .val (.int x), .val (.int r)] C d6_23 rfl rfl ?_
  refine w_aloadN 25 C d6_24 rfl rfl rfl ?_
  refine w_getF (host := "") 28 C F_table_a1 d6_25 rfl (Or.inl (hw _ (List.mem_of_getElem? (i := 18) rfl))) Via.refl ?_
  refine w_iloadN 29 C d6_28 rfl rfl ?_
  refine w_iaload 30 (own_pos 8 x k) y C A_ta d6_29 rfl hr hy ?_
  refine w_iloadN 31 C d6_30 rfl rfl ?_
  refine w_icmp 36 34 C d6_31 rfl rfl (fun (hc31 : ¬ (y = x)) => ?_) (fun (hc31 : ¬ (¬ (y = x))) => ?_)
  · have hm : T[own_pos 8 x k]? = some (-1 : Int32) := by
      rcases hat.2.2 with t | t
      · exact t
      · rw [hy] at t; exact absurd (Option.some.inj t) hc31
    have hn := own_new RP hx1 hat hm
    have hins : own_ins S x = x :: S := by unfold own_ins; rw [if_neg hn]
    have RP2 := own_add RP hx0 hat hm (by decide)
    have hil : (own_ins S x).length = S.length + 1 := by rw [hins]; rfl
    refine w_aloadN 37 C d6_36 rfl rfl rfl ?_
    refine w_getF (host := "") 40 C F_table_a1 d6_37 rfl (Or.inl (hw _ (List.mem_of_getElem? (i := 18) rfl))) Via.refl ?_
    refine w_iloadN 41 C d6_40 rfl rfl ?_
    refine w_iloadN 42 C d6_41 rfl rfl ?_
    refine w_iastore 43 (own_pos 8 x k) C A_ta g_ta d6_42 rfl hr hpl ?_
    intro h3 K_h3 A_ta'
    replace A_ta : Ai Z h3 ta .int (T.set (own_pos 8 x k) x) := A_ta'
    replace E_a1 := E_a1.keep K_h3
    replace F_table_a1 := F_table_a1.keep K_h3 (ninS (Ne.symm ne3) nin0)
    replace F_size_a1 := F_size_a1.keep K_h3 (ninS (Ne.symm ne3) nin0)
    replace hz := Nat.le_trans hz K_h3.1
    replace KK := KK.trans K_h3 (allS (Or.inl (by simp)) all0)
    refine w_aloadN 44 C d6_43 rfl rfl rfl ?_
    refine w_dup 45 C d6_44 rfl rfl ?_
    refine w_getF (host := "") 48 C F_size_a1 d6_45 rfl (Or.inl (hw _ (List.mem_of_getElem? (i := 25) rfl))) Via.refl ?_
    refine w_iconst 49 (1 : Int32) C d6_48 rfl rfl ?_
    refine w_iadd 50 C d6_49 rfl ?_
    refine w_putF (host := "") (ty := .int) 53 C F_size_a1 E_a1 g_a1 d6_50 rfl (Or.inl (hw _ (List.mem_of_getElem? (i := 25) rfl))) Via.refl (Or.inl (hw _ (List.mem_of_getElem? (i := 26) rfl))) (hw _ (List.mem_of_getElem? (i := 3) rfl)) (by decide) rfl rfl ?_
    intro h4 K_h4 W_h4 Fn_ En_
    replace F_table_a1 := F_table_a1.other W_h4 (Or.inr (slot_ne (Or.inl (hw _ (List.mem_of_getElem? (i := 19) rfl))) (Or.inl (hw _ (List.mem_of_getElem? (i := 26) rfl))) (by decide) (t := (.array .int)) (t' := .int) (by decide) (by decide)))
    replace F_size_a1 := Fn_
    replace E_a1 := En_
    replace A_ta := A_ta.keep K_h4 (ninS ne3 nin0)
    replace hz := Nat.le_trans hz K_h4.1
    replace KK := KK.trans K_h4 (allS (Or.inl (by simp)) all0)
    refine w_iconst 54 (2 : Int32) C d6_53 rfl rfl ?_
    refine w_aloadN 55 C d6_54 rfl rfl rfl ?_
    refine w_getF (host := "") 58 C F_size_a1 d6_55 rfl (Or.inl (hw _ (List.mem_of_getElem? (i := 25) rfl))) Via.refl ?_
    refine w_imul 59 C d6_58 rfl ?_
    refine w_aloadN 60 C d6_59 rfl rfl rfl ?_
    refine w_getF (host := "") 63 C F_table_a1 d6_60 rfl (Or.inl (hw _ (List.mem_of_getElem? (i := 18) rfl))) Via.refl ?_
    have hs2 : (sz + (1 : Int32)).toInt = (((own_ins S x).length : Nat) : Int) := by rw [own_iadd, hsz, hil, show (1 : Int32).toInt = 1 from by decide]; omega
    have hd2 : ((2 : Int32) * (sz + (1 : Int32))).toInt = 2 * (((own_ins S x).length : Nat) : Int) := by rw [own_imul, hs2, hil, show (2 : Int32).toInt = 2 from by decide]; omega
    have hlen8 : ((T.set (own_pos 8 x k) x).length.toInt32).toInt = 8 := by rw [len_toInt (by simp; omega)]; simp [hT]
    refine w_len 64 (T.set (own_pos 8 x k) x).length.toInt32 C A_ta d6_63 rfl rfl ?_
    have SZ : h0.size ≤ h4.size := KK.1
    refine w_icmp 71 67 C d6_64 rfl rfl (fun (hc64 : ((2 : Int32) * (sz + (1 : Int32))).toInt ≤ (T.set (own_pos 8 x k) x).length.toInt32.toInt) => ?_) (fun (hc64 : ¬ (((2 : Int32) * (sz + (1 : Int32))).toInt ≤ (T.set (own_pos 8 x k) x).length.toInt32.toInt)) => ?_)
    · refine w_iconst 72 (1 : Int32) C d6_71 rfl rfl ?_
      refine w_retN C (by simp) d6_72 rfl (by decide) (by decide) ?_
      exact ⟨_, ta, 8, _, _, rfl, Or.inl rfl, g_ta, KK, E_a1, F_table_a1, F_size_a1, A_ta, (by rw [hins]; exact RP2), hs2, Or.inl rfl⟩
    · refine w_aloadN 68 C d6_67 rfl rfl rfl ?_
      refine w_callP (y := (⟨"com/example/ontology_path_queries/ontologypathqueries/engine/IntSet", "grow", "()V"⟩ : MethodName)) (z := (⟨"com/example/ontology_path_queries/ontologypathqueries/engine/IntSet", "toArray", "()[I"⟩ : MethodName)) (a := a1) 71 0 [] C E_a1 d6_68 rfl (hw _ (List.mem_of_getElem? (i := 44) rfl)) (hw _ (List.mem_of_getElem? (i := 46) rfl)) (hw _ (List.mem_of_getElem? (i := 23) rfl)) rfl (hw _ (List.mem_of_getElem? (i := 45) rfl)) (hw _ (List.mem_of_getElem? (i := 4) rfl)) (hw _ (List.mem_of_getElem? (i := 47) rfl)) (by decide) (rm_grow K.l Z a0 hw [] a1 ta (sz + (1 : Int32)) _ (x :: S) h4 n0 hz E_a1 g_a1 F_table_a1 F_size_a1 A_ta RP2) pd__to_V rfl (rest := []) rfl rfl (Nat.le_of_eq rfl) (by decide) (by decide) (by decide) (by decide) ?_
      rintro v5 hG ⟨tb, T2, rfl, sz_tb, g_tb, K9, E_a1, F_table_a1, F_size_a1, A_tb, RP3⟩
      show Go K hG 1 16 71 [.val (.ref a1), .val (.int x), .val (.int r)] []
      replace KK := KK.trans K9 (allS (Or.inl (by simp)) all0)
      refine w_iconst 72 (1 : Int32) C d6_71 rfl rfl ?_
      refine w_retN C (by simp) d6_72 rfl (by decide) (by decide) ?_
      exact ⟨_, tb, 16, T2, _, rfl, Or.inr (Nat.le_trans SZ sz_tb), g_tb, KK, E_a1, F_table_a1, F_size_a1, A_tb, (by rw [hins]; exact RP3), hs2, Or.inr ⟨rfl, by omega⟩⟩
  · have hin : x ∈ S := own_old RP hx1 (by rw [hy, Classical.not_not.mp hc31])
    have hins : own_ins S x = S := by unfold own_ins; rw [if_pos hin]
    refine w_iconst 35 (0 : Int32) C d6_34 rfl rfl ?_
    refine w_retN C (by simp) d6_35 rfl (by decide) (by decide) ?_
    exact ⟨_, ta, 8, T, sz, rfl, Or.inl rfl, g_ta, KK, E_a1, F_table_a1, F_size_a1, A_ta, (by rw [hins]; exact RP), (by rw [hins]; exact hsz), Or.inl rfl⟩
set_option maxRecDepth 65536 in
set_option maxHeartbeats 40000000 in
theorem lp_arr {K : OwnK} {Z : State} {a0 : Array Value} (hw : ∀ d ∈ tables_1, d.before a0 Z = true) {n0 : Nat} {Post : Option Value → Heap → Prop} (C : Cx K Z "com/example/ontology_path_queries/ontologypathqueries/engine/IntSet" "toArray" prog_34_method_5_code 7 (some (.array .int)) ({ frames := 0, cells := 1, slots := 5, locals := 0 } : Room) n0 Post) {h0 : Heap} {a1 ta b : Addr} {T : List Int32} {q4 : Int32} (g_b : n0 ≤ b) (sz_b : h0.size ≤ b) (ne1 : ta ≠ b) (hT : T.length ≤ 16) (hq4 : q4.toInt = ((T.length : Nat) : Int)) (hl : (own_F T).length ≤ 5)
    (hx : ∀ (h : Heap), Keep h0 h [] → Ai Z h b .int (own_F T) → Post (some (.ref b)) h) :
    ∀ (d ni nn : Nat) (i n : Int32) (s6 : Slot) (h : Heap) (R : List Int32), (s6 = .unset ∨ ∃ q : Int32, s6 = .val (.int q)) → ni + d = T.length → i.toInt = (ni : Int) → n.toInt = (nn : Int) → nn = (own_F (T.take ni)).length → R.length = (own_F T).length → R.take nn = own_F (T.take ni) → n0 ≤ h.size → Keep h0 h [] → Ai Z h ta .int T → Ai Z h b .int R →
      Go K h 1 5 21 [.val (.ref a1), .val (.ref b), .val (.int n), .val (.ref ta), .val (.int q4), .val (.int i), s6] [] := by
  intro d
  induction d with
  | zero =>
    intro ni nn i n s6 h R h6 hd hi hn hnn hR hRt hz KK A_ta A_b
    have sz_b := sz_b
    refine w_iload 23 C d5_21 rfl rfl ?_
    refine w_iload 25 C d5_23 rfl rfl ?_
    refine w_icmpY 54 C d5_25 rfl (show q4.toInt ≤ i.toInt from (by omega)) ?_
    refine w_aloadN 55 C d5_54 rfl rfl rfl ?_
    refine w_retA C rfl rfl rfl d5_55 (by decide) (by decide) ?_
    exact (hx h KK (by rw [List.take_of_length_le (show T.length ≤ ni from by omega)] at hnn hRt; rw [List.take_of_length_le (by omega)] at hRt; rw [← hRt]; exact A_b))
  | succ d ih =>
    intro ni nn i n s6 h R h6 hd hi hn hnn hR hRt hz KK A_ta A_b
    have sz_b := sz_b
    obtain ⟨y, hy⟩ : ∃ y, T[ni]? = some y := ⟨_, List.getElem?_eq_getElem (by omega)⟩
    have hi1 : (i + (1 : Int32)).toInt = ((ni + 1 : Nat) : Int) := by rw [own_iadd, hi, show (1 : Int32).toInt = 1 from by decide]; omega
    have hsn := own_Fsnoc T ni y hy
    have hsub : (own_F (T.take (ni + 1))).Sublist (own_F T) := List.Sublist.filter _ (List.take_sublist _ _)
    have hsl := hsub.length_le
    refine w_iload 23 C d5_21 rfl rfl ?_
    refine w_iload 25 C d5_23 rfl rfl ?_
    refine w_icmpN 28 C d5_25 rfl (show ¬ (q4.toInt ≤ i.toInt) from (by omega)) ?_
    refine w_aloadN 29 C d5_28 rfl rfl rfl ?_
    refine w_iload 31 C d5_29 rfl rfl ?_
    refine w_iaload 32 (ni) y C A_ta d5_31 rfl hi hy ?_
    rcases h6 with rfl | ⟨q6, rfl⟩
    · refine w_istore 34 [.val (.ref a1), .val (.ref b), .val (.int n), .val (.ref ta), .val (.int q4), .val (.int i), .val (.int y)] C d5_32 rfl rfl ?_
      refine w_iload 36 C d5_34 rfl rfl ?_
      refine w_iconst 37 (-1 : Int32) C d5_36 rfl rfl ?_
      refine w_icmp 48 40 C d5_37 rfl rfl (fun (hc37 : y = (-1 : Int32)) => ?_) (fun (hc37 : ¬ (y = (-1 : Int32))) => ?_)
      · refine w_iinc (z := (i + (1 : Int32))) 51 [.val (.ref a1), .val (.ref b), .val (.int n), .val (.ref ta), .val (.int q4), .val (.int (i + (1 : Int32))), .val (.int y)] C d5_48 rfl rfl rfl rfl ?_
        refine w_goto 21 C d5_51 rfl ?_
        rw [if_pos hc37] at hsn
        exact ih (ni + 1) nn _ _ _ h R (Or.inr ⟨y, rfl⟩) (by omega) hi1 hn (by rw [hsn]; exact hnn) hR (by rw [hsn]; exact hRt) hz KK A_ta A_b
      · rw [if_neg hc37] at hsn
        rw [hsn] at hsl
        simp only [List.length_append, List.length_singleton] at hsl
        refine w_aloadN 41 C d5_40 rfl rfl rfl ?_
        refine w_iloadN 42 C d5_41 rfl rfl ?_
        refine w_iinc (z := (n + (1 : Int32))) 45 [.val (.ref a1), .val (.ref b), .val (.int (n + (1 : Int32))), .val (.ref ta), .val (.int q4), .val (.int i), .val (.int y)] C d5_42 rfl rfl rfl rfl ?_
        refine w_iload 47 C d5_45 rfl rfl ?_
        refine w_iastore 48 (nn) C A_b g_b d5_47 rfl hn (by omega) ?_
        intro h1 K_h1 A_b'
        replace A_b : Ai Z h1 b .int (R.set nn y) := A_b'
        replace A_ta := A_ta.keep K_h1 (ninS ne1 nin0)
        replace hz := Nat.le_trans hz K_h1.1
        replace KK := KK.trans K_h1 (allS (Or.inr sz_b) all0)
        refine w_iinc (z := (i + (1 : Int32))) 51 [.val (.ref a1), .val (.ref b), .val (.int (n + (1 : Int32))), .val (.ref ta), .val (.int q4), .val (.int (i + (1 : Int32))), .val (.int y)] C d5_48 rfl rfl rfl rfl ?_
        refine w_goto 21 C d5_51 rfl ?_
        exact ih (ni + 1) (nn + 1) _ _ _ _ _ (Or.inr ⟨y, rfl⟩) (by omega) hi1 (by rw [own_iadd, hn, show (1 : Int32).toInt = 1 from by decide]; omega) (by rw [hsn]; simp; omega) (by simpa using hR) (by rw [hsn, own_take_set R nn y (by omega), hRt]) hz KK A_ta A_b
    · refine w_istore 34 [.val (.ref a1), .val (.ref b), .val (.int n), .val (.ref ta), .val (.int q4), .val (.int i), .val (.int y)] C d5_32 rfl rfl ?_
      refine w_iload 36 C d5_34 rfl rfl ?_
      refine w_iconst 37 (-1 : Int32) C d5_36 rfl rfl ?_
      refine w_icmp 48 40 C d5_37 rfl rfl (fun (hc37 : y = (-1 : Int32)) => ?_) (fun (hc37 : ¬ (y = (-1 : Int32))) => ?_)
      · refine w_iinc (z := (i + (1 : Int32))) 51 [.val (.ref a1), .val (.ref b), .val (.int n), .val (.ref ta), .val (.int q4), .val (.int (i + (1 : Int32))), .val (.int y)] C d5_48 rfl rfl rfl rfl ?_
        refine w_goto 21 C d5_51 rfl ?_
        rw [if_pos hc37] at hsn
        exact ih (ni + 1) nn _ _ _ h R (Or.inr ⟨y, rfl⟩) (by omega) hi1 hn (by rw [hsn]; exact hnn) hR (by rw [hsn]; exact hRt) hz KK A_ta A_b
      · rw [if_neg hc37] at hsn
        rw [hsn] at hsl
        simp only [List.length_append, List.length_singleton] at hsl
        refine w_aloadN 41 C d5_40 rfl rfl rfl ?_
        refine w_iloadN 42 C d5_41 rfl rfl ?_
        refine w_iinc (z := (n + (1 : Int32))) 45 [.val (.ref a1), .val (.ref b), .val (.int (n + (1 : Int32))), .val (.ref ta), .val (.int q4), .val (.int i), .val (.int y)] C d5_42 rfl rfl rfl rfl ?_
        refine w_iload 47 C d5_45 rfl rfl ?_
        refine w_iastore 48 (nn) C A_b g_b d5_47 rfl hn (by omega) ?_
        intro h2 K_h2 A_b'
        replace A_b : Ai Z h2 b .int (R.set nn y) := A_b'
        replace A_ta := A_ta.keep K_h2 (ninS ne1 nin0)
        replace hz := Nat.le_trans hz K_h2.1
        replace KK := KK.trans K_h2 (allS (Or.inr sz_b) all0)
        refine w_iinc (z := (i + (1 : Int32))) 51 [.val (.ref a1), .val (.ref b), .val (.int (n + (1 : Int32))), .val (.ref ta), .val (.int q4), .val (.int (i + (1 : Int32))), .val (.int y)] C d5_48 rfl rfl rfl rfl ?_
        refine w_goto 21 C d5_51 rfl ?_
        exact ih (ni + 1) (nn + 1) _ _ _ _ _ (Or.inr ⟨y, rfl⟩) (by omega) hi1 (by rw [own_iadd, hn, show (1 : Int32).toInt = 1 from by decide]; omega) (by rw [hsn]; simp; omega) (by simpa using hR) (by rw [hsn, own_take_set R nn y (by omega), hRt]) hz KK A_ta A_b
set_option maxRecDepth 65536 in
set_option maxHeartbeats 40000000 in
theorem rm_arr (l : Launch) (Z : State) (a0 : Array Value) (hw : ∀ d ∈ tables_1, d.before a0 Z = true) (ws : List Jvm.Cond) (a1 ta : Addr) (sz : Int32) (cap : Nat) (T S : List Int32) (h0 : Heap) (n0 : Nat) (hz : n0 ≤ h0.size) (E_a1 : Exa Z h0 a1 "com/example/ontology_path_queries/ontologypathqueries/engine/IntSet") (F_table_a1 : Fld Z h0 a1 "com/example/ontology_path_queries/ontologypathqueries/engine/IntSet" "table" "[I" (.ref ta)) (F_size_a1 : Fld Z h0 a1 "com/example/ontology_path_queries/ontologypathqueries/engine/IntSet" "size" "I" (.int sz)) (A_ta : Ai Z h0 ta .int T) (RP : own_rep cap T S) (hc : cap ≤ 16) (hS : S.length ≤ 5) (hsz : sz.toInt = ((S.length : Nat) : Int)) :
    OwnMet l (⟨"com/example/ontology_path_queries/ontologypathqueries/engine/IntSet", "toArray", "()[I"⟩ : MethodName) prog_34_method_5_code 7 (some (.array .int)) ws ({ frames := 0, cells := 1, slots := 5, locals := 0 } : Room) Z h0 n0 #[.ref a1] (fun v h => ∃ (b : Addr) (R : List Int32), v = some (.ref b) ∧ h0.size ≤ b ∧ Keep h0 h [] ∧ Ai Z h b .int R ∧ R.Perm S) := by
  refine OwnMet.of (own := "com/example/ontology_path_queries/ontologypathqueries/engine/IntSet") (name := "toArray") (desc := "()[I") (Ls := [.val (.ref a1), .unset, .unset, .unset, .unset, .unset, .unset]) (plainFor_of_name pn_com_example_ontology_path_queries_ontologypathqueries_engine_IntSet) (fun m => by first | (simp [entryFrame, mkF, argsToLocals, Value.category]; done) | rfl) ?_
  intro K hK C
  have KK : Keep h0 h0 [] := Keep.refl _ _
  have hT := RP.1
  have hpl := RP.2.2.1.length_eq
  refine w_aloadN 1 C d5_0 rfl rfl rfl ?_
  refine w_getF (host := "") 4 C F_size_a1 d5_1 rfl (Or.inl (hw _ (List.mem_of_getElem? (i := 25) rfl))) Via.refl ?_
  refine w_newarr 6 5 S.length C hz d5_4 rfl (hw _ (List.mem_of_getElem? (i := 1) rfl)) rfl hsz hS (by decide) (by decide) (by decide) ?_
  intro h1 b2 X_b2 g_b2 sz0_b2 A_b2 hz_
  replace hz := hz_
  replace A_b2 : Ai Z h1 b2 .int (List.replicate S.length (0 : Int32)) := A_b2
  have ne_a1_b2 : a1 ≠ b2 := Nat.ne_of_lt (Nat.lt_of_lt_of_le E_a1.lt sz0_b2)
  have ne_ta_b2 : ta ≠ b2 := Nat.ne_of_lt (Nat.lt_of_lt_of_le A_ta.lt sz0_b2)
  have sz_b2 : h0.size ≤ b2 := Nat.le_trans KK.1 sz0_b2
  replace E_a1 := E_a1.ext X_b2
  replace F_table_a1 := F_table_a1.ext X_b2
  replace F_size_a1 := F_size_a1.ext X_b2
  replace A_ta := A_ta.ext X_b2
  replace KK := KK.ext X_b2
  show Go K h1 1 5 6 [.val (.ref a1), .unset, .unset, .unset, .unset, .unset, .unset] [.ref b2]
  refine w_astoreN 7 [.val (.ref a1), .val (.ref b2), .unset, .unset, .unset, .unset, .unset] C d5_6 rfl rfl rfl ?_
  refine w_iconst 8 (0 : Int32) C d5_7 rfl rfl ?_
  refine w_istoreN 9 [.val (.ref a1), .val (.ref b2), .val (.int (0 : Int32)), .unset, .unset, .unset, .unset] C d5_8 rfl rfl ?_
  refine w_aloadN 10 C d5_9 rfl rfl rfl ?_
  refine w_getF (host := "") 13 C F_table_a1 d5_10 rfl (Or.inl (hw _ (List.mem_of_getElem? (i := 18) rfl))) Via.refl ?_
  refine w_astoreN 14 [.val (.ref a1), .val (.ref b2), .val (.int (0 : Int32)), .val (.ref ta), .unset, .unset, .unset] C d5_13 rfl rfl rfl ?_
  refine w_aloadN 15 C d5_14 rfl rfl rfl ?_
  refine w_len 16 T.length.toInt32 C A_ta d5_15 rfl rfl ?_
  refine w_istore 18 [.val (.ref a1), .val (.ref b2), .val (.int (0 : Int32)), .val (.ref ta), .val (.int T.length.toInt32), .unset, .unset] C d5_16 rfl rfl ?_
  refine w_iconst 19 (0 : Int32) C d5_18 rfl rfl ?_
  refine w_istore 21 [.val (.ref a1), .val (.ref b2), .val (.int (0 : Int32)), .val (.ref ta), .val (.int T.length.toInt32), .val (.int (0 : Int32)), .unset] C d5_19 rfl rfl ?_
  refine lp_arr (h0 := h0) hw C g_b2 sz_b2 ne_ta_b2 (by omega) (len_toInt (by omega)) (by omega) ?_ T.length 0 0 (0 : Int32) (0 : Int32) _ _ _ (Or.inl rfl) (by omega) (by decide) (by decide) (by simp [own_F]) (by simp; omega) (by simp [own_F]) hz KK A_ta A_b2
  intro h k1 k2
  exact ⟨b2, _, rfl, sz_b2, k1, k2, RP.2.2.1⟩
set_option maxRecDepth 65536 in
set_option maxHeartbeats 40000000 in
theorem rm_fresh1 (l : Launch) (Z : State) (a0 : Array Value) (hw : ∀ d ∈ tables_1, d.before a0 Z = true) (ws : List Jvm.Cond) (a : Addr) (x0 x1 x2 x3 x4 : Int32) (h0 : Heap) (n0 : Nat) (hz : n0 ≤ h0.size) (A_a : Ai Z h0 a .int [x0, x1, x2, x3, x4]) :
    OwnMet l (⟨"com/example/ontology_path_queries/ontologypathqueries/engine/IntSetToArrayPinLaw", "fresh", "([II)Z"⟩ : MethodName) method_3_code 2 (some .boolean) ws ({ frames := 0, cells := 0, slots := 0, locals := 0 } : Room) Z h0 n0 #[.ref a, .int (1 : Int32)] (fun v h => (∃ z : Int32, v = some (.int z) ∧ (((¬ (x0 = x1)) ∧ z = 1) ∨ (¬ (¬ (x0 = x1)) ∧ z = 0))) ∧ h0 = h) := by
  refine OwnMet.of (own := "com/example/ontology_path_queries/ontologypathqueries/engine/IntSetToArrayPinLaw") (name := "fresh") (desc := "([II)Z") (Ls := [.val (.ref a), .val (.int (1 : Int32))]) (plainFor_of_name pn_com_example_ontology_path_queries_ontologypathqueries_engine_IntSetToArrayPinLaw) (fun m => by first | (simp [entryFrame, mkF, argsToLocals, Value.category]; done) | rfl) ?_
  intro K hK C
  refine w_iloadN 1 C d8_0 rfl rfl ?_
  refine w_ifN 4 C d8_1 rfl (show ¬ ((1 : Int32).toInt ≤ (0 : Int32).toInt) from (by decide)) ?_
  refine w_aloadN 5 C d8_4 rfl rfl rfl ?_
  refine w_iconst 6 (0 : Int32) C d8_5 rfl rfl ?_
  refine w_iaload 7 0 x0 C A_a d8_6 rfl (by decide) rfl ?_
  refine w_aloadN 8 C d8_7 rfl rfl rfl ?_
  refine w_iloadN 9 C d8_8 rfl rfl ?_
  refine w_iaload 10 1 x1 C A_a d8_9 rfl (by decide) rfl ?_
  refine w_icmp 15 13 C d8_10 rfl rfl (fun (hc10 : ¬ (x0 = x1)) => ?_) (fun (hc10 : ¬ (¬ (x0 = x1))) => ?_)
  · refine w_iloadN 16 C d8_15 rfl rfl ?_
    refine w_iconst 17 (1 : Int32) C d8_16 rfl rfl ?_
    refine w_icmpY 31 C d8_17 rfl (show (1 : Int32).toInt ≤ (1 : Int32).toInt from (by decide)) ?_
    refine w_iloadN 32 C d8_31 rfl rfl ?_
    refine w_iconst 33 (2 : Int32) C d8_32 rfl rfl ?_
    refine w_icmpY 47 C d8_33 rfl (show (1 : Int32).toInt ≤ (2 : Int32).toInt from (by decide)) ?_
    refine w_iloadN 48 C d8_47 rfl rfl ?_
    refine w_iconst 49 (3 : Int32) C d8_48 rfl rfl ?_
    refine w_icmpY 63 C d8_49 rfl (show (1 : Int32).toInt ≤ (3 : Int32).toInt from (by decide)) ?_
    refine w_iconst 64 (1 : Int32) C d8_63 rfl rfl ?_
    refine w_retN C (by simp) d8_64 rfl (by decide) (by decide) ?_
    exact ⟨⟨_, rfl, Or.inl ⟨hc10, rfl⟩⟩, rfl⟩
  · refine w_iconst 14 (0 : Int32) C d8_13 rfl rfl ?_
    refine w_retN C (by simp) d8_14 rfl (by decide) (by decide) ?_
    exact ⟨⟨_, rfl, Or.inr ⟨fun q => q (Classical.not_not.mp hc10), rfl⟩⟩, rfl⟩
set_option maxRecDepth 65536 in
set_option maxHeartbeats 40000000 in
theorem rm_fresh2 (l : Launch) (Z : State) (a0 : Array Value) (hw : ∀ d ∈ tables_1, d.before a0 Z = true) (ws : List Jvm.Cond) (a : Addr) (x0 x1 x2 x3 x4 : Int32) (h0 : Heap) (n0 : Nat) (hz : n0 ≤ h0.size) (A_a : Ai Z h0 a .int [x0, x1, x2, x3, x4]) :
    OwnMet l (⟨"com/example/ontology_path_queries/ontologypathqueries/engine/IntSetToArrayPinLaw", "fresh", "([II)Z"⟩ : MethodName) method_3_code 2 (some .boolean) ws ({ frames := 0, cells := 0, slots := 0, locals := 0 } : Room) Z h0 n0 #[.ref a, .int (2 : Int32)] (fun v h => (∃ z : Int32, v = some (.int z) ∧ (((¬ (x0 = x2) ∧ ¬ (x1 = x2)) ∧ z = 1) ∨ (¬ (¬ (x0 = x2) ∧ ¬ (x1 = x2)) ∧ z = 0))) ∧ h0 = h) := by
  refine OwnMet.of (own := "com/example/ontology_path_queries/ontologypathqueries/engine/IntSetToArrayPinLaw") (name := "fresh") (desc := "([II)Z") (Ls := [.val (.ref a), .val (.int (2 : Int32))]) (plainFor_of_name pn_com_example_ontology_path_queries_ontologypathqueries_engine_IntSetToArrayPinLaw) (fun m => by first | (simp [entryFrame, mkF, argsToLocals, Value.category]; done) | rfl) ?_
  intro K hK C
  refine w_iloadN 1 C d8_0 rfl rfl ?_
  refine w_ifN 4 C d8_1 rfl (show ¬ ((2 : Int32).toInt ≤ (0 : Int32).toInt) from (by decide)) ?_
  refine w_aloadN 5 C d8_4 rfl rfl rfl ?_
  refine w_iconst 6 (0 : Int32) C d8_5 rfl rfl ?_
  refine w_iaload 7 0 x0 C A_a d8_6 rfl (by decide) rfl ?_
  refine w_aloadN 8 C d8_7 rfl rfl rfl ?_
  refine w_iloadN 9 C d8_8 rfl rfl ?_
  refine w_iaload 10 2 x2 C A_a d8_9 rfl (by decide) rfl ?_
  refine w_icmp 15 13 C d8_10 rfl rfl (fun (hc10 : ¬ (x0 = x2)) => ?_) (fun (hc10 : ¬ (¬ (x0 = x2))) => ?_)
  · refine w_iloadN 16 C d8_15 rfl rfl ?_
    refine w_iconst 17 (1 : Int32) C d8_16 rfl rfl ?_
    refine w_icmpN 20 C d8_17 rfl (show ¬ ((2 : Int32).toInt ≤ (1 : Int32).toInt) from (by decide)) ?_
    refine w_aloadN 21 C d8_20 rfl rfl rfl ?_
    refine w_iconst 22 (1 : Int32) C d8_21 rfl rfl ?_
    refine w_iaload 23 1 x1 C A_a d8_22 rfl (by decide) rfl ?_
    refine w_aloadN 24 C d8_23 rfl rfl rfl ?_
    refine w_iloadN 25 C d8_24 rfl rfl ?_
    refine w_iaload 26 2 x2 C A_a d8_25 rfl (by decide) rfl ?_
    refine w_icmp 31 29 C d8_26 rfl rfl (fun (hc26 : ¬ (x1 = x2)) => ?_) (fun (hc26 : ¬ (¬ (x1 = x2))) => ?_)
    · refine w_iloadN 32 C d8_31 rfl rfl ?_
      refine w_iconst 33 (2 : Int32) C d8_32 rfl rfl ?_
      refine w_icmpY 47 C d8_33 rfl (show (2 : Int32).toInt ≤ (2 : Int32).toInt from (by decide)) ?_
      refine w_iloadN 48 C d8_47 rfl rfl ?_
      refine w_iconst 49 (3 : Int32) C d8_48 rfl rfl ?_
      refine w_icmpY 63 C d8_49 rfl (show (2 : Int32).toInt ≤ (3 : Int32).toInt from (by decide)) ?_
      refine w_iconst 64 (1 : Int32) C d8_63 rfl rfl ?_
      refine w_retN C (by simp) d8_64 rfl (by decide) (by decide) ?_
      exact ⟨⟨_, rfl, Or.inl ⟨⟨hc10, hc26⟩, rfl⟩⟩, rfl⟩
    · refine w_iconst 30 (0 : Int32) C d8_29 rfl rfl ?_
      refine w_retN C (by simp) d8_30 rfl (by decide) (by decide) ?_
      exact ⟨⟨_, rfl, Or.inr ⟨fun q => q.2 (Classical.not_not.mp hc26), rfl⟩⟩, rfl⟩
  · refine w_iconst 14 (0 : Int32) C d8_13 rfl rfl ?_
    refine w_retN C (by simp) d8_14 rfl (by decide) (by decide) ?_
    exact ⟨⟨_, rfl, Or.inr ⟨fun q => q.1 (Classical.not_not.mp hc10), rfl⟩⟩, rfl⟩
set_option maxRecDepth 65536 in
set_option maxHeartbeats 40000000 in
theorem rm_fresh3 (l : Launch) (Z : State) (a0 : Array Value) (hw : ∀ d ∈ tables_1, d.before a0 Z = true) (ws : List Jvm.Cond) (a : Addr) (x0 x1 x2 x3 x4 : Int32) (h0 : Heap) (n0 : Nat) (hz : n0 ≤ h0.size) (A_a : Ai Z h0 a .int [x0, x1, x2, x3, x4]) :
    OwnMet l (⟨"com/example/ontology_path_queries/ontologypathqueries/engine/IntSetToArrayPinLaw", "fresh", "([II)Z"⟩ : MethodName) method_3_code 2 (some .boolean) ws ({ frames := 0, cells := 0, slots := 0, locals := 0 } : Room) Z h0 n0 #[.ref a, .int (3 : Int32)] (fun v h => (∃ z : Int32, v = some (.int z) ∧ (((¬ (x0 = x3) ∧ ¬ (x1 = x3) ∧ ¬ (x2 = x3)) ∧ z = 1) ∨ (¬ (¬ (x0 = x3) ∧ ¬ (x1 = x3) ∧ ¬ (x2 = x3)) ∧ z = 0))) ∧ h0 = h) := by
  refine OwnMet.of (own := "com/example/ontology_path_queries/ontologypathqueries/engine/IntSetToArrayPinLaw") (name := "fresh") (desc := "([II)Z") (Ls := [.val (.ref a), .val (.int (3 : Int32))]) (plainFor_of_name pn_com_example_ontology_path_queries_ontologypathqueries_engine_IntSetToArrayPinLaw) (fun m => by first | (simp [entryFrame, mkF, argsToLocals, Value.category]; done) | rfl) ?_
  intro K hK C
  refine w_iloadN 1 C d8_0 rfl rfl ?_
  refine w_ifN 4 C d8_1 rfl (show ¬ ((3 : Int32).toInt ≤ (0 : Int32).toInt) from (by decide)) ?_
  refine w_aloadN 5 C d8_4 rfl rfl rfl ?_
  refine w_iconst 6 (0 : Int32) C d8_5 rfl rfl ?_
  refine w_iaload 7 0 x0 C A_a d8_6 rfl (by decide) rfl ?_
  refine w_aloadN 8 C d8_7 rfl rfl rfl ?_
  refine w_iloadN 9 C d8_8 rfl rfl ?_
  refine w_iaload 10 3 x3 C A_a d8_9 rfl (by decide) rfl ?_
  refine w_icmp 15 13 C d8_10 rfl rfl (fun (hc10 : ¬ (x0 = x3)) => ?_) (fun (hc10 : ¬ (¬ (x0 = x3))) => ?_)
  · refine w_iloadN 16 C d8_15 rfl rfl ?_
    refine w_iconst 17 (1 : Int32) C d8_16 rfl rfl ?_
    refine w_icmpN 20 C d8_17 rfl (show ¬ ((3 : Int32).toInt ≤ (1 : Int32).toInt) from (by decide)) ?_
    refine w_aloadN 21 C d8_20 rfl rfl rfl ?_
    refine w_iconst 22 (1 : Int32) C d8_21 rfl rfl ?_
    refine w_iaload 23 1 x1 C A_a d8_22 rfl (by decide) rfl ?_
    refine w_aloadN 24 C d8_23 rfl rfl rfl ?_
    refine w_iloadN 25 C d8_24 rfl rfl ?_
    refine w_iaload 26 3 x3 C A_a d8_25 rfl (by decide) rfl ?_
    refine w_icmp 31 29 C d8_26 rfl rfl (fun (hc26 : ¬ (x1 = x3)) => ?_) (fun (hc26 : ¬ (¬ (x1 = x3))) => ?_)
    · refine w_iloadN 32 C d8_31 rfl rfl ?_
      refine w_iconst 33 (2 : Int32) C d8_32 rfl rfl ?_
      refine w_icmpN 36 C d8_33 rfl (show ¬ ((3 : Int32).toInt ≤ (2 : Int32).toInt) from (by decide)) ?_
      refine w_aloadN 37 C d8_36 rfl rfl rfl ?_
      refine w_iconst 38 (2 : Int32) C d8_37 rfl rfl ?_
      refine w_iaload 39 2 x2 C A_a d8_38 rfl (by decide) rfl ?_
      refine w_aloadN 40 C d8_39 rfl rfl rfl ?_
      refine w_iloadN 41 C d8_40 rfl rfl ?_
      refine w_iaload 42 3 x3 C A_a d8_41 rfl (by decide) rfl ?_
      refine w_icmp 47 45 C d8_42 rfl rfl (fun (hc42 : ¬ (x2 = x3)) => ?_) (fun (hc42 : ¬ (¬ (x2 = x3))) => ?_)
      · refine w_iloadN 48 C d8_47 rfl rfl ?_
        refine w_iconst 49 (3 : Int32) C d8_48 rfl rfl ?_
        refine w_icmpY 63 C d8_49 rfl (show (3 : Int32).toInt ≤ (3 : Int32).toInt from (by decide)) ?_
        refine w_iconst 64 (1 : Int32) C d8_63 rfl rfl ?_
        refine w_retN C (by simp) d8_64 rfl (by decide) (by decide) ?_
        exact ⟨⟨_, rfl, Or.inl ⟨⟨hc10, hc26, hc42⟩, rfl⟩⟩, rfl⟩
      · refine w_iconst 46 (0 : Int32) C d8_45 rfl rfl ?_
        refine w_retN C (by simp) d8_46 rfl (by decide) (by decide) ?_
        exact ⟨⟨_, rfl, Or.inr ⟨fun q => q.2.2 (Classical.not_not.mp hc42), rfl⟩⟩, rfl⟩
    · refine w_iconst 30 (0 : Int32) C d8_29 rfl rfl ?_
      refine w_retN C (by simp) d8_30 rfl (by decide) (by decide) ?_
      exact ⟨⟨_, rfl, Or.inr ⟨fun q => q.2.1 (Classical.not_not.mp hc26), rfl⟩⟩, rfl⟩
  · refine w_iconst 14 (0 : Int32) C d8_13 rfl rfl ?_
    refine w_retN C (by simp) d8_14 rfl (by decide) (by decide) ?_
    exact ⟨⟨_, rfl, Or.inr ⟨fun q => q.1 (Classical.not_not.mp hc10), rfl⟩⟩, rfl⟩
set_option maxRecDepth 65536 in
set_option maxHeartbeats 40000000 in
theorem rm_fresh4 (l : Launch) (Z : State) (a0 : Array Value) (hw : ∀ d ∈ tables_1, d.before a0 Z = true) (ws : List Jvm.Cond) (a : Addr) (x0 x1 x2 x3 x4 : Int32) (h0 : Heap) (n0 : Nat) (hz : n0 ≤ h0.size) (A_a : Ai Z h0 a .int [x0, x1, x2, x3, x4]) :
    OwnMet l (⟨"com/example/ontology_path_queries/ontologypathqueries/engine/IntSetToArrayPinLaw", "fresh", "([II)Z"⟩ : MethodName) method_3_code 2 (some .boolean) ws ({ frames := 0, cells := 0, slots := 0, locals := 0 } : Room) Z h0 n0 #[.ref a, .int (4 : Int32)] (fun v h => (∃ z : Int32, v = some (.int z) ∧ (((¬ (x0 = x4) ∧ ¬ (x1 = x4) ∧ ¬ (x2 = x4) ∧ ¬ (x3 = x4)) ∧ z = 1) ∨ (¬ (¬ (x0 = x4) ∧ ¬ (x1 = x4) ∧ ¬ (x2 = x4) ∧ ¬ (x3 = x4)) ∧ z = 0))) ∧ h0 = h) := by
  refine OwnMet.of (own := "com/example/ontology_path_queries/ontologypathqueries/engine/IntSetToArrayPinLaw") (name := "fresh") (desc := "([II)Z") (Ls := [.val (.ref a), .val (.int (4 : Int32))]) (plainFor_of_name pn_com_example_ontology_path_queries_ontologypathqueries_engine_IntSetToArrayPinLaw) (fun m => by first | (simp [entryFrame, mkF, argsToLocals, Value.category]; done) | rfl) ?_
  intro K hK C
  refine w_iloadN 1 C d8_0 rfl rfl ?_
  refine w_ifN 4 C d8_1 rfl (show ¬ ((4 : Int32).toInt ≤ (0 : Int32).toInt) from (by decide)) ?_
  refine w_aloadN 5 C d8_4 rfl rfl rfl ?_
  refine w_iconst 6 (0 : Int32) C d8_5 rfl rfl ?_
  refine w_iaload 7 0 x0 C A_a d8_6 rfl (by decide) rfl ?_
  refine w_aloadN 8 C d8_7 rfl rfl rfl ?_
  refine w_iloadN 9 C d8_8 rfl rfl ?_
  refine w_iaload 10 4 x4 C A_a d8_9 rfl (by decide) rfl ?_
  refine w_icmp 15 13 C d8_10 rfl rfl (fun (hc10 : ¬ (x0 = x4)) => ?_) (fun (hc10 : ¬ (¬ (x0 = x4))) => ?_)
  · refine w_iloadN 16 C d8_15 rfl rfl ?_
    refine w_iconst 17 (1 : Int32) C d8_16 rfl rfl ?_
    refine w_icmpN 20 C d8_17 rfl (show ¬ ((4 : Int32).toInt ≤ (1 : Int32).toInt) from (by decide)) ?_
    refine w_aloadN 21 C d8_20 rfl rfl rfl ?_
    refine w_iconst 22 (1 : Int32) C d8_21 rfl rfl ?_
    refine w_iaload 23 1 x1 C A_a d8_22 rfl (by decide) rfl ?_
    refine w_aloadN 24 C d8_23 rfl rfl rfl ?_
    refine w_iloadN 25 C d8_24 rfl rfl ?_
    refine w_iaload 26 4 x4 C A_a d8_25 rfl (by decide) rfl ?_
    refine w_icmp 31 29 C d8_26 rfl rfl (fun (hc26 : ¬ (x1 = x4)) => ?_) (fun (hc26 : ¬ (¬ (x1 = x4))) => ?_)
    · refine w_iloadN 32 C d8_31 rfl rfl ?_
      refine w_iconst 33 (2 : Int32) C d8_32 rfl rfl ?_
      refine w_icmpN 36 C d8_33 rfl (show ¬ ((4 : Int32).toInt ≤ (2 : Int32).toInt) from (by decide)) ?_
      refine w_aloadN 37 C d8_36 rfl rfl rfl ?_
      refine w_iconst 38 (2 : Int32) C d8_37 rfl rfl ?_
      refine w_iaload 39 2 x2 C A_a d8_38 rfl (by decide) rfl ?_
      refine w_aloadN 40 C d8_39 rfl rfl rfl ?_
      refine w_iloadN 41 C d8_40 rfl rfl ?_
      refine w_iaload 42 4 x4 C A_a d8_41 rfl (by decide) rfl ?_
      refine w_icmp 47 45 C d8_42 rfl rfl (fun (hc42 : ¬ (x2 = x4)) => ?_) (fun (hc42 : ¬ (¬ (x2 = x4))) => ?_)
      · refine w_iloadN 48 C d8_47 rfl rfl ?_
        refine w_iconst 49 (3 : Int32) C d8_48 rfl rfl ?_
        refine w_icmpN 52 C d8_49 rfl (show ¬ ((4 : Int32).toInt ≤ (3 : Int32).toInt) from (by decide)) ?_
        refine w_aloadN 53 C d8_52 rfl rfl rfl ?_
        refine w_iconst 54 (3 : Int32) C d8_53 rfl rfl ?_
        refine w_iaload 55 3 x3 C A_a d8_54 rfl (by decide) rfl ?_
        refine w_aloadN 56 C d8_55 rfl rfl rfl ?_
        refine w_iloadN 57 C d8_56 rfl rfl ?_
        refine w_iaload 58 4 x4 C A_a d8_57 rfl (by decide) rfl ?_
        refine w_icmp 63 61 C d8_58 rfl rfl (fun (hc58 : ¬ (x3 = x4)) => ?_) (fun (hc58 : ¬ (¬ (x3 = x4))) => ?_)
        · refine w_iconst 64 (1 : Int32) C d8_63 rfl rfl ?_
          refine w_retN C (by simp) d8_64 rfl (by decide) (by decide) ?_
          exact ⟨⟨_, rfl, Or.inl ⟨⟨hc10, hc26, hc42, hc58⟩, rfl⟩⟩, rfl⟩
        · refine w_iconst 62 (0 : Int32) C d8_61 rfl rfl ?_
          refine w_retN C (by simp) d8_62 rfl (by decide) (by decide) ?_
          exact ⟨⟨_, rfl, Or.inr ⟨fun q => q.2.2.2 (Classical.not_not.mp hc58), rfl⟩⟩, rfl⟩
      · refine w_iconst 46 (0 : Int32) C d8_45 rfl rfl ?_
        refine w_retN C (by simp) d8_46 rfl (by decide) (by decide) ?_
        exact ⟨⟨_, rfl, Or.inr ⟨fun q => q.2.2.1 (Classical.not_not.mp hc42), rfl⟩⟩, rfl⟩
    · refine w_iconst 30 (0 : Int32) C d8_29 rfl rfl ?_
      refine w_retN C (by simp) d8_30 rfl (by decide) (by decide) ?_
      exact ⟨⟨_, rfl, Or.inr ⟨fun q => q.2.1 (Classical.not_not.mp hc26), rfl⟩⟩, rfl⟩
  · refine w_iconst 14 (0 : Int32) C d8_13 rfl rfl ?_
    refine w_retN C (by simp) d8_14 rfl (by decide) (by decide) ?_
    exact ⟨⟨_, rfl, Or.inr ⟨fun q => q.1 (Classical.not_not.mp hc10), rfl⟩⟩, rfl⟩
set_option maxRecDepth 65536 in
set_option maxHeartbeats 40000000 in
theorem rm_occ (l : Launch) (Z : State) (a0 : Array Value) (hw : ∀ d ∈ tables_1, d.before a0 Z = true) (ws : List Jvm.Cond) (a : Addr) (x : Int32) (R : List Int32) (h0 : Heap) (n0 : Nat) (hz : n0 ≤ h0.size) (A : Ai Z h0 a .int R) (hl : R.length ≤ 5) :
    OwnMet l (⟨"com/example/ontology_path_queries/ontologypathqueries/engine/IntSetToArrayPinLaw", "occ", "([II)I"⟩ : MethodName) method_4_code 3 (some .int) ws ({ frames := 0, cells := 0, slots := 0, locals := 0 } : Room) Z h0 n0 #[.ref a, .int x] (fun v h => (∃ z : Int32, v = some (.int z) ∧ z.toInt = ((R.count x : Nat) : Int)) ∧ h0 = h) := by
  refine OwnMet.of (own := "com/example/ontology_path_queries/ontologypathqueries/engine/IntSetToArrayPinLaw") (name := "occ") (desc := "([II)I") (Ls := [.val (.ref a), .val (.int x), .unset]) (plainFor_of_name pn_com_example_ontology_path_queries_ontologypathqueries_engine_IntSetToArrayPinLaw) (fun m => by first | (simp [entryFrame, mkF, argsToLocals, Value.category]; done) | rfl) ?_
  intro K hK C
  have hlen : (R.length.toInt32).toInt = ((R.length : Nat) : Int) := len_toInt (by omega)
  have hcl : ∀ k, (R.take k).count x ≤ R.length := fun k => Nat.le_trans List.count_le_length (List.length_take_le' _ _)
  have hst : ∀ k y, R[k]? = some y → (R.take (k + 1)).count x = (R.take k).count x + (if y = x then 1 else 0) := by
    intro k y hy
    rw [List.take_add_one, hy]
    simp [List.count_append, List.count_cons]
  have hsp : ∀ k, R.length ≤ k → (R.take (k + 1)).count x = (R.take k).count x := by
    intro k hk
    rw [List.take_of_length_le hk, List.take_of_length_le (by omega)]
  refine w_iconst 1 (0 : Int32) C d9_0 rfl rfl ?_
  refine w_istoreN 2 [.val (.ref a), .val (.int x), .val (.int (0 : Int32))] C d9_1 rfl rfl ?_
  refine w_aloadN 3 C d9_2 rfl rfl rfl ?_
  have hc0 : (0 : Int32).toInt = (((R.take 0).count x : Nat) : Int) := by simp
  refine w_len 4 R.length.toInt32 C A d9_3 rfl rfl ?_
  suffices J_17 : ∀ (c1 : Int32), (c1.toInt = (((R.take 1).count x : Nat) : Int)) → Go K h0 0 0 17 [.val (.ref a), .val (.int x), .val (.int c1)] [] by
    refine w_if 17 7 C d9_4 rfl rfl (fun (hc4 : R.length.toInt32.toInt ≤ (0 : Int32).toInt) => ?_) (fun (hc4 : ¬ (R.length.toInt32.toInt ≤ (0 : Int32).toInt)) => ?_)
    · exact J_17 (0 : Int32) (by rw [hsp 0 (by simp only [Int32.reduceToInt] at hc4; omega)]; exact hc0)
    · simp only [Int32.reduceToInt] at hc4
      obtain ⟨y, hy⟩ : ∃ y, R[0]? = some y := ⟨_, List.getElem?_eq_getElem (by omega)⟩
      refine w_aloadN 8 C d9_7 rfl rfl rfl ?_
      refine w_iconst 9 (0 : Int32) C d9_8 rfl rfl ?_
      refine w_iaload 10 (0) y C A d9_9 rfl (by decide) hy ?_
      refine w_iloadN 11 C d9_10 rfl rfl ?_
      refine w_icmp 17 14 C d9_11 rfl rfl (fun (hc11 : ¬ (y = x)) => ?_) (fun (hc11 : ¬ (¬ (y = x))) => ?_)
      · exact J_17 (0 : Int32) (by rw [hst 0 y hy, if_neg hc11]; exact hc0)
      · refine w_iinc (z := ((0 : Int32) + (1 : Int32))) 17 [.val (.ref a), .val (.int x), .val (.int ((0 : Int32) + (1 : Int32)))] C d9_14 rfl rfl rfl rfl ?_
        have := hcl 0
        exact J_17 _ (by rw [hst 0 y hy, if_pos (Classical.not_not.mp hc11), own_iadd, hc0, show (1 : Int32).toInt = 1 from by decide]; omega)
  intro c1 hc1
  refine w_aloadN 18 C d9_17 rfl rfl rfl ?_
  refine w_len 19 R.length.toInt32 C A d9_18 rfl rfl ?_
  refine w_iconst 20 (1 : Int32) C d9_19 rfl rfl ?_
  suffices J_33 : ∀ (c2 : Int32), (c2.toInt = (((R.take 2).count x : Nat) : Int)) → Go K h0 0 0 33 [.val (.ref a), .val (.int x), .val (.int c2)] [] by
    refine w_icmp 33 23 C d9_20 rfl rfl (fun (hc20 : R.length.toInt32.toInt ≤ (1 : Int32).toInt) => ?_) (fun (hc20 : ¬ (R.length.toInt32.toInt ≤ (1 : Int32).toInt)) => ?_)
    · exact J_33 c1 (by rw [hsp 1 (by simp only [Int32.reduceToInt] at hc20; omega)]; exact hc1)
    · simp only [Int32.reduceToInt] at hc20
      obtain ⟨y, hy⟩ : ∃ y, R[1]? = some y := ⟨_, List.getElem?_eq_getElem (by omega)⟩
      refine w_aloadN 24 C d9_23 rfl rfl rfl ?_
      refine w_iconst 25 (1 : Int32) C d9_24 rfl rfl ?_
      refine w_iaload 26 (1) y C A d9_25 rfl (by decide) hy ?_
      refine w_iloadN 27 C d9_26 rfl rfl ?_
      refine w_icmp 33 30 C d9_27 rfl rfl (fun (hc27 : ¬ (y = x)) => ?_) (fun (hc27 : ¬ (¬ (y = x))) => ?_)
      · exact J_33 c1 (by rw [hst 1 y hy, if_neg hc27]; exact hc1)
      · refine w_iinc (z := (c1 + (1 : Int32))) 33 [.val (.ref a), .val (.int x), .val (.int (c1 + (1 : Int32)))] C d9_30 rfl rfl rfl rfl ?_
        have := hcl 1
        exact J_33 _ (by rw [hst 1 y hy, if_pos (Classical.not_not.mp hc27), own_iadd, hc1, show (1 : Int32).toInt = 1 from by decide]; omega)
  intro c2 hc2
  refine w_aloadN 34 C d9_33 rfl rfl rfl ?_
  refine w_len 35 R.length.toInt32 C A d9_34 rfl rfl ?_
  refine w_iconst 36 (2 : Int32) C d9_35 rfl rfl ?_
  suffices J_49 : ∀ (c3 : Int32), (c3.toInt = (((R.take 3).count x : Nat) : Int)) → Go K h0 0 0 49 [.val (.ref a), .val (.int x), .val (.int c3)] [] by
    refine w_icmp 49 39 C d9_36 rfl rfl (fun (hc36 : R.length.toInt32.toInt ≤ (2 : Int32).toInt) => ?_) (fun (hc36 : ¬ (R.length.toInt32.toInt ≤ (2 : Int32).toInt)) => ?_)
    · exact J_49 c2 (by rw [hsp 2 (by simp only [Int32.reduceToInt] at hc36; omega)]; exact hc2)
    · simp only [Int32.reduceToInt] at hc36
      obtain ⟨y, hy⟩ : ∃ y, R[2]? = some y := ⟨_, List.getElem?_eq_getElem (by omega)⟩
      refine w_aloadN 40 C d9_39 rfl rfl rfl ?_
      refine w_iconst 41 (2 : Int32) C d9_40 rfl rfl ?_
      refine w_iaload 42 (2) y C A d9_41 rfl (by decide) hy ?_
      refine w_iloadN 43 C d9_42 rfl rfl ?_
      refine w_icmp 49 46 C d9_43 rfl rfl (fun (hc43 : ¬ (y = x)) => ?_) (fun (hc43 : ¬ (¬ (y = x))) => ?_)
      · exact J_49 c2 (by rw [hst 2 y hy, if_neg hc43]; exact hc2)
      · refine w_iinc (z := (c2 + (1 : Int32))) 49 [.val (.ref a), .val (.int x), .val (.int (c2 + (1 : Int32)))] C d9_46 rfl rfl rfl rfl ?_
        have := hcl 2
        exact J_49 _ (by rw [hst 2 y hy, if_pos (Classical.not_not.mp hc43), own_iadd, hc2, show (1 : Int32).toInt = 1 from by decide]; omega)
  intro c3 hc3
  refine w_aloadN 50 C d9_49 rfl rfl rfl ?_
  refine w_len 51 R.length.toInt32 C A d9_50 rfl rfl ?_
  refine w_iconst 52 (3 : Int32) C d9_51 rfl rfl ?_
  suffices J_65 : ∀ (c4 : Int32), (c4.toInt = (((R.take 4).count x : Nat) : Int)) → Go K h0 0 0 65 [.val (.ref a), .val (.int x), .val (.int c4)] [] by
    refine w_icmp 65 55 C d9_52 rfl rfl (fun (hc52 : R.length.toInt32.toInt ≤ (3 : Int32).toInt) => ?_) (fun (hc52 : ¬ (R.length.toInt32.toInt ≤ (3 : Int32).toInt)) => ?_)
    · exact J_65 c3 (by rw [hsp 3 (by simp only [Int32.reduceToInt] at hc52; omega)]; exact hc3)
    · simp only [Int32.reduceToInt] at hc52
      obtain ⟨y, hy⟩ : ∃ y, R[3]? = some y := ⟨_, List.getElem?_eq_getElem (by omega)⟩
      refine w_aloadN 56 C d9_55 rfl rfl rfl ?_
      refine w_iconst 57 (3 : Int32) C d9_56 rfl rfl ?_
      refine w_iaload 58 (3) y C A d9_57 rfl (by decide) hy ?_
      refine w_iloadN 59 C d9_58 rfl rfl ?_
      refine w_icmp 65 62 C d9_59 rfl rfl (fun (hc59 : ¬ (y = x)) => ?_) (fun (hc59 : ¬ (¬ (y = x))) => ?_)
      · exact J_65 c3 (by rw [hst 3 y hy, if_neg hc59]; exact hc3)
      · refine w_iinc (z := (c3 + (1 : Int32))) 65 [.val (.ref a), .val (.int x), .val (.int (c3 + (1 : Int32)))] C d9_62 rfl rfl rfl rfl ?_
        have := hcl 3
        exact J_65 _ (by rw [hst 3 y hy, if_pos (Classical.not_not.mp hc59), own_iadd, hc3, show (1 : Int32).toInt = 1 from by decide]; omega)
  intro c4 hc4
  refine w_aloadN 66 C d9_65 rfl rfl rfl ?_
  refine w_len 67 R.length.toInt32 C A d9_66 rfl rfl ?_
  refine w_iconst 68 (4 : Int32) C d9_67 rfl rfl ?_
  suffices J_81 : ∀ (c5 : Int32), (c5.toInt = (((R.take 5).count x : Nat) : Int)) → Go K h0 0 0 81 [.val (.ref a), .val (.int x), .val (.int c5)] [] by
    refine w_icmp 81 71 C d9_68 rfl rfl (fun (hc68 : R.length.toInt32.toInt ≤ (4 : Int32).toInt) => ?_) (fun (hc68 : ¬ (R.length.toInt32.toInt ≤ (4 : Int32).toInt)) => ?_)
    · exact J_81 c4 (by rw [hsp 4 (by simp only [Int32.reduceToInt] at hc68; omega)]; exact hc4)
    · simp only [Int32.reduceToInt] at hc68
      obtain ⟨y, hy⟩ : ∃ y, R[4]? = some y := ⟨_, List.getElem?_eq_getElem (by omega)⟩
      refine w_aloadN 72 C d9_71 rfl rfl rfl ?_
      refine w_iconst 73 (4 : Int32) C d9_72 rfl rfl ?_
      refine w_iaload 74 (4) y C A d9_73 rfl (by decide) hy ?_
      refine w_iloadN 75 C d9_74 rfl rfl ?_
      refine w_icmp 81 78 C d9_75 rfl rfl (fun (hc75 : ¬ (y = x)) => ?_) (fun (hc75 : ¬ (¬ (y = x))) => ?_)
      · exact J_81 c4 (by rw [hst 4 y hy, if_neg hc75]; exact hc4)
      · refine w_iinc (z := (c4 + (1 : Int32))) 81 [.val (.ref a), .val (.int x), .val (.int (c4 + (1 : Int32)))] C d9_78 rfl rfl rfl rfl ?_
        have := hcl 4
        exact J_81 _ (by rw [hst 4 y hy, if_pos (Classical.not_not.mp hc75), own_iadd, hc4, show (1 : Int32).toInt = 1 from by decide]; omega)
  intro c5 hc5
  refine w_iloadN 82 C d9_81 rfl rfl ?_
  refine w_retI C d9_82 (by decide) (by decide) ?_
  exact ⟨⟨_, rfl, by rw [hc5, List.take_of_length_le hl]⟩, rfl⟩
set_option maxRecDepth 65536 in
set_option maxHeartbeats 40000000 in
theorem rm0 (l : Launch) (Z : State) (a0 : Array Value) (hw : ∀ d ∈ tables_1, d.before a0 Z = true) (ws : List Jvm.Cond) (p0 p1 p2 p3 p4 p5 : Int32) (h0 : Heap) (n0 : Nat) (hz : n0 ≤ h0.size) :
    OwnMet l x code maxLocals ret ws room_1 Z h0 n0 #[.int p0, .int p1, .int p2, .int p3, .int p4, .int p5] (fun v h => v = some (.int 1)) := by
  refine OwnMet.of (own := "com/example/ontology_path_queries/ontologypathqueries/engine/IntSetToArrayPinLaw") (name := "law") (desc := "(IIIIII)Z") (Ls := [.val (.int p0), .val (.int p1), .val (.int p2), .val (.int p3), .val (.int p4), .val (.int p5), .unset, .unset, .unset, .unset, .unset]) (plainFor_of_name pn_com_example_ontology_path_queries_ontologypathqueries_engine_IntSetToArrayPinLaw) (fun m => by first | (simp [entryFrame, mkF, argsToLocals, Value.category, maxLocals]; done) | rfl) ?_
  intro K hK C
  refine w_iloadN 1 C at_0 rfl rfl ?_
  refine w_ldc (v := (2147483647 : Int32)) 3 C at_1 rfl (hw _ (List.mem_of_getElem? (i := 0) rfl)) ?_
  refine w_iand 4 C at_3 rfl ?_
  refine w_bipush 6 (6 : Int32) C at_4 rfl rfl ?_
  refine w_irem 7 C at_6 rfl (by decide) ?_
  refine w_istore 9 [.val (.int p0), .val (.int p1), .val (.int p2), .val (.int p3), .val (.int p4), .val (.int p5), .val (.int ((p0 &&& (2147483647 : Int32)) % (6 : Int32))), .unset, .unset, .unset, .unset] C at_7 rfl rfl ?_
  generalize hv_x1 : ((p0 &&& (2147483647 : Int32)) % (6 : Int32)) = x1
  refine w_iconst 10 (5 : Int32) C at_9 rfl rfl ?_
  refine w_newarr 12 5 5 C hz at_10 rfl (hw _ (List.mem_of_getElem? (i := 1) rfl)) rfl (by decide) (by decide) (by decide) (by decide) (by decide) ?_
  intro h2 b3 X_b3 g_b3 sz0_b3 A_b3 hz_
  replace hz := hz_
  replace A_b3 : Ai Z h2 b3 .int [(0 : Int32), (0 : Int32), (0 : Int32), (0 : Int32), (0 : Int32)] := A_b3
  show Go K h2 1 5 12 [.val (.int p0), .val (.int p1), .val (.int p2), .val (.int p3), .val (.int p4), .val (.int p5), .val (.int x1), .unset, .unset, .unset, .unset] [.ref b3]
  refine w_astore 14 [.val (.int p0), .val (.int p1), .val (.int p2), .val (.int p3), .val (.int p4), .val (.int p5), .val (.int x1), .val (.ref b3), .unset, .unset, .unset] C at_12 rfl rfl rfl ?_
  refine w_aload 16 C at_14 rfl rfl rfl ?_
  refine w_iconst 17 (0 : Int32) C at_16 rfl rfl ?_
  refine w_iloadN 18 C at_17 rfl rfl ?_
  refine w_ldc (v := (2147483647 : Int32)) 20 C at_18 rfl (hw _ (List.mem_of_getElem? (i := 0) rfl)) ?_
  refine w_iand 21 C at_20 rfl ?_
  generalize hv_y5 : (p1 &&& (2147483647 : Int32)) = y5
  refine w_iastore 22 0 C A_b3 g_b3 at_21 rfl (by decide) (Nat.le_of_ble_eq_true rfl) ?_
  intro h4 K_h4 A_b3'
  replace A_b3 : Ai Z h4 b3 .int [y5, (0 : Int32), (0 : Int32), (0 : Int32), (0 : Int32)] := A_b3'
  replace hz := Nat.le_trans hz K_h4.1
  refine w_aload 24 C at_22 rfl rfl rfl ?_
  refine w_iconst 25 (1 : Int32) C at_24 rfl rfl ?_
  refine w_iloadN 26 C at_25 rfl rfl ?_
  refine w_ldc (v := (2147483647 : Int32)) 28 C at_26 rfl (hw _ (List.mem_of_getElem? (i := 0) rfl)) ?_
  refine w_iand 29 C at_28 rfl ?_
  generalize hv_y7 : (p2 &&& (2147483647 : Int32)) = y7
  refine w_iastore 30 1 C A_b3 g_b3 at_29 rfl (by decide) (Nat.le_of_ble_eq_true rfl) ?_
  intro h6 K_h6 A_b3'
  replace A_b3 : Ai Z h6 b3 .int [y5, y7, (0 : Int32), (0 : Int32), (0 : Int32)] := A_b3'
  replace hz := Nat.le_trans hz K_h6.1
  refine w_aload 32 C at_30 rfl rfl rfl ?_
  refine w_iconst 33 (2 : Int32) C at_32 rfl rfl ?_
  refine w_iloadN 34 C at_33 rfl rfl ?_
  refine w_ldc (v := (2147483647 : Int32)) 36 C at_34 rfl (hw _ (List.mem_of_getElem? (i := 0) rfl)) ?_
  refine w_iand 37 C at_36 rfl ?_
  generalize hv_y9 : (p3 &&& (2147483647 : Int32)) = y9
  refine w_iastore 38 2 C A_b3 g_b3 at_37 rfl (by decide) (Nat.le_of_ble_eq_true rfl) ?_
  intro h8 K_h8 A_b3'
  replace A_b3 : Ai Z h8 b3 .int [y5, y7, y9, (0 : Int32), (0 : Int32)] := A_b3'
  replace hz := Nat.le_trans hz K_h8.1
  refine w_aload 40 C at_38 rfl rfl rfl ?_
  refine w_iconst 41 (3 : Int32) C at_40 rfl rfl ?_
  refine w_iload 43 C at_41 rfl rfl ?_
  refine w_ldc (v := (2147483647 : Int32)) 45 C at_43 rfl (hw _ (List.mem_of_getElem? (i := 0) rfl)) ?_
  refine w_iand 46 C at_45 rfl ?_
  generalize hv_y11 : (p4 &&& (2147483647 : Int32)) = y11
  refine w_iastore 47 3 C A_b3 g_b3 at_46 rfl (by decide) (Nat.le_of_ble_eq_true rfl) ?_
  intro h10 K_h10 A_b3'
  replace A_b3 : Ai Z h10 b3 .int [y5, y7, y9, y11, (0 : Int32)] := A_b3'
  replace hz := Nat.le_trans hz K_h10.1
  refine w_aload 49 C at_47 rfl rfl rfl ?_
  refine w_iconst 50 (4 : Int32) C at_49 rfl rfl ?_
  refine w_iload 52 C at_50 rfl rfl ?_
  refine w_ldc (v := (2147483647 : Int32)) 54 C at_52 rfl (hw _ (List.mem_of_getElem? (i := 0) rfl)) ?_
  refine w_iand 55 C at_54 rfl ?_
  generalize hv_y13 : (p5 &&& (2147483647 : Int32)) = y13
  refine w_iastore 56 4 C A_b3 g_b3 at_55 rfl (by decide) (Nat.le_of_ble_eq_true rfl) ?_
  intro h12 K_h12 A_b3'
  replace A_b3 : Ai Z h12 b3 .int [y5, y7, y9, y11, y13] := A_b3'
  replace hz := Nat.le_trans hz K_h12.1
  refine w_new 59 C hz at_56 rfl (hw _ (List.mem_of_getElem? (i := 2) rfl)) (hw _ (List.mem_of_getElem? (i := 3) rfl)) (hw _ (List.mem_of_getElem? (i := 4) rfl)) (by decide) (by decide) ?_
  intro h14 b15 X_b15 g_b15 sz0_b15 E_b15 D_b15 hz_
  replace hz := hz_
  have ne_b3_b15 : b3 ≠ b15 := Nat.ne_of_lt (Nat.lt_of_lt_of_le A_b3.lt sz0_b15)
  replace A_b3 := A_b3.ext X_b15
  have F_table_b15 : Fld Z h14 b15 "com/example/ontology_path_queries/ontologypathqueries/engine/IntSet" "table" "[I" (.null) := D_b15 (Or.inl (hw _ (List.mem_of_getElem? (i := 19) rfl))) (ty := (.array .int)) (by decide)
  have F_size_b15 : Fld Z h14 b15 "com/example/ontology_path_queries/ontologypathqueries/engine/IntSet" "size" "I" (.int (0 : Int32)) := D_b15 (Or.inl (hw _ (List.mem_of_getElem? (i := 26) rfl))) (ty := .int) (by decide)
  show Go K h14 2 7 59 [.val (.int p0), .val (.int p1), .val (.int p2), .val (.int p3), .val (.int p4), .val (.int p5), .val (.int x1), .val (.ref b3), .unset, .unset, .unset] [.ref b15]
  refine w_dup 60 C at_59 rfl rfl ?_
  have e6 : (6 : Int32).toInt = 6 := by decide
  have hn : 0 ≤ x1.toInt ∧ x1.toInt ≤ 5 := by
    have m := own_mask p0 2147483647 31 (by decide) (by decide)
    rw [← hv_x1, Jvm.Kit.i32_rem_nonneg (by omega), e6]; omega
  have r_y5 : 0 ≤ y5.toInt := by rw [← hv_y5, own_mask p1 2147483647 31 (by decide) (by decide)]; omega
  have r_y7 : 0 ≤ y7.toInt := by rw [← hv_y7, own_mask p2 2147483647 31 (by decide) (by decide)]; omega
  have r_y9 : 0 ≤ y9.toInt := by rw [← hv_y9, own_mask p3 2147483647 31 (by decide) (by decide)]; omega
  have r_y11 : 0 ≤ y11.toInt := by rw [← hv_y11, own_mask p4 2147483647 31 (by decide) (by decide)]; omega
  have r_y13 : 0 ≤ y13.toInt := by rw [← hv_y13, own_mask p5 2147483647 31 (by decide) (by decide)]; omega
  refine w_callI (y := (⟨"com/example/ontology_path_queries/ontologypathqueries/engine/IntSet", "<init>", "()V"⟩ : MethodName)) (a := b15) 63 1 [] C at_60 rfl rfl (hw _ (List.mem_of_getElem? (i := 5) rfl)) (hw _ (List.mem_of_getElem? (i := 6) rfl)) (hw _ (List.mem_of_getElem? (i := 4) rfl)) (hw _ (List.mem_of_getElem? (i := 7) rfl)) (by decide) (rm_init K.l Z a0 hw [] b15 .null (0 : Int32) h14 n0 hz E_b15 g_b15 F_table_b15 F_size_b15 E_b15.lt) pd__to_V rfl (rest := [.ref b15]) rfl rfl (Nat.le_of_eq rfl) (by decide) (by decide) (by decide) (by decide) ?_
  rintro v16 hI ⟨ta, rfl, sz_ta, g_ta, K1, E_b15, F_table_b15, F_size_b15, A_ta⟩
  show Go K hI 3 23 63 [.val (.int p0), .val (.int p1), .val (.int p2), .val (.int p3), .val (.int p4), .val (.int p5), .val (.int x1), .val (.ref b3), .unset, .unset, .unset] [.ref b15]
  have ne_va_ta : b3 ≠ ta := Nat.ne_of_lt (Nat.lt_of_lt_of_le A_b3.lt sz_ta)
  replace hz := Nat.le_trans hz K1.1
  replace A_b3 := A_b3.keep K1 (ninS ne_b3_b15 nin0)
  refine w_astore 65 [.val (.int p0), .val (.int p1), .val (.int p2), .val (.int p3), .val (.int p4), .val (.int p5), .val (.int x1), .val (.ref b3), .val (.ref b15), .unset, .unset] C at_63 rfl rfl rfl ?_
  refine w_iload 67 C at_65 rfl rfl ?_
  obtain ⟨N, hN⟩ : ∃ N : Int, N = x1.toInt := ⟨_, rfl⟩
  obtain ⟨S0, hS0⟩ : ∃ S0 : List Int32, S0 = [] := ⟨_, rfl⟩
  obtain ⟨S1, hS1⟩ : ∃ S : List Int32, S = if (0 : Int) < N then own_ins S0 y5 else S0 := ⟨_, rfl⟩
  obtain ⟨S2, hS2⟩ : ∃ S : List Int32, S = if (1 : Int) < N then own_ins S1 y7 else S1 := ⟨_, rfl⟩
  obtain ⟨S3, hS3⟩ : ∃ S : List Int32, S = if (2 : Int) < N then own_ins S2 y9 else S2 := ⟨_, rfl⟩
  obtain ⟨S4, hS4⟩ : ∃ S : List Int32, S = if (3 : Int) < N then own_ins S3 y11 else S3 := ⟨_, rfl⟩
  obtain ⟨S5, hS5⟩ : ∃ S : List Int32, S = if (4 : Int) < N then own_ins S4 y13 else S4 := ⟨_, rfl⟩
  obtain ⟨cap, T, sz, RP, hsz, hcap, F_size_b15', A_ta', hSl⟩ : ∃ (cap : Nat) (T : List Int32) (sz : Int32), own_rep cap T S0 ∧ sz.toInt = ((S0.length : Nat) : Int) ∧ (cap = 8 ∨ (cap = 16 ∧ S0.length = 5)) ∧ Fld Z hI b15 "com/example/ontology_path_queries/ontologypathqueries/engine/IntSet" "size" "I" (.int sz) ∧ Ai Z hI ta .int T ∧ S0.length ≤ 0 := ⟨8, _, 0, by rw [hS0]; exact own_rep0 8, by rw [hS0]; decide, Or.inl rfl, F_size_b15, A_ta, by rw [hS0]; simp⟩
  replace F_size_b15 := F_size_b15'
  replace A_ta := A_ta'
  suffices J_80 : ∀ (hA0 : Heap) (ta : Addr) (cap : Nat) (T : List Int32) (sz : Int32), (n0 ≤ hA0.size) → (Exa Z hA0 b15 "com/example/ontology_path_queries/ontologypathqueries/engine/IntSet") → (Fld Z hA0 b15 "com/example/ontology_path_queries/ontologypathqueries/engine/IntSet" "table" "[I" (.ref ta)) → (Fld Z hA0 b15 "com/example/ontology_path_queries/ontologypathqueries/engine/IntSet" "size" "I" (.int sz)) → (Ai Z hA0 ta .int T) → (Ai Z hA0 b3 .int [y5, y7, y9, y11, y13]) → (own_rep cap T S1) → (sz.toInt = ((S1.length : Nat) : Int)) → (cap = 8 ∨ (cap = 16 ∧ S1.length = 5)) → (b3 ≠ ta) → (n0 ≤ ta) → (S1.length ≤ 1) → Go K hA0 4 39 80 [.val (.int p0), .val (.int p1), .val (.int p2), .val (.int p3), .val (.int p4), .val (.int p5), .val (.int x1), .val (.ref b3), .val (.ref b15), .unset, .unset] [] by
    refine w_if 80 70 C at_67 rfl rfl (fun (hc67 : x1.toInt ≤ (0 : Int32).toInt) => ?_) (fun (hc67 : ¬ (x1.toInt ≤ (0 : Int32).toInt)) => ?_)
    · simp only [Int32.reduceToInt] at hc67
      rw [if_neg (by omega)] at hS1
      subst hS1
      exact (J_80 hI ta cap T sz hz E_b15 F_table_b15 F_size_b15 A_ta A_b3 RP hsz hcap ne_va_ta g_ta (by omega)).more (by decide) (by decide)
    · simp only [Int32.reduceToInt] at hc67
      rw [if_pos (by omega)] at hS1
      obtain rfl : cap = 8 := by omega
      refine w_aload 72 C at_70 rfl rfl rfl ?_
      refine w_aload 74 C at_72 rfl rfl rfl ?_
      refine w_iconst 75 (0 : Int32) C at_74 rfl rfl ?_
      refine w_iaload 76 0 y5 C A_b3 at_75 rfl (by decide) rfl ?_
      refine w_callV (y := (⟨"com/example/ontology_path_queries/ontologypathqueries/engine/IntSet", "add", "(I)Z"⟩ : MethodName)) (a := b15) 79 0 [.int y5] C E_b15 at_76 rfl (hw _ (List.mem_of_getElem? (i := 27) rfl)) (hw _ (List.mem_of_getElem? (i := 28) rfl)) (hw _ (List.mem_of_getElem? (i := 30) rfl)) (hw _ (List.mem_of_getElem? (i := 29) rfl)) (hw _ (List.mem_of_getElem? (i := 4) rfl)) (hw _ (List.mem_of_getElem? (i := 31) rfl)) (by decide) (rm_add K.l Z a0 hw [] b15 ta y5 sz T S0 hI n0 hz E_b15 g_b15 F_table_b15 F_size_b15 A_ta g_ta RP r_y5 (by omega) hsz) pd_I_to_Z rfl (rest := []) rfl rfl (Nat.le_of_eq rfl) (by decide) (by decide) (by decide) (by decide) ?_
      rintro v17 hB ⟨q, tb, cap2, T2, s2, rfl, hor, g_tb, K9, E_b15, F_table_b15, F_size_b15, A_tb, RP2, hs2, hcap2⟩
      show Go K hB 4 39 79 [.val (.int p0), .val (.int p1), .val (.int p2), .val (.int p3), .val (.int p4), .val (.int p5), .val (.int x1), .val (.ref b3), .val (.ref b15), .unset, .unset] [.int q]
      have hlv := A_b3.lt
      replace A_b3 := A_b3.keep K9 (ninS ne_b3_b15 (ninS ne_va_ta nin0))
      have nev : b3 ≠ tb := by rcases hor with rfl | t; exact ne_va_ta; exact Nat.ne_of_lt (Nat.lt_of_lt_of_le hlv t)
      refine w_pop 80 C at_79 rfl rfl ?_
      have hil := own_ins_len S0 y5
      exact J_80 hB tb cap2 T2 s2 (Nat.le_trans hz K9.1) E_b15 F_table_b15 F_size_b15 A_tb A_b3 (by rw [hS1]; exact RP2) (by rw [hS1]; exact hs2) (by rw [hS1]; exact hcap2) nev g_tb (by rw [hS1, hil]; split <;> omega)
  intro hA0 ta cap T sz hz E_b15 F_table_b15 F_size_b15 A_ta A_b3 RP hsz hcap ne_va_ta g_ta hSl
  refine w_iload 82 C at_80 rfl rfl ?_
  refine w_iconst 83 (1 : Int32) C at_82 rfl rfl ?_
  suffices J_96 : ∀ (hA1 : Heap) (ta : Addr) (cap : Nat) (T : List Int32) (sz : Int32), (n0 ≤ hA1.size) → (Exa Z hA1 b15 "com/example/ontology_path_queries/ontologypathqueries/engine/IntSet") → (Fld Z hA1 b15 "com/example/ontology_path_queries/ontologypathqueries/engine/IntSet" "table" "[I" (.ref ta)) → (Fld Z hA1 b15 "com/example/ontology_path_queries/ontologypathqueries/engine/IntSet" "size" "I" (.int sz)) → (Ai Z hA1 ta .int T) → (Ai Z hA1 b3 .int [y5, y7, y9, y11, y13]) → (own_rep cap T S2) → (sz.toInt = ((S2.length : Nat) : Int)) → (cap = 8 ∨ (cap = 16 ∧ S2.length = 5)) → (b3 ≠ ta) → (n0 ≤ ta) → (S2.length ≤ 2) → Go K hA1 5 55 96 [.val (.int p0), .val (.int p1), .val (.int p2), .val (.int p3), .val (.int p4), .val (.int p5), .val (.int x1), .val (.ref b3), .val (.ref b15), .unset, .unset] [] by
    refine w_icmp 96 86 C at_83 rfl rfl (fun (hc83 : x1.toInt ≤ (1 : Int32).toInt) => ?_) (fun (hc83 : ¬ (x1.toInt ≤ (1 : Int32).toInt)) => ?_)
    · simp only [Int32.reduceToInt] at hc83
      rw [if_neg (by omega)] at hS2
      subst hS2
      exact (J_96 hA0 ta cap T sz hz E_b15 F_table_b15 F_size_b15 A_ta A_b3 RP hsz hcap ne_va_ta g_ta (by omega)).more (by decide) (by decide)
    · simp only [Int32.reduceToInt] at hc83
      rw [if_pos (by omega)] at hS2
      obtain rfl : cap = 8 := by omega
      refine w_aload 88 C at_86 rfl rfl rfl ?_
      refine w_aload 90 C at_88 rfl rfl rfl ?_
      refine w_iconst 91 (1 : Int32) C at_90 rfl rfl ?_
      refine w_iaload 92 1 y7 C A_b3 at_91 rfl (by decide) rfl ?_
      refine w_callV (y := (⟨"com/example/ontology_path_queries/ontologypathqueries/engine/IntSet", "add", "(I)Z"⟩ : MethodName)) (a := b15) 95 0 [.int y7] C E_b15 at_92 rfl (hw _ (List.mem_of_getElem? (i := 27) rfl)) (hw _ (List.mem_of_getElem? (i := 28) rfl)) (hw _ (List.mem_of_getElem? (i := 30) rfl)) (hw _ (List.mem_of_getElem? (i := 29) rfl)) (hw _ (List.mem_of_getElem? (i := 4) rfl)) (hw _ (List.mem_of_getElem? (i := 31) rfl)) (by decide) (rm_add K.l Z a0 hw [] b15 ta y7 sz T S1 hA0 n0 hz E_b15 g_b15 F_table_b15 F_size_b15 A_ta g_ta RP r_y7 (by omega) hsz) pd_I_to_Z rfl (rest := []) rfl rfl (Nat.le_of_eq rfl) (by decide) (by decide) (by decide) (by decide) ?_
      rintro v18 hB ⟨q, tb, cap2, T2, s2, rfl, hor, g_tb, K9, E_b15, F_table_b15, F_size_b15, A_tb, RP2, hs2, hcap2⟩
      show Go K hB 5 55 95 [.val (.int p0), .val (.int p1), .val (.int p2), .val (.int p3), .val (.int p4), .val (.int p5), .val (.int x1), .val (.ref b3), .val (.ref b15), .unset, .unset] [.int q]
      have hlv := A_b3.lt
      replace A_b3 := A_b3.keep K9 (ninS ne_b3_b15 (ninS ne_va_ta nin0))
      have nev : b3 ≠ tb := by rcases hor with rfl | t; exact ne_va_ta; exact Nat.ne_of_lt (Nat.lt_of_lt_of_le hlv t)
      refine w_pop 96 C at_95 rfl rfl ?_
      have hil := own_ins_len S1 y7
      exact J_96 hB tb cap2 T2 s2 (Nat.le_trans hz K9.1) E_b15 F_table_b15 F_size_b15 A_tb A_b3 (by rw [hS2]; exact RP2) (by rw [hS2]; exact hs2) (by rw [hS2]; exact hcap2) nev g_tb (by rw [hS2, hil]; split <;> omega)
  intro hA1 ta cap T sz hz E_b15 F_table_b15 F_size_b15 A_ta A_b3 RP hsz hcap ne_va_ta g_ta hSl
  refine w_iload 98 C at_96 rfl rfl ?_
  refine w_iconst 99 (2 : Int32) C at_98 rfl rfl ?_
  suffices J_112 : ∀ (hA2 : Heap) (ta : Addr) (cap : Nat) (T : List Int32) (sz : Int32), (n0 ≤ hA2.size) → (Exa Z hA2 b15 "com/example/ontology_path_queries/ontologypathqueries/engine/IntSet") → (Fld Z hA2 b15 "com/example/ontology_path_queries/ontologypathqueries/engine/IntSet" "table" "[I" (.ref ta)) → (Fld Z hA2 b15 "com/example/ontology_path_queries/ontologypathqueries/engine/IntSet" "size" "I" (.int sz)) → (Ai Z hA2 ta .int T) → (Ai Z hA2 b3 .int [y5, y7, y9, y11, y13]) → (own_rep cap T S3) → (sz.toInt = ((S3.length : Nat) : Int)) → (cap = 8 ∨ (cap = 16 ∧ S3.length = 5)) → (b3 ≠ ta) → (n0 ≤ ta) → (S3.length ≤ 3) → Go K hA2 6 71 112 [.val (.int p0), .val (.int p1), .val (.int p2), .val (.int p3), .val (.int p4), .val (.int p5), .val (.int x1), .val (.ref b3), .val (.ref b15), .unset, .unset] [] by
    refine w_icmp 112 102 C at_99 rfl rfl (fun (hc99 : x1.toInt ≤ (2 : Int32).toInt) => ?_) (fun (hc99 : ¬ (x1.toInt ≤ (2 : Int32).toInt)) => ?_)
    · simp only [Int32.reduceToInt] at hc99
      rw [if_neg (by omega)] at hS3
      subst hS3
      exact (J_112 hA1 ta cap T sz hz E_b15 F_table_b15 F_size_b15 A_ta A_b3 RP hsz hcap ne_va_ta g_ta (by omega)).more (by decide) (by decide)
    · simp only [Int32.reduceToInt] at hc99
      rw [if_pos (by omega)] at hS3
      obtain rfl : cap = 8 := by omega
      refine w_aload 104 C at_102 rfl rfl rfl ?_
      refine w_aload 106 C at_104 rfl rfl rfl ?_
      refine w_iconst 107 (2 : Int32) C at_106 rfl rfl ?_
      refine w_iaload 108 2 y9 C A_b3 at_107 rfl (by decide) rfl ?_
      refine w_callV (y := (⟨"com/example/ontology_path_queries/ontologypathqueries/engine/IntSet", "add", "(I)Z"⟩ : MethodName)) (a := b15) 111 0 [.int y9] C E_b15 at_108 rfl (hw _ (List.mem_of_getElem? (i := 27) rfl)) (hw _ (List.mem_of_getElem? (i := 28) rfl)) (hw _ (List.mem_of_getElem? (i := 30) rfl)) (hw _ (List.mem_of_getElem? (i := 29) rfl)) (hw _ (List.mem_of_getElem? (i := 4) rfl)) (hw _ (List.mem_of_getElem? (i := 31) rfl)) (by decide) (rm_add K.l Z a0 hw [] b15 ta y9 sz T S2 hA1 n0 hz E_b15 g_b15 F_table_b15 F_size_b15 A_ta g_ta RP r_y9 (by omega) hsz) pd_I_to_Z rfl (rest := []) rfl rfl (Nat.le_of_eq rfl) (by decide) (by decide) (by decide) (by decide) ?_
      rintro v19 hB ⟨q, tb, cap2, T2, s2, rfl, hor, g_tb, K9, E_b15, F_table_b15, F_size_b15, A_tb, RP2, hs2, hcap2⟩
      show Go K hB 6 71 111 [.val (.int p0), .val (.int p1), .val (.int p2), .val (.int p3), .val (.int p4), .val (.int p5), .val (.int x1), .val (.ref b3), .val (.ref b15), .unset, .unset] [.int q]
      have hlv := A_b3.lt
      replace A_b3 := A_b3.keep K9 (ninS ne_b3_b15 (ninS ne_va_ta nin0))
      have nev : b3 ≠ tb := by rcases hor with rfl | t; exact ne_va_ta; exact Nat.ne_of_lt (Nat.lt_of_lt_of_le hlv t)
      refine w_pop 112 C at_111 rfl rfl ?_
      have hil := own_ins_len S2 y9
      exact J_112 hB tb cap2 T2 s2 (Nat.le_trans hz K9.1) E_b15 F_table_b15 F_size_b15 A_tb A_b3 (by rw [hS3]; exact RP2) (by rw [hS3]; exact hs2) (by rw [hS3]; exact hcap2) nev g_tb (by rw [hS3, hil]; split <;> omega)
  intro hA2 ta cap T sz hz E_b15 F_table_b15 F_size_b15 A_ta A_b3 RP hsz hcap ne_va_ta g_ta hSl
  refine w_iload 114 C at_112 rfl rfl ?_
  refine w_iconst 115 (3 : Int32) C at_114 rfl rfl ?_
  suffices J_128 : ∀ (hA3 : Heap) (ta : Addr) (cap : Nat) (T : List Int32) (sz : Int32), (n0 ≤ hA3.size) → (Exa Z hA3 b15 "com/example/ontology_path_queries/ontologypathqueries/engine/IntSet") → (Fld Z hA3 b15 "com/example/ontology_path_queries/ontologypathqueries/engine/IntSet" "table" "[I" (.ref ta)) → (Fld Z hA3 b15 "com/example/ontology_path_queries/ontologypathqueries/engine/IntSet" "size" "I" (.int sz)) → (Ai Z hA3 ta .int T) → (Ai Z hA3 b3 .int [y5, y7, y9, y11, y13]) → (own_rep cap T S4) → (sz.toInt = ((S4.length : Nat) : Int)) → (cap = 8 ∨ (cap = 16 ∧ S4.length = 5)) → (b3 ≠ ta) → (n0 ≤ ta) → (S4.length ≤ 4) → Go K hA3 7 87 128 [.val (.int p0), .val (.int p1), .val (.int p2), .val (.int p3), .val (.int p4), .val (.int p5), .val (.int x1), .val (.ref b3), .val (.ref b15), .unset, .unset] [] by
    refine w_icmp 128 118 C at_115 rfl rfl (fun (hc115 : x1.toInt ≤ (3 : Int32).toInt) => ?_) (fun (hc115 : ¬ (x1.toInt ≤ (3 : Int32).toInt)) => ?_)
    · simp only [Int32.reduceToInt] at hc115
      rw [if_neg (by omega)] at hS4
      subst hS4
      exact (J_128 hA2 ta cap T sz hz E_b15 F_table_b15 F_size_b15 A_ta A_b3 RP hsz hcap ne_va_ta g_ta (by omega)).more (by decide) (by decide)
    · simp only [Int32.reduceToInt] at hc115
      rw [if_pos (by omega)] at hS4
      obtain rfl : cap = 8 := by omega
      refine w_aload 120 C at_118 rfl rfl rfl ?_
      refine w_aload 122 C at_120 rfl rfl rfl ?_
      refine w_iconst 123 (3 : Int32) C at_122 rfl rfl ?_
      refine w_iaload 124 3 y11 C A_b3 at_123 rfl (by decide) rfl ?_
      refine w_callV (y := (⟨"com/example/ontology_path_queries/ontologypathqueries/engine/IntSet", "add", "(I)Z"⟩ : MethodName)) (a := b15) 127 0 [.int y11] C E_b15 at_124 rfl (hw _ (List.mem_of_getElem? (i := 27) rfl)) (hw _ (List.mem_of_getElem? (i := 28) rfl)) (hw _ (List.mem_of_getElem? (i := 30) rfl)) (hw _ (List.mem_of_getElem? (i := 29) rfl)) (hw _ (List.mem_of_getElem? (i := 4) rfl)) (hw _ (List.mem_of_getElem? (i := 31) rfl)) (by decide) (rm_add K.l Z a0 hw [] b15 ta y11 sz T S3 hA2 n0 hz E_b15 g_b15 F_table_b15 F_size_b15 A_ta g_ta RP r_y11 (by omega) hsz) pd_I_to_Z rfl (rest := []) rfl rfl (Nat.le_of_eq rfl) (by decide) (by decide) (by decide) (by decide) ?_
      rintro v20 hB ⟨q, tb, cap2, T2, s2, rfl, hor, g_tb, K9, E_b15, F_table_b15, F_size_b15, A_tb, RP2, hs2, hcap2⟩
      show Go K hB 7 87 127 [.val (.int p0), .val (.int p1), .val (.int p2), .val (.int p3), .val (.int p4), .val (.int p5), .val (.int x1), .val (.ref b3), .val (.ref b15), .unset, .unset] [.int q]
      have hlv := A_b3.lt
      replace A_b3 := A_b3.keep K9 (ninS ne_b3_b15 (ninS ne_va_ta nin0))
      have nev : b3 ≠ tb := by rcases hor with rfl | t; exact ne_va_ta; exact Nat.ne_of_lt (Nat.lt_of_lt_of_le hlv t)
      refine w_pop 128 C at_127 rfl rfl ?_
      have hil := own_ins_len S3 y11
      exact J_128 hB tb cap2 T2 s2 (Nat.le_trans hz K9.1) E_b15 F_table_b15 F_size_b15 A_tb A_b3 (by rw [hS4]; exact RP2) (by rw [hS4]; exact hs2) (by rw [hS4]; exact hcap2) nev g_tb (by rw [hS4, hil]; split <;> omega)
  intro hA3 ta cap T sz hz E_b15 F_table_b15 F_size_b15 A_ta A_b3 RP hsz hcap ne_va_ta g_ta hSl
  refine w_iload 130 C at_128 rfl rfl ?_
  refine w_iconst 131 (4 : Int32) C at_130 rfl rfl ?_
  suffices J_144 : ∀ (hA4 : Heap) (ta : Addr) (cap : Nat) (T : List Int32) (sz : Int32), (n0 ≤ hA4.size) → (Exa Z hA4 b15 "com/example/ontology_path_queries/ontologypathqueries/engine/IntSet") → (Fld Z hA4 b15 "com/example/ontology_path_queries/ontologypathqueries/engine/IntSet" "table" "[I" (.ref ta)) → (Fld Z hA4 b15 "com/example/ontology_path_queries/ontologypathqueries/engine/IntSet" "size" "I" (.int sz)) → (Ai Z hA4 ta .int T) → (Ai Z hA4 b3 .int [y5, y7, y9, y11, y13]) → (own_rep cap T S5) → (sz.toInt = ((S5.length : Nat) : Int)) → (cap = 8 ∨ (cap = 16 ∧ S5.length = 5)) → (b3 ≠ ta) → (n0 ≤ ta) → (S5.length ≤ 5) → Go K hA4 8 103 144 [.val (.int p0), .val (.int p1), .val (.int p2), .val (.int p3), .val (.int p4), .val (.int p5), .val (.int x1), .val (.ref b3), .val (.ref b15), .unset, .unset] [] by
    refine w_icmp 144 134 C at_131 rfl rfl (fun (hc131 : x1.toInt ≤ (4 : Int32).toInt) => ?_) (fun (hc131 : ¬ (x1.toInt ≤ (4 : Int32).toInt)) => ?_)
    · simp only [Int32.reduceToInt] at hc131
      rw [if_neg (by omega)] at hS5
      subst hS5
      exact (J_144 hA3 ta cap T sz hz E_b15 F_table_b15 F_size_b15 A_ta A_b3 RP hsz hcap ne_va_ta g_ta (by omega)).more (by decide) (by decide)
    · simp only [Int32.reduceToInt] at hc131
      rw [if_pos (by omega)] at hS5
      obtain rfl : cap = 8 := by omega
      refine w_aload 136 C at_134 rfl rfl rfl ?_
      refine w_aload 138 C at_136 rfl rfl rfl ?_
      refine w_iconst 139 (4 : Int32) C at_138 rfl rfl ?_
      refine w_iaload 140 4 y13 C A_b3 at_139 rfl (by decide) rfl ?_
      refine w_callV (y := (⟨"com/example/ontology_path_queries/ontologypathqueries/engine/IntSet", "add", "(I)Z"⟩ : MethodName)) (a := b15) 143 0 [.int y13] C E_b15 at_140 rfl (hw _ (List.mem_of_getElem? (i := 27) rfl)) (hw _ (List.mem_of_getElem? (i := 28) rfl)) (hw _ (List.mem_of_getElem? (i := 30) rfl)) (hw _ (List.mem_of_getElem? (i := 29) rfl)) (hw _ (List.mem_of_getElem? (i := 4) rfl)) (hw _ (List.mem_of_getElem? (i := 31) rfl)) (by decide) (rm_add K.l Z a0 hw [] b15 ta y13 sz T S4 hA3 n0 hz E_b15 g_b15 F_table_b15 F_size_b15 A_ta g_ta RP r_y13 (by omega) hsz) pd_I_to_Z rfl (rest := []) rfl rfl (Nat.le_of_eq rfl) (by decide) (by decide) (by decide) (by decide) ?_
      rintro v21 hB ⟨q, tb, cap2, T2, s2, rfl, hor, g_tb, K9, E_b15, F_table_b15, F_size_b15, A_tb, RP2, hs2, hcap2⟩
      show Go K hB 8 103 143 [.val (.int p0), .val (.int p1), .val (.int p2), .val (.int p3), .val (.int p4), .val (.int p5), .val (.int x1), .val (.ref b3), .val (.ref b15), .unset, .unset] [.int q]
      have hlv := A_b3.lt
      replace A_b3 := A_b3.keep K9 (ninS ne_b3_b15 (ninS ne_va_ta nin0))
      have nev : b3 ≠ tb := by rcases hor with rfl | t; exact ne_va_ta; exact Nat.ne_of_lt (Nat.lt_of_lt_of_le hlv t)
      refine w_pop 144 C at_143 rfl rfl ?_
      have hil := own_ins_len S4 y13
      exact J_144 hB tb cap2 T2 s2 (Nat.le_trans hz K9.1) E_b15 F_table_b15 F_size_b15 A_tb A_b3 (by rw [hS5]; exact RP2) (by rw [hS5]; exact hs2) (by rw [hS5]; exact hcap2) nev g_tb (by rw [hS5, hil]; split <;> omega)
  intro hA4 ta cap T sz hz E_b15 F_table_b15 F_size_b15 A_ta A_b3 RP hsz hcap ne_va_ta g_ta hSl
  refine w_aload 146 C at_144 rfl rfl rfl ?_
  refine w_callV (y := (⟨"com/example/ontology_path_queries/ontologypathqueries/engine/IntSet", "toArray", "()[I"⟩ : MethodName)) (a := b15) 149 0 [] C E_b15 at_146 rfl (hw _ (List.mem_of_getElem? (i := 20) rfl)) (hw _ (List.mem_of_getElem? (i := 21) rfl)) (hw _ (List.mem_of_getElem? (i := 23) rfl)) (hw _ (List.mem_of_getElem? (i := 22) rfl)) (hw _ (List.mem_of_getElem? (i := 4) rfl)) (hw _ (List.mem_of_getElem? (i := 24) rfl)) (by decide) (rm_arr K.l Z a0 hw [] b15 ta sz cap T S5 hA4 n0 hz E_b15 F_table_b15 F_size_b15 A_ta RP (by omega) hSl hsz) pd__to_aI rfl (rest := []) rfl rfl (Nat.le_of_eq rfl) (by decide) (by decide) (by decide) (by decide) ?_
  rintro v22 hR ⟨rb, R, rfl, sz_rb, K9, A_rb, hperm⟩
  show Go K hR 9 108 149 [.val (.int p0), .val (.int p1), .val (.int p2), .val (.int p3), .val (.int p4), .val (.int p5), .val (.int x1), .val (.ref b3), .val (.ref b15), .unset, .unset] [.ref rb]
  replace A_b3 := A_b3.keep K9 nin0
  replace hz := Nat.le_trans hz K9.1
  have hnd := RP.2.2.2.1
  have mem1 : ∀ y, (1 : Int) ≤ N → (y ∈ S1 ↔ y = y5) := by intro y h; rw [hS1, if_pos (by omega), own_ins_mem, hS0]; simp
  have mem2 : ∀ y, (2 : Int) ≤ N → (y ∈ S2 ↔ y = y5 ∨ y = y7) := by intro y h; rw [hS2, if_pos (by omega), own_ins_mem, mem1 y (by omega)] <;> simp only [or_assoc]
  have mem3 : ∀ y, (3 : Int) ≤ N → (y ∈ S3 ↔ y = y5 ∨ y = y7 ∨ y = y9) := by intro y h; rw [hS3, if_pos (by omega), own_ins_mem, mem2 y (by omega)] <;> simp only [or_assoc]
  have mem4 : ∀ y, (4 : Int) ≤ N → (y ∈ S4 ↔ y = y5 ∨ y = y7 ∨ y = y9 ∨ y = y11) := by intro y h; rw [hS4, if_pos (by omega), own_ins_mem, mem3 y (by omega)] <;> simp only [or_assoc]
  have mem5 : ∀ y, (5 : Int) ≤ N → (y ∈ S5 ↔ y = y5 ∨ y = y7 ∨ y = y9 ∨ y = y11 ∨ y = y13) := by intro y h; rw [hS5, if_pos (by omega), own_ins_mem, mem4 y (by omega)] <;> simp only [or_assoc]
  have up0 : ∀ y, y ∈ S0 → y ∈ S1 := by intro y h; rw [hS1]; split; exact (own_ins_mem _ _ _).mpr (Or.inl h); exact h
  have up1 : ∀ y, y ∈ S1 → y ∈ S2 := by intro y h; rw [hS2]; split; exact (own_ins_mem _ _ _).mpr (Or.inl h); exact h
  have up2 : ∀ y, y ∈ S2 → y ∈ S3 := by intro y h; rw [hS3]; split; exact (own_ins_mem _ _ _).mpr (Or.inl h); exact h
  have up3 : ∀ y, y ∈ S3 → y ∈ S4 := by intro y h; rw [hS4]; split; exact (own_ins_mem _ _ _).mpr (Or.inl h); exact h
  have up4 : ∀ y, y ∈ S4 → y ∈ S5 := by intro y h; rw [hS5]; split; exact (own_ins_mem _ _ _).mpr (Or.inl h); exact h
  have in0 : (0 : Int) < N → y5 ∈ S5 := fun h => up4 _ (up3 _ (up2 _ (up1 _ (by rw [hS1, if_pos h]; exact (own_ins_mem _ _ _).mpr (Or.inr rfl)))))
  have in1 : (1 : Int) < N → y7 ∈ S5 := fun h => up4 _ (up3 _ (up2 _ (by rw [hS2, if_pos h]; exact (own_ins_mem _ _ _).mpr (Or.inr rfl))))
  have in2 : (2 : Int) < N → y9 ∈ S5 := fun h => up4 _ (up3 _ (by rw [hS3, if_pos h]; exact (own_ins_mem _ _ _).mpr (Or.inr rfl)))
  have in3 : (3 : Int) < N → y11 ∈ S5 := fun h => up4 _ (by rw [hS4, if_pos h]; exact (own_ins_mem _ _ _).mpr (Or.inr rfl))
  have in4 : (4 : Int) < N → y13 ∈ S5 := fun h => by rw [hS5, if_pos h]; exact (own_ins_mem _ _ _).mpr (Or.inr rfl)
  refine w_astore 151 [.val (.int p0), .val (.int p1), .val (.int p2), .val (.int p3), .val (.int p4), .val (.int p5), .val (.int x1), .val (.ref b3), .val (.ref b15), .val (.ref rb), .unset] C at_149 rfl rfl rfl ?_
  refine w_iconst 152 (0 : Int32) C at_151 rfl rfl ?_
  refine w_istore 154 [.val (.int p0), .val (.int p1), .val (.int p2), .val (.int p3), .val (.int p4), .val (.int p5), .val (.int x1), .val (.ref b3), .val (.ref b15), .val (.ref rb), .val (.int (0 : Int32))] C at_152 rfl rfl ?_
  refine w_iload 156 C at_154 rfl rfl ?_
  have hd0 : (0 : Int32).toInt = ((S0.length : Nat) : Int) := by rw [hS0]; decide
  have e1 : (1 : Int32).toInt = 1 := by decide
  suffices J_162 : ∀ (d1 : Int32), (d1.toInt = ((S1.length : Nat) : Int)) → Go K hR 9 108 162 [.val (.int p0), .val (.int p1), .val (.int p2), .val (.int p3), .val (.int p4), .val (.int p5), .val (.int x1), .val (.ref b3), .val (.ref b15), .val (.ref rb), .val (.int d1)] [] by
    refine w_if 162 159 C at_156 rfl rfl (fun (hc156 : x1.toInt ≤ (0 : Int32).toInt) => ?_) (fun (hc156 : ¬ (x1.toInt ≤ (0 : Int32).toInt)) => ?_)
    · simp only [Int32.reduceToInt] at hc156
      exact J_162 (0 : Int32) (by rw [hS1, if_neg (by omega)]; exact hd0)
    · simp only [Int32.reduceToInt] at hc156
      refine w_iinc (z := ((0 : Int32) + (1 : Int32))) 162 [.val (.int p0), .val (.int p1), .val (.int p2), .val (.int p3), .val (.int p4), .val (.int p5), .val (.int x1), .val (.ref b3), .val (.ref b15), .val (.ref rb), .val (.int ((0 : Int32) + (1 : Int32)))] C at_159 rfl rfl rfl rfl ?_
      exact J_162 _ (by rw [hS1, if_pos (by omega), own_ins_len, hS0, if_neg (by simp)]; rfl)
  intro d1 hd1
  refine w_iload 164 C at_162 rfl rfl ?_
  refine w_iconst 165 (1 : Int32) C at_164 rfl rfl ?_
  have hll1 : S1.length ≤ 1 := by
    rw [hS1]; split; rw [own_ins_len, hS0]; split <;> simp; rw [hS0]; simp
  suffices J_180 : ∀ (d2 : Int32), (d2.toInt = ((S2.length : Nat) : Int)) → Go K hR 9 108 180 [.val (.int p0), .val (.int p1), .val (.int p2), .val (.int p3), .val (.int p4), .val (.int p5), .val (.int x1), .val (.ref b3), .val (.ref b15), .val (.ref rb), .val (.int d2)] [] by
    refine w_icmp 180 168 C at_165 rfl rfl (fun (hc165 : x1.toInt ≤ (1 : Int32).toInt) => ?_) (fun (hc165 : ¬ (x1.toInt ≤ (1 : Int32).toInt)) => ?_)
    · simp only [Int32.reduceToInt] at hc165
      exact J_180 d1 (by rw [hS2, if_neg (by omega)]; exact hd1)
    · simp only [Int32.reduceToInt] at hc165
      refine w_aload 170 C at_168 rfl rfl rfl ?_
      refine w_iconst 171 (1 : Int32) C at_170 rfl rfl ?_
      refine w_callS (y := (⟨"com/example/ontology_path_queries/ontologypathqueries/engine/IntSetToArrayPinLaw", "fresh", "([II)Z"⟩ : MethodName)) 174 0 [.ref b3, .int (1 : Int32)] C at_171 rfl (hw _ (List.mem_of_getElem? (i := 37) rfl)) (hw _ (List.mem_of_getElem? (i := 38) rfl)) (hw _ (List.mem_of_getElem? (i := 39) rfl)) (hw _ (List.mem_of_getElem? (i := 40) rfl)) (by decide) (rm_fresh1 K.l Z a0 hw [] b3 y5 y7 y9 y11 y13 hR n0 hz A_b3) pd_aII_to_Z rfl (rest := []) rfl rfl (Nat.le_of_eq rfl) (by decide) (by decide) (by decide) (by decide) ?_
      rintro v24 h23 ⟨⟨z, rfl, hzz⟩, rfl⟩
      show Go K hR 9 108 174 [.val (.int p0), .val (.int p1), .val (.int p2), .val (.int p3), .val (.int p4), .val (.int p5), .val (.int x1), .val (.ref b3), .val (.ref b15), .val (.ref rb), .val (.int d1)] [.int z]
      have hmm := mem1 y7 (by omega)
      refine w_if 180 177 C at_174 rfl rfl (fun (hc174 : z = (0 : Int32)) => ?_) (fun (hc174 : ¬ (z = (0 : Int32))) => ?_)
      · have hin : y7 ∈ S1 := by
          rcases hzz with ⟨q, rfl⟩ | ⟨q, rfl⟩
          · exact absurd hc174 (by decide)
          · rw [hmm]; exact (Classical.not_not.mp q).symm
        exact J_180 d1 (by rw [hS2, if_pos (by omega), own_ins_len, if_pos hin]; exact hd1)
      · have hin : ¬ (y7 ∈ S1) := by
          rcases hzz with ⟨q, rfl⟩ | ⟨q, rfl⟩
          · rw [hmm]; exact fun t => q t.symm
          · exact absurd rfl hc174
        refine w_iinc (z := (d1 + (1 : Int32))) 180 [.val (.int p0), .val (.int p1), .val (.int p2), .val (.int p3), .val (.int p4), .val (.int p5), .val (.int x1), .val (.ref b3), .val (.ref b15), .val (.ref rb), .val (.int (d1 + (1 : Int32)))] C at_177 rfl rfl rfl rfl ?_
        have hll : S1.length ≤ 5 := by omega
        exact J_180 _ (by rw [hS2, if_pos (by omega), own_ins_len, if_neg hin, own_iadd, hd1, e1]; omega)
  intro d2 hd2
  refine w_iload 182 C at_180 rfl rfl ?_
  refine w_iconst 183 (2 : Int32) C at_182 rfl rfl ?_
  have hll2 : S2.length ≤ 2 := by
    rw [hS2]; split; rw [own_ins_len]; split <;> omega; omega
  suffices J_198 : ∀ (d3 : Int32), (d3.toInt = ((S3.length : Nat) : Int)) → Go K hR 9 108 198 [.val (.int p0), .val (.int p1), .val (.int p2), .val (.int p3), .val (.int p4), .val (.int p5), .val (.int x1), .val (.ref b3), .val (.ref b15), .val (.ref rb), .val (.int d3)] [] by
    refine w_icmp 198 186 C at_183 rfl rfl (fun (hc183 : x1.toInt ≤ (2 : Int32).toInt) => ?_) (fun (hc183 : ¬ (x1.toInt ≤ (2 : Int32).toInt)) => ?_)
    · simp only [Int32.reduceToInt] at hc183
      exact J_198 d2 (by rw [hS3, if_neg (by omega)]; exact hd2)
    · simp only [Int32.reduceToInt] at hc183
      refine w_aload 188 C at_186 rfl rfl rfl ?_
      refine w_iconst 189 (2 : Int32) C at_188 rfl rfl ?_
      refine w_callS (y := (⟨"com/example/ontology_path_queries/ontologypathqueries/engine/IntSetToArrayPinLaw", "fresh", "([II)Z"⟩ : MethodName)) 192 0 [.ref b3, .int (2 : Int32)] C at_189 rfl (hw _ (List.mem_of_getElem? (i := 37) rfl)) (hw _ (List.mem_of_getElem? (i := 38) rfl)) (hw _ (List.mem_of_getElem? (i := 39) rfl)) (hw _ (List.mem_of_getElem? (i := 40) rfl)) (by decide) (rm_fresh2 K.l Z a0 hw [] b3 y5 y7 y9 y11 y13 hR n0 hz A_b3) pd_aII_to_Z rfl (rest := []) rfl rfl (Nat.le_of_eq rfl) (by decide) (by decide) (by decide) (by decide) ?_
      rintro v26 h25 ⟨⟨z, rfl, hzz⟩, rfl⟩
      show Go K hR 9 108 192 [.val (.int p0), .val (.int p1), .val (.int p2), .val (.int p3), .val (.int p4), .val (.int p5), .val (.int x1), .val (.ref b3), .val (.ref b15), .val (.ref rb), .val (.int d2)] [.int z]
      have hmm := mem2 y9 (by omega)
      refine w_if 198 195 C at_192 rfl rfl (fun (hc192 : z = (0 : Int32)) => ?_) (fun (hc192 : ¬ (z = (0 : Int32))) => ?_)
      · have hin : y9 ∈ S2 := by
          rcases hzz with ⟨q, rfl⟩ | ⟨q, rfl⟩
          · exact absurd hc192 (by decide)
          · rw [hmm]; apply Classical.byContradiction; intro t; apply q; refine ⟨?_, ?_⟩ <;> intro u <;> apply t <;> rw [u] <;> simp
        exact J_198 d2 (by rw [hS3, if_pos (by omega), own_ins_len, if_pos hin]; exact hd2)
      · have hin : ¬ (y9 ∈ S2) := by
          rcases hzz with ⟨q, rfl⟩ | ⟨q, rfl⟩
          · rw [hmm]; exact fun t => t.elim (fun t => q.1 t.symm) (fun t => q.2 t.symm)
          · exact absurd rfl hc192
        refine w_iinc (z := (d2 + (1 : Int32))) 198 [.val (.int p0), .val (.int p1), .val (.int p2), .val (.int p3), .val (.int p4), .val (.int p5), .val (.int x1), .val (.ref b3), .val (.ref b15), .val (.ref rb), .val (.int (d2 + (1 : Int32)))] C at_195 rfl rfl rfl rfl ?_
        have hll : S2.length ≤ 5 := by omega
        exact J_198 _ (by rw [hS3, if_pos (by omega), own_ins_len, if_neg hin, own_iadd, hd2, e1]; omega)
  intro d3 hd3
  refine w_iload 200 C at_198 rfl rfl ?_
  refine w_iconst 201 (3 : Int32) C at_200 rfl rfl ?_
  have hll3 : S3.length ≤ 3 := by
    rw [hS3]; split; rw [own_ins_len]; split <;> omega; omega
  suffices J_216 : ∀ (d4 : Int32), (d4.toInt = ((S4.length : Nat) : Int)) → Go K hR 9 108 216 [.val (.int p0), .val (.int p1), .val (.int p2), .val (.int p3), .val (.int p4), .val (.int p5), .val (.int x1), .val (.ref b3), .val (.ref b15), .val (.ref rb), .val (.int d4)] [] by
    refine w_icmp 216 204 C at_201 rfl rfl (fun (hc201 : x1.toInt ≤ (3 : Int32).toInt) => ?_) (fun (hc201 : ¬ (x1.toInt ≤ (3 : Int32).toInt)) => ?_)
    · simp only [Int32.reduceToInt] at hc201
      exact J_216 d3 (by rw [hS4, if_neg (by omega)]; exact hd3)
    · simp only [Int32.reduceToInt] at hc201
      refine w_aload 206 C at_204 rfl rfl rfl ?_
      refine w_iconst 207 (3 : Int32) C at_206 rfl rfl ?_
      refine w_callS (y := (⟨"com/example/ontology_path_queries/ontologypathqueries/engine/IntSetToArrayPinLaw", "fresh", "([II)Z"⟩ : MethodName)) 210 0 [.ref b3, .int (3 : Int32)] C at_207 rfl (hw _ (List.mem_of_getElem? (i := 37) rfl)) (hw _ (List.mem_of_getElem? (i := 38) rfl)) (hw _ (List.mem_of_getElem? (i := 39) rfl)) (hw _ (List.mem_of_getElem? (i := 40) rfl)) (by decide) (rm_fresh3 K.l Z a0 hw [] b3 y5 y7 y9 y11 y13 hR n0 hz A_b3) pd_aII_to_Z rfl (rest := []) rfl rfl (Nat.le_of_eq rfl) (by decide) (by decide) (by decide) (by decide) ?_
      rintro v28 h27 ⟨⟨z, rfl, hzz⟩, rfl⟩
      show Go K hR 9 108 210 [.val (.int p0), .val (.int p1), .val (.int p2), .val (.int p3), .val (.int p4), .val (.int p5), .val (.int x1), .val (.ref b3), .val (.ref b15), .val (.ref rb), .val (.int d3)] [.int z]
      have hmm := mem3 y11 (by omega)
      refine w_if 216 213 C at_210 rfl rfl (fun (hc210 : z = (0 : Int32)) => ?_) (fun (hc210 : ¬ (z = (0 : Int32))) => ?_)
      · have hin : y11 ∈ S3 := by
          rcases hzz with ⟨q, rfl⟩ | ⟨q, rfl⟩
          · exact absurd hc210 (by decide)
          · rw [hmm]; apply Classical.byContradiction; intro t; apply q; refine ⟨?_, ?_, ?_⟩ <;> intro u <;> apply t <;> rw [u] <;> simp
        exact J_216 d3 (by rw [hS4, if_pos (by omega), own_ins_len, if_pos hin]; exact hd3)
      · have hin : ¬ (y11 ∈ S3) := by
          rcases hzz with ⟨q, rfl⟩ | ⟨q, rfl⟩
          · rw [hmm]; exact fun t => t.elim (fun t => q.1 t.symm) (fun t => t.elim (fun t => q.2.1 t.symm) (fun t => q.2.2 t.symm))
          · exact absurd rfl hc210
        refine w_iinc (z := (d3 + (1 : Int32))) 216 [.val (.int p0), .val (.int p1), .val (.int p2), .val (.int p3), .val (.int p4), .val (.int p5), .val (.int x1), .val (.ref b3), .val (.ref b15), .val (.ref rb), .val (.int (d3 + (1 : Int32)))] C at_213 rfl rfl rfl rfl ?_
        have hll : S3.length ≤ 5 := by omega
        exact J_216 _ (by rw [hS4, if_pos (by omega), own_ins_len, if_neg hin, own_iadd, hd3, e1]; omega)
  intro d4 hd4
  refine w_iload 218 C at_216 rfl rfl ?_
  refine w_iconst 219 (4 : Int32) C at_218 rfl rfl ?_
  have hll4 : S4.length ≤ 4 := by
    rw [hS4]; split; rw [own_ins_len]; split <;> omega; omega
  suffices J_234 : ∀ (d5 : Int32), (d5.toInt = ((S5.length : Nat) : Int)) → Go K hR 9 108 234 [.val (.int p0), .val (.int p1), .val (.int p2), .val (.int p3), .val (.int p4), .val (.int p5), .val (.int x1), .val (.ref b3), .val (.ref b15), .val (.ref rb), .val (.int d5)] [] by
    refine w_icmp 234 222 C at_219 rfl rfl (fun (hc219 : x1.toInt ≤ (4 : Int32).toInt) => ?_) (fun (hc219 : ¬ (x1.toInt ≤ (4 : Int32).toInt)) => ?_)
    · simp only [Int32.reduceToInt] at hc219
      exact J_234 d4 (by rw [hS5, if_neg (by omega)]; exact hd4)
    · simp only [Int32.reduceToInt] at hc219
      refine w_aload 224 C at_222 rfl rfl rfl ?_
      refine w_iconst 225 (4 : Int32) C at_224 rfl rfl ?_
      refine w_callS (y := (⟨"com/example/ontology_path_queries/ontologypathqueries/engine/IntSetToArrayPinLaw", "fresh", "([II)Z"⟩ : MethodName)) 228 0 [.ref b3, .int (4 : Int32)] C at_225 rfl (hw _ (List.mem_of_getElem? (i := 37) rfl)) (hw _ (List.mem_of_getElem? (i := 38) rfl)) (hw _ (List.mem_of_getElem? (i := 39) rfl)) (hw _ (List.mem_of_getElem? (i := 40) rfl)) (by decide) (rm_fresh4 K.l Z a0 hw [] b3 y5 y7 y9 y11 y13 hR n0 hz A_b3) pd_aII_to_Z rfl (rest := []) rfl rfl (Nat.le_of_eq rfl) (by decide) (by decide) (by decide) (by decide) ?_
      rintro v30 h29 ⟨⟨z, rfl, hzz⟩, rfl⟩
      show Go K hR 9 108 228 [.val (.int p0), .val (.int p1), .val (.int p2), .val (.int p3), .val (.int p4), .val (.int p5), .val (.int x1), .val (.ref b3), .val (.ref b15), .val (.ref rb), .val (.int d4)] [.int z]
      have hmm := mem4 y13 (by omega)
      refine w_if 234 231 C at_228 rfl rfl (fun (hc228 : z = (0 : Int32)) => ?_) (fun (hc228 : ¬ (z = (0 : Int32))) => ?_)
      · have hin : y13 ∈ S4 := by
          rcases hzz with ⟨q, rfl⟩ | ⟨q, rfl⟩
          · exact absurd hc228 (by decide)
          · rw [hmm]; apply Classical.byContradiction; intro t; apply q; refine ⟨?_, ?_, ?_, ?_⟩ <;> intro u <;> apply t <;> rw [u] <;> simp
        exact J_234 d4 (by rw [hS5, if_pos (by omega), own_ins_len, if_pos hin]; exact hd4)
      · have hin : ¬ (y13 ∈ S4) := by
          rcases hzz with ⟨q, rfl⟩ | ⟨q, rfl⟩
          · rw [hmm]; exact fun t => t.elim (fun t => q.1 t.symm) (fun t => t.elim (fun t => q.2.1 t.symm) (fun t => t.elim (fun t => q.2.2.1 t.symm) (fun t => q.2.2.2 t.symm)))
          · exact absurd rfl hc228
        refine w_iinc (z := (d4 + (1 : Int32))) 234 [.val (.int p0), .val (.int p1), .val (.int p2), .val (.int p3), .val (.int p4), .val (.int p5), .val (.int x1), .val (.ref b3), .val (.ref b15), .val (.ref rb), .val (.int (d4 + (1 : Int32)))] C at_231 rfl rfl rfl rfl ?_
        have hll : S4.length ≤ 5 := by omega
        exact J_234 _ (by rw [hS5, if_pos (by omega), own_ins_len, if_neg hin, own_iadd, hd4, e1]; omega)
  intro d5 hd5
  refine w_aload 236 C at_234 rfl rfl rfl ?_
  refine w_nullN 239 C at_236 rfl ?_
  refine w_aload 241 C at_239 rfl rfl rfl ?_
  refine w_len 242 R.length.toInt32 C A_rb at_241 rfl rfl ?_
  refine w_iload 244 C at_242 rfl rfl ?_
  have hRl := hperm.length_eq
  have hR5 : R.length ≤ 5 := by omega
  refine w_icmpY 249 C at_244 rfl (show R.length.toInt32 = d5 from (own_eq (by rw [len_toInt (by omega), hd5, hRl]))) ?_
  refine w_iload 251 C at_249 rfl rfl ?_
  suffices J_269 : Go K hR 9 108 269 [.val (.int p0), .val (.int p1), .val (.int p2), .val (.int p3), .val (.int p4), .val (.int p5), .val (.int x1), .val (.ref b3), .val (.ref b15), .val (.ref rb), .val (.int d5)] [] by
    refine w_if 269 254 C at_251 rfl rfl (fun (hc251 : x1.toInt ≤ (0 : Int32).toInt) => ?_) (fun (hc251 : ¬ (x1.toInt ≤ (0 : Int32).toInt)) => ?_)
    · exact J_269
    · simp only [Int32.reduceToInt] at hc251
      refine w_aload 256 C at_254 rfl rfl rfl ?_
      refine w_aload 258 C at_256 rfl rfl rfl ?_
      refine w_iconst 259 (0 : Int32) C at_258 rfl rfl ?_
      refine w_iaload 260 0 y5 C A_b3 at_259 rfl (by decide) rfl ?_
      refine w_callS (y := (⟨"com/example/ontology_path_queries/ontologypathqueries/engine/IntSetToArrayPinLaw", "occ", "([II)I"⟩ : MethodName)) 263 0 [.ref rb, .int y5] C at_260 rfl (hw _ (List.mem_of_getElem? (i := 41) rfl)) (hw _ (List.mem_of_getElem? (i := 42) rfl)) (hw _ (List.mem_of_getElem? (i := 39) rfl)) (hw _ (List.mem_of_getElem? (i := 43) rfl)) (by decide) (rm_occ K.l Z a0 hw [] rb y5 R hR n0 hz A_rb hR5) pd_aII_to_I rfl (rest := []) rfl rfl (Nat.le_of_eq rfl) (by decide) (by decide) (by decide) (by decide) ?_
      rintro v32 h31 ⟨⟨z, rfl, hzz⟩, rfl⟩
      show Go K hR 9 108 263 [.val (.int p0), .val (.int p1), .val (.int p2), .val (.int p3), .val (.int p4), .val (.int p5), .val (.int x1), .val (.ref b3), .val (.ref b15), .val (.ref rb), .val (.int d5)] [.int z]
      refine w_iconst 264 (1 : Int32) C at_263 rfl rfl ?_
      have hone : R.count y5 = 1 := by rw [hperm.count_eq]; exact own_countN _ _ hnd (in0 (by omega))
      refine w_icmpY 269 C at_264 rfl (show z = (1 : Int32) from (own_eq (by rw [hzz, hone]; decide))) ?_
      exact J_269
  refine w_iload 271 C at_269 rfl rfl ?_
  refine w_iconst 272 (1 : Int32) C at_271 rfl rfl ?_
  suffices J_290 : Go K hR 9 108 290 [.val (.int p0), .val (.int p1), .val (.int p2), .val (.int p3), .val (.int p4), .val (.int p5), .val (.int x1), .val (.ref b3), .val (.ref b15), .val (.ref rb), .val (.int d5)] [] by
    refine w_icmp 290 275 C at_272 rfl rfl (fun (hc272 : x1.toInt ≤ (1 : Int32).toInt) => ?_) (fun (hc272 : ¬ (x1.toInt ≤ (1 : Int32).toInt)) => ?_)
    · exact J_290
    · simp only [Int32.reduceToInt] at hc272
      refine w_aload 277 C at_275 rfl rfl rfl ?_
      refine w_aload 279 C at_277 rfl rfl rfl ?_
      refine w_iconst 280 (1 : Int32) C at_279 rfl rfl ?_
      refine w_iaload 281 1 y7 C A_b3 at_280 rfl (by decide) rfl ?_
      refine w_callS (y := (⟨"com/example/ontology_path_queries/ontologypathqueries/engine/IntSetToArrayPinLaw", "occ", "([II)I"⟩ : MethodName)) 284 0 [.ref rb, .int y7] C at_281 rfl (hw _ (List.mem_of_getElem? (i := 41) rfl)) (hw _ (List.mem_of_getElem? (i := 42) rfl)) (hw _ (List.mem_of_getElem? (i := 39) rfl)) (hw _ (List.mem_of_getElem? (i := 43) rfl)) (by decide) (rm_occ K.l Z a0 hw [] rb y7 R hR n0 hz A_rb hR5) pd_aII_to_I rfl (rest := []) rfl rfl (Nat.le_of_eq rfl) (by decide) (by decide) (by decide) (by decide) ?_
      rintro v34 h33 ⟨⟨z, rfl, hzz⟩, rfl⟩
      show Go K hR 9 108 284 [.val (.int p0), .val (.int p1), .val (.int p2), .val (.int p3), .val (.int p4), .val (.int p5), .val (.int x1), .val (.ref b3), .val (.ref b15), .val (.ref rb), .val (.int d5)] [.int z]
      refine w_iconst 285 (1 : Int32) C at_284 rfl rfl ?_
      have hone : R.count y7 = 1 := by rw [hperm.count_eq]; exact own_countN _ _ hnd (in1 (by omega))
      refine w_icmpY 290 C at_285 rfl (show z = (1 : Int32) from (own_eq (by rw [hzz, hone]; decide))) ?_
      exact J_290
  refine w_iload 292 C at_290 rfl rfl ?_
  refine w_iconst 293 (2 : Int32) C at_292 rfl rfl ?_
  suffices J_311 : Go K hR 9 108 311 [.val (.int p0), .val (.int p1), .val (.int p2), .val (.int p3), .val (.int p4), .val (.int p5), .val (.int x1), .val (.ref b3), .val (.ref b15), .val (.ref rb), .val (.int d5)] [] by
    refine w_icmp 311 296 C at_293 rfl rfl (fun (hc293 : x1.toInt ≤ (2 : Int32).toInt) => ?_) (fun (hc293 : ¬ (x1.toInt ≤ (2 : Int32).toInt)) => ?_)
    · exact J_311
    · simp only [Int32.reduceToInt] at hc293
      refine w_aload 298 C at_296 rfl rfl rfl ?_
      refine w_aload 300 C at_298 rfl rfl rfl ?_
      refine w_iconst 301 (2 : Int32) C at_300 rfl rfl ?_
      refine w_iaload 302 2 y9 C A_b3 at_301 rfl (by decide) rfl ?_
      refine w_callS (y := (⟨"com/example/ontology_path_queries/ontologypathqueries/engine/IntSetToArrayPinLaw", "occ", "([II)I"⟩ : MethodName)) 305 0 [.ref rb, .int y9] C at_302 rfl (hw _ (List.mem_of_getElem? (i := 41) rfl)) (hw _ (List.mem_of_getElem? (i := 42) rfl)) (hw _ (List.mem_of_getElem? (i := 39) rfl)) (hw _ (List.mem_of_getElem? (i := 43) rfl)) (by decide) (rm_occ K.l Z a0 hw [] rb y9 R hR n0 hz A_rb hR5) pd_aII_to_I rfl (rest := []) rfl rfl (Nat.le_of_eq rfl) (by decide) (by decide) (by decide) (by decide) ?_
      rintro v36 h35 ⟨⟨z, rfl, hzz⟩, rfl⟩
      show Go K hR 9 108 305 [.val (.int p0), .val (.int p1), .val (.int p2), .val (.int p3), .val (.int p4), .val (.int p5), .val (.int x1), .val (.ref b3), .val (.ref b15), .val (.ref rb), .val (.int d5)] [.int z]
      refine w_iconst 306 (1 : Int32) C at_305 rfl rfl ?_
      have hone : R.count y9 = 1 := by rw [hperm.count_eq]; exact own_countN _ _ hnd (in2 (by omega))
      refine w_icmpY 311 C at_306 rfl (show z = (1 : Int32) from (own_eq (by rw [hzz, hone]; decide))) ?_
      exact J_311
  refine w_iload 313 C at_311 rfl rfl ?_
  refine w_iconst 314 (3 : Int32) C at_313 rfl rfl ?_
  suffices J_332 : Go K hR 9 108 332 [.val (.int p0), .val (.int p1), .val (.int p2), .val (.int p3), .val (.int p4), .val (.int p5), .val (.int x1), .val (.ref b3), .val (.ref b15), .val (.ref rb), .val (.int d5)] [] by
    refine w_icmp 332 317 C at_314 rfl rfl (fun (hc314 : x1.toInt ≤ (3 : Int32).toInt) => ?_) (fun (hc314 : ¬ (x1.toInt ≤ (3 : Int32).toInt)) => ?_)
    · exact J_332
    · simp only [Int32.reduceToInt] at hc314
      refine w_aload 319 C at_317 rfl rfl rfl ?_
      refine w_aload 321 C at_319 rfl rfl rfl ?_
      refine w_iconst 322 (3 : Int32) C at_321 rfl rfl ?_
      refine w_iaload 323 3 y11 C A_b3 at_322 rfl (by decide) rfl ?_
      refine w_callS (y := (⟨"com/example/ontology_path_queries/ontologypathqueries/engine/IntSetToArrayPinLaw", "occ", "([II)I"⟩ : MethodName)) 326 0 [.ref rb, .int y11] C at_323 rfl (hw _ (List.mem_of_getElem? (i := 41) rfl)) (hw _ (List.mem_of_getElem? (i := 42) rfl)) (hw _ (List.mem_of_getElem? (i := 39) rfl)) (hw _ (List.mem_of_getElem? (i := 43) rfl)) (by decide) (rm_occ K.l Z a0 hw [] rb y11 R hR n0 hz A_rb hR5) pd_aII_to_I rfl (rest := []) rfl rfl (Nat.le_of_eq rfl) (by decide) (by decide) (by decide) (by decide) ?_
      rintro v38 h37 ⟨⟨z, rfl, hzz⟩, rfl⟩
      show Go K hR 9 108 326 [.val (.int p0), .val (.int p1), .val (.int p2), .val (.int p3), .val (.int p4), .val (.int p5), .val (.int x1), .val (.ref b3), .val (.ref b15), .val (.ref rb), .val (.int d5)] [.int z]
      refine w_iconst 327 (1 : Int32) C at_326 rfl rfl ?_
      have hone : R.count y11 = 1 := by rw [hperm.count_eq]; exact own_countN _ _ hnd (in3 (by omega))
      refine w_icmpY 332 C at_327 rfl (show z = (1 : Int32) from (own_eq (by rw [hzz, hone]; decide))) ?_
      exact J_332
  refine w_iload 334 C at_332 rfl rfl ?_
  refine w_iconst 335 (4 : Int32) C at_334 rfl rfl ?_
  suffices J_353 : Go K hR 9 108 353 [.val (.int p0), .val (.int p1), .val (.int p2), .val (.int p3), .val (.int p4), .val (.int p5), .val (.int x1), .val (.ref b3), .val (.ref b15), .val (.ref rb), .val (.int d5)] [] by
    refine w_icmp 353 338 C at_335 rfl rfl (fun (hc335 : x1.toInt ≤ (4 : Int32).toInt) => ?_) (fun (hc335 : ¬ (x1.toInt ≤ (4 : Int32).toInt)) => ?_)
    · exact J_353
    · simp only [Int32.reduceToInt] at hc335
      refine w_aload 340 C at_338 rfl rfl rfl ?_
      refine w_aload 342 C at_340 rfl rfl rfl ?_
      refine w_iconst 343 (4 : Int32) C at_342 rfl rfl ?_
      refine w_iaload 344 4 y13 C A_b3 at_343 rfl (by decide) rfl ?_
      refine w_callS (y := (⟨"com/example/ontology_path_queries/ontologypathqueries/engine/IntSetToArrayPinLaw", "occ", "([II)I"⟩ : MethodName)) 347 0 [.ref rb, .int y13] C at_344 rfl (hw _ (List.mem_of_getElem? (i := 41) rfl)) (hw _ (List.mem_of_getElem? (i := 42) rfl)) (hw _ (List.mem_of_getElem? (i := 39) rfl)) (hw _ (List.mem_of_getElem? (i := 43) rfl)) (by decide) (rm_occ K.l Z a0 hw [] rb y13 R hR n0 hz A_rb hR5) pd_aII_to_I rfl (rest := []) rfl rfl (Nat.le_of_eq rfl) (by decide) (by decide) (by decide) (by decide) ?_
      rintro v40 h39 ⟨⟨z, rfl, hzz⟩, rfl⟩
      show Go K hR 9 108 347 [.val (.int p0), .val (.int p1), .val (.int p2), .val (.int p3), .val (.int p4), .val (.int p5), .val (.int x1), .val (.ref b3), .val (.ref b15), .val (.ref rb), .val (.int d5)] [.int z]
      refine w_iconst 348 (1 : Int32) C at_347 rfl rfl ?_
      have hone : R.count y13 = 1 := by rw [hperm.count_eq]; exact own_countN _ _ hnd (in4 (by omega))
      refine w_icmpY 353 C at_348 rfl (show z = (1 : Int32) from (own_eq (by rw [hzz, hone]; decide))) ?_
      exact J_353
  refine w_iconst 354 (1 : Int32) C at_353 rfl rfl ?_
  refine w_retN C (by simp) at_354 rfl (by decide) (by decide) ?_
  exact rfl
set_option maxRecDepth 65536 in
set_option maxHeartbeats 40000000 in
theorem comes_1 {Post : Tables → Env → Array Value → State → Outcome → State → Prop} (hpost : ∀ tb e args s v u, (limb_1_1.after args s (.returned v) u = true ∧ limb_1_2.after args s (.returned v) u = true ∧ True) → FrameEnd s (.returned v) u (Jvm.fieldLocs frame_1_writes args s ++ Jvm.arrayLocs frame_1_arrays args s ++ Jvm.staticLocs frame_1_statics s) 24 192 → Post tb e args s (.returned v) u) :
    ArmFor flags0 classFile x code maxLocals ret World_1 tables_1 room_1 Calls_1 rest_1 Pre_1 Post := by
  intro l hfl _ _ p e ha hc hk s m args below hf hA hF happ hP
  obtain ⟨hcalls, hrest, hpre⟩ := hP
  obtain ⟨-, -, -, hnamed, -, -, -, hat⟩ := (Spec.applies_iff hf).mp happ
  obtain ⟨hg, hn⟩ := and_e (Cond.before_iff.mp (show (Jvm.Cond.and given_1 narrow_1).before args s = true from hpre))
  obtain ⟨gc, r0⟩ := and_e hg
  obtain ⟨g0, r1⟩ := and_e r0
  obtain ⟨g1, r2⟩ := and_e r1
  obtain ⟨g2, r3⟩ := and_e r2
  obtain ⟨g3, r4⟩ := and_e r3
  obtain ⟨g4, r5⟩ := and_e r4
  obtain ⟨w0, w1, w2, w3, w4, w5, rfl⟩ : ∃ w0 w1 w2 w3 w4 w5 : Value, args = #[w0, w1, w2, w3, w4, w5] := by
    have hs : args.size = 6 := by simpa [Cond.value, given_1] using gc
    obtain ⟨L⟩ := args
    match L, hs with
    | [w0, w1, w2, w3, w4, w5], _ => exact ⟨w0, w1, w2, w3, w4, w5, rfl⟩
  have hw := fun d (hd : d ∈ tables_1) => atoms_spec (ws := Jvm.Cond.code x code maxLocals ret :: tables_1) hat d (List.mem_cons_of_mem _ hd)
  obtain ⟨i0, ei0⟩ := is_v g0
  obtain rfl : w0 = (.int i0) := Option.some.inj ei0
  obtain ⟨i1, ei1⟩ := is_v g1
  obtain rfl : w1 = (.int i1) := Option.some.inj ei1
  obtain ⟨i2, ei2⟩ := is_v g2
  obtain rfl : w2 = (.int i2) := Option.some.inj ei2
  obtain ⟨i3, ei3⟩ := is_v g3
  obtain rfl : w3 = (.int i3) := Option.some.inj ei3
  obtain ⟨i4, ei4⟩ := is_v g4
  obtain rfl : w4 = (.int i4) := Option.some.inj ei4
  obtain ⟨i5, ei5⟩ := is_v r5
  obtain rfl : w5 = (.int i5) := Option.some.inj ei5
  obtain ⟨n, o, h1, h2, h3, _, L, rfl, ⟨N, rfl⟩, hq⟩ := rm0 l s _ hw tables_1 i0 i1 i2 i3 i4 i5 s.heap s.heap.size (Nat.le_refl _) p e ha hc hk s m _ below hf ((Spec.applies_iff_loose hf).mp happ).1 ⟨rfl, State.Warmed39.refl s, rfl⟩ trivial
  refine ⟨n, _, h1, h2, h3, hpost _ _ _ _ _ _ ⟨Cond.after_iff.mpr rfl, Cond.after_iff.mpr (eq_i res_at (Term.int_eval (1)) rfl), trivial⟩ ⟨hq.1, hq.2.1, (hq.2.2.sift fun y hy => Or.inr (N y hy)).mono (by decide) (by decide)⟩⟩
theorem main_1_1 : Claimed_1_1 := comes_1 fun _ _ _ _ _ _ h hF => ⟨h.1, hF⟩
theorem main_1_2 : Claimed_1_2 := comes_1 fun _ _ _ _ _ _ h hF => ⟨h.2.1, hF⟩
end Jvm.Pilot.@@N@@
namespace Jvm.Pilot.@@N@@
open Jvm Jvm.ClassFile Sem Op Lib Jvm.Free Jvm.Stand Jvm.Pilot.@@N@@.Jvm.D
/-! MADE BY PROGRAM (witnessworld.py) out of the Statement's table words and the real class files: 10 classes; the members and pool entries that the words name. The judged class is class 1, her method 1. -/
namespace start1
open Jvm.ClassFile
def u (s : String) : CpInfo := .utf8 (stringToUtf16 s)
/-- a pool by its gaps: so many unusable entries, then the entry; so many at the end -/
def gap : Nat → List CpInfo → List CpInfo
  | 0, r => r
  | n + 1, r => .unusable :: gap n r
def poolList (es : List (Nat × CpInfo)) (last : Nat) : List CpInfo := es.foldr (fun e r => gap e.1 (e.2 :: r)) (gap last [])
def pool (es : List (Nat × CpInfo)) (last : Nat) : Array CpInfo := ⟨poolList es last⟩
def fileOf (pool : Array CpInfo) (this : Nat) (attrs : Array Attribute := #[]) (ms : Array MethodInfo := #[]) (fl : Nat := 33) (sup : Nat := 0) (ifs : Array Nat := #[]) (fds : Array FieldInfo := #[]) : ClassFile where
  minorVersion := 0
  majorVersion := 65
  constantPool := pool
  accessFlags := fl
  thisClass := this
  superClass := sup
  interfaces := ifs
  fields := fds
  methods := ms
  attributes := attrs
def plain (name : String) (sup : Option ClassId) : Class where
  name := name
  kind := .ordinary
  loader := none
  accessFlags := 33
  super := sup
  interfaces := #[]
  cf := none
  fields := #[]
  methods := #[]
  instanceTypes := #[]
  staticTypes := #[]
  resolved := #[]
  callSites := []
  init := .initialized
  statics := none
  mirror := none

def pool0 : Array CpInfo := pool [(5, u "<init>"), (0, u "()V"), (1, .class_ 10), (1, u "java/lang/Object")] 113

def k0c0 : Code := { maxStack := 0, maxLocals := 1, code := object_method_1_code, exceptionTable := #[], attributes := #[] }
def k0m0 : Method := { name := "<init>", desc := "()V", sig := { parameters := [], returnType := none }, accessFlags := 1, code := some k0c0 }
/-- java/lang/Object -/
def k0 : Class := { plain "java/lang/Object" none with
  accessFlags := 33
  interfaces := #[]
  cf := some (fileOf pool0 8 #[] #[{ accessFlags := 1, nameIndex := 5, descriptorIndex := 6, attributes := #[] }] 33 0 #[] #[])
  fields := #[]
  methods := #[k0m0]
  instanceTypes := #[]
  staticTypes := #[]
  resolved := Array.replicate 124 none
  statics := none }

def pool1 : Array CpInfo := pool [(2, .class_ 4), (0, .nameAndType 5 6), (0, u "java/lang/Object"), (0, u "<init>"), (0, u "()V"), (0, .integer 2147483647), (0, .class_ 9), (0, u "com/example/ontology_path_queries/ontologypathqueries/engine/IntSet"), (0, .methodref 8 3), (0, .methodref 8 12), (0, .nameAndType 13 14), (0, u "add"), (0, u "(I)Z"), (0, .methodref 8 16), (0, .nameAndType 17 18), (0, u "toArray"), (0, u "()[I"), (0, .methodref 20 21), (0, .class_ 22), (0, .nameAndType 23 24), (0, u "com/example/ontology_path_queries/ontologypathqueries/engine/IntSetToArrayPinLaw"), (0, u "fresh"), (0, u "([II)Z"), (0, .methodref 20 26), (0, .nameAndType 27 28), (0, u "occ"), (0, u "([II)I"), (2, u "law"), (0, u "(IIIIII)Z")] 5

def k1m0 : Method := { name := "<init>", desc := "()V", sig := { parameters := [], returnType := none }, accessFlags := 1, code := none }
def k1c1 : Code := { maxStack := 4, maxLocals := 11, code := code, exceptionTable := #[], attributes := #[] }
def k1m1 : Method := { name := "law", desc := "(IIIIII)Z", sig := { parameters := [.int, .int, .int, .int, .int, .int], returnType := some .boolean }, accessFlags := 9, code := some k1c1 }
def k1c2 : Code := { maxStack := 3, maxLocals := 2, code := method_3_code, exceptionTable := #[], attributes := #[] }
def k1m2 : Method := { name := "fresh", desc := "([II)Z", sig := { parameters := [(.array .int), .int], returnType := some .boolean }, accessFlags := 10, code := some k1c2 }
def k1c3 : Code := { maxStack := 2, maxLocals := 3, code := method_4_code, exceptionTable := #[], attributes := #[] }
def k1m3 : Method := { name := "occ", desc := "([II)I", sig := { parameters := [(.array .int), .int], returnType := some .int }, accessFlags := 10, code := some k1c3 }
/-- com/example/ontology_path_queries/ontologypathqueries/engine/IntSetToArrayPinLaw -/
def k1 : Class := { plain "com/example/ontology_path_queries/ontologypathqueries/engine/IntSetToArrayPinLaw" (some 0) with
  accessFlags := 49
  interfaces := #[]
  cf := some (fileOf pool1 20 #[] #[{ accessFlags := 1, nameIndex := 5, descriptorIndex := 6, attributes := #[] }, { accessFlags := 9, nameIndex := 31, descriptorIndex := 32, attributes := #[] }, { accessFlags := 10, nameIndex := 23, descriptorIndex := 24, attributes := #[] }, { accessFlags := 10, nameIndex := 27, descriptorIndex := 28, attributes := #[] }] 49 2 #[] #[])
  fields := #[]
  methods := #[k1m0, k1m1, k1m2, k1m3]
  instanceTypes := #[]
  staticTypes := #[]
  resolved := Array.replicate 38 none
  statics := none }

def pool2 : Array CpInfo := pool [(1, .methodref 2 3), (0, .class_ 4), (0, .nameAndType 5 6), (0, u "java/lang/Object"), (0, u "<init>"), (0, u "()V"), (0, .methodref 8 9), (0, .class_ 10), (0, .nameAndType 11 12), (0, u "com/example/ontology_path_queries/ontologypathqueries/engine/IntSet"), (0, u "emptyTable"), (0, u "(I)[I"), (0, .fieldref 8 14), (0, .nameAndType 15 16), (0, u "table"), (0, u "[I"), (9, .methodref 8 27), (0, .nameAndType 28 29), (0, u "slotOf"), (0, u "(I)I"), (0, .fieldref 8 31), (0, .nameAndType 32 33), (0, u "size"), (0, u "I"), (0, .methodref 8 35), (0, .nameAndType 36 6), (0, u "grow"), (0, .integer 2654435769), (0, .methodref 39 40), (0, .class_ 41), (0, .nameAndType 42 43), (0, u "java/util/Arrays"), (0, u "fill"), (0, u "([II)V"), (0, u "EMPTY"), (4, u "add"), (0, u "(I)Z"), (3, u "toArray"), (0, u "()[I")] 18

def k2c0 : Code := { maxStack := 2, maxLocals := 1, code := prog_34_method_1_code, exceptionTable := #[], attributes := #[] }
def k2m0 : Method := { name := "<init>", desc := "()V", sig := { parameters := [], returnType := none }, accessFlags := 0, code := some k2c0 }
def k2c1 : Code := { maxStack := 3, maxLocals := 3, code := prog_34_method_2_code, exceptionTable := #[], attributes := #[] }
def k2m1 : Method := { name := "add", desc := "(I)Z", sig := { parameters := [.int], returnType := some .boolean }, accessFlags := 0, code := some k2c1 }
def k2c2 : Code := { maxStack := 3, maxLocals := 7, code := prog_34_method_5_code, exceptionTable := #[], attributes := #[] }
def k2m2 : Method := { name := "toArray", desc := "()[I", sig := { parameters := [], returnType := some (.array .int) }, accessFlags := 0, code := some k2c2 }
def k2c3 : Code := { maxStack := 3, maxLocals := 5, code := prog_34_method_6_code, exceptionTable := #[], attributes := #[] }
def k2m3 : Method := { name := "slotOf", desc := "(I)I", sig := { parameters := [.int], returnType := some .int }, accessFlags := 2, code := some k2c3 }
def k2c4 : Code := { maxStack := 3, maxLocals := 6, code := prog_34_method_7_code, exceptionTable := #[], attributes := #[] }
def k2m4 : Method := { name := "grow", desc := "()V", sig := { parameters := [], returnType := none }, accessFlags := 2, code := some k2c4 }
def k2c5 : Code := { maxStack := 2, maxLocals := 2, code := prog_34_method_8_code, exceptionTable := #[], attributes := #[] }
def k2m5 : Method := { name := "emptyTable", desc := "(I)[I", sig := { parameters := [.int], returnType := some (.array .int) }, accessFlags := 10, code := some k2c5 }
/-- com/example/ontology_path_queries/ontologypathqueries/engine/IntSet -/
def k2 : Class := { plain "com/example/ontology_path_queries/ontologypathqueries/engine/IntSet" (some 0) with
  accessFlags := 32
  interfaces := #[]
  cf := some (fileOf pool2 8 #[] #[{ accessFlags := 0, nameIndex := 5, descriptorIndex := 6, attributes := #[] }, { accessFlags := 0, nameIndex := 49, descriptorIndex := 50, attributes := #[] }, { accessFlags := 0, nameIndex := 54, descriptorIndex := 55, attributes := #[] }, { accessFlags := 2, nameIndex := 28, descriptorIndex := 29, attributes := #[] }, { accessFlags := 2, nameIndex := 36, descriptorIndex := 6, attributes := #[] }, { accessFlags := 10, nameIndex := 11, descriptorIndex := 12, attributes := #[] }] 32 2 #[] #[{ accessFlags := 26, nameIndex := 44, descriptorIndex := 33, attributes := #[] }, { accessFlags := 2, nameIndex := 15, descriptorIndex := 16, attributes := #[] }, { accessFlags := 2, nameIndex := 32, descriptorIndex := 33, attributes := #[] }])
  fields := #[{ name := "EMPTY", type := .int, accessFlags := 26, slot := 0, constantValue := 0 }, { name := "table", type := (.array .int), accessFlags := 2, slot := 0, constantValue := 0 }, { name := "size", type := .int, accessFlags := 2, slot := 1, constantValue := 0 }]
  methods := #[k2m0, k2m1, k2m2, k2m3, k2m4, k2m5]
  instanceTypes := #[(.array .int), .int]
  staticTypes := #[.int]
  resolved := Array.replicate 74 none
  statics := none }

def pool3 : Array CpInfo := pool [(2, .class_ 4), (1, u "java/lang/Object"), (0, u "<init>"), (0, u "()V"), (7, .class_ 16), (1, u "java/util/Arrays"), (57, .class_ 76), (1, u "java/util/Arrays$NaturalOrder"), (36, .class_ 115), (1, u "java/util/Arrays$LegacyMergeSort"), (1, u "Z"), (257, .class_ 376), (0, u "java/util/Arrays$ArrayList"), (68, u "$assertionsDisabled"), (269, u "MIN_ARRAY_SORT_GRAN"), (0, u "I"), (2, u "INSERTIONSORT_THRESHOLD"), (120, u "fill"), (4, u "([II)V"), (129, .class_ 976), (0, u "java/util/Arrays$ArrayItr")] 52

def k3m0 : Method := { name := "<init>", desc := "()V", sig := { parameters := [], returnType := none }, accessFlags := 2, code := none }
def k3c1 : Code := { maxStack := 3, maxLocals := 4, code := jdk_65_method_103_code, exceptionTable := #[], attributes := #[] }
def k3m1 : Method := { name := "fill", desc := "([II)V", sig := { parameters := [(.array .int), .int], returnType := none }, accessFlags := 9, code := some k3c1 }
/-- java/util/Arrays -/
def k3 : Class := { plain "java/util/Arrays" (some 0) with
  accessFlags := 49
  interfaces := #[]
  cf := some (fileOf pool3 14 #[.nestMembers #[975, 375, 113, 74]] #[{ accessFlags := 2, nameIndex := 5, descriptorIndex := 6, attributes := #[] }, { accessFlags := 9, nameIndex := 840, descriptorIndex := 845, attributes := #[] }] 49 2 #[] #[{ accessFlags := 26, nameIndex := 715, descriptorIndex := 716, attributes := #[] }, { accessFlags := 26, nameIndex := 719, descriptorIndex := 716, attributes := #[] }, { accessFlags := 4120, nameIndex := 445, descriptorIndex := 117, attributes := #[] }])
  fields := #[{ name := "MIN_ARRAY_SORT_GRAN", type := .int, accessFlags := 26, slot := 0, constantValue := 0 }, { name := "INSERTIONSORT_THRESHOLD", type := .int, accessFlags := 26, slot := 1, constantValue := 0 }, { name := "$assertionsDisabled", type := .boolean, accessFlags := 4120, slot := 2, constantValue := 0 }]
  methods := #[k3m0, k3m1]
  instanceTypes := #[]
  staticTypes := #[.int, .int, .boolean]
  resolved := Array.replicate 1029 none
  statics := none }

def pool4 : Array CpInfo := pool [(1, u "java/lang/Cloneable"), (0, .class_ 1), (0, u "java/lang/Object"), (0, .class_ 3)] 3

/-- java/lang/Cloneable -/
def k4 : Class := { plain "java/lang/Cloneable" (some 0) with
  accessFlags := 1537
  interfaces := #[]
  cf := some (fileOf pool4 2 #[] #[] 1537 4 #[] #[])
  fields := #[]
  methods := #[]
  instanceTypes := #[]
  staticTypes := #[]
  resolved := Array.replicate 8 none
  statics := none }

def pool5 : Array CpInfo := pool [(1, u "java/io/Serializable"), (0, .class_ 1), (0, u "java/lang/Object"), (0, .class_ 3)] 3

/-- java/io/Serializable -/
def k5 : Class := { plain "java/io/Serializable" (some 0) with
  accessFlags := 1537
  interfaces := #[]
  cf := some (fileOf pool5 2 #[] #[] 1537 4 #[] #[])
  fields := #[]
  methods := #[]
  instanceTypes := #[]
  staticTypes := #[]
  resolved := Array.replicate 8 none
  statics := none }

/-- the primitive byte -/
def k6 : Class := { plain "byte" none with kind := .primitive 'B', accessFlags := 0x411 }
/-- [B -/
def k7 : Class := { plain "[B" (some 0) with kind := .array 6 .byte, interfaces := #[4, 5], accessFlags := 1041 }

/-- the primitive int -/
def k8 : Class := { plain "int" none with kind := .primitive 'I', accessFlags := 0x411 }
/-- [I -/
def k9 : Class := { plain "[I" (some 0) with kind := .array 8 .int, interfaces := #[4, 5], accessFlags := 1041 }

def heap : Heap := #[]
def classes : Array Class := #[k0, k1, k2, k3, k4, k5, k6, k7, k8, k9]
def interned : List (Array UInt16 × Addr) := []
def slotsUsed : Nat := 0
def theMethod : MethodId := ⟨1, 1⟩
def args0 : Array Value := #[.int 5, .int 1, .int 3, .int 7, .int 2, .int 4]
def aboutOver (below : List Frame) : State where
  vm := { classes := classes, interned := interned.toArray }
  heap := heap
  slotsUsed := slotsUsed
  threads := #[{ frames := .invoking theMethod args0 :: below }]
def below0 : List Frame := [.native { method := ⟨0, 0⟩, args := #[] }]
def about1 : State := aboutOver below0
def p0 : Program := .bare "" "" ""
def e0 : Env := launch0.env 0 0 0
theorem w_frames : about1.frames = Frame.invoking theMethod args0 :: below0 := rfl
set_option maxRecDepth 65536 in
theorem w_args : argsFit about1.vm theMethod args0 = true := by decide +kernel
set_option maxRecDepth 65536 in
theorem w_heap : heapFits about1 = true := by decide +kernel
set_option maxRecDepth 65536 in
theorem w_runnable : about1.curStatus? = some .runnable := by decide +kernel
set_option maxRecDepth 65536 in
theorem w_alone : about1.alone = true := by decide +kernel
set_option maxRecDepth 65536 in
theorem w_named : about1.methodNamed? x = some theMethod := by decide +kernel
set_option maxRecDepth 65536 in
theorem w_hears : about1.hears theMethod below0 = true := by decide +kernel
set_option maxRecDepth 65536 in
theorem w_ripe : about1.ripe theMethod args0 below0 = true := by decide +kernel
theorem w_running : about1.status = .running := rfl
set_option maxRecDepth 65536 in
theorem w_room : about1.hasRoom e0.platform room_1 = true :=
  launch0.hasRoom_least _ room_1 (by decide +kernel) (by decide +kernel) (by decide +kernel) (by decide +kernel) (by decide +kernel) (by decide +kernel)
theorem allAtoms_all (ts : List Jvm.Cond) (a : Array Jvm.Value) (st : Jvm.State) : (allAtoms ts).before a st = ts.all (fun c => c.before a st) := by
  induction ts with
  | nil => rfl
  | cons c t ih =>
    show (Jvm.Cond.and c (allAtoms t)).before a st = _
    rw [Jvm.Cond.before_and, ih, List.all_cons]
def words1 : List Jvm.Cond := Jvm.Cond.code x code maxLocals ret :: tables_1
/-- a 'code' word, met by the world's own term for the bytes: nothing is compared byte by byte -/
theorem code_word {y : MethodName} {bytes : ByteArray} {mx : Nat} {rt : Option FieldType} {a : Array Value} {s : State} {m : MethodId} {meth : Method} {c : Code} (h1 : s.methodNamed? y = some m) (h2 : s.vm.method? m = some meth) (h3 : meth.code = some c) (h4 : c.code = bytes)
    (h5 : (c.maxLocals == mx && c.exceptionTable.isEmpty && decide (c.maxStack ≤ mostOperands) && decide (meth.sig.returnType = rt) && !meth.locks && decide (parseMethodDescriptor y.desc = some meth.sig)) = true) : (Jvm.Cond.code y bytes mx rt).before a s = true := by
  simp only [Bool.and_eq_true, beq_iff_eq, Bool.not_eq_true', decide_eq_true_eq] at h5
  obtain ⟨⟨⟨⟨⟨g1, g2⟩, g3⟩, g4⟩, g5⟩, g6⟩ := h5
  simp [Cond.before, Cond.holds, Cond.value, h1, h2, h3, h4, g1, g2, g3, g4, g5, g6]
def isCode : Jvm.Cond → Bool
  | .code _ _ _ _ => true
  | _ => false
theorem all_split {L : List Jvm.Cond} {P : Jvm.Cond → Bool} (h1 : L.all (fun c => isCode c || P c) = true) (h2 : ∀ c ∈ L.filter isCode, P c = true) : L.all P = true := by
  refine List.all_eq_true.mpr fun c hc => ?_
  have h := List.all_eq_true.mp h1 c hc
  rcases Bool.eq_false_or_eq_true (isCode c) with hi | hi
  · exact h2 c (List.mem_filter.mpr ⟨hc, hi⟩)
  · simpa [hi] using h
set_option maxRecDepth 65536 in
theorem w_c0 : (Jvm.Cond.code x code maxLocals ret).before args0 about1 = true := code_word (m := ⟨1, 1⟩) (meth := k1m1) (c := k1c1) (by decide +kernel) rfl rfl rfl (by decide +kernel)
set_option maxRecDepth 65536 in
theorem w_c1 : (Jvm.Cond.code ({ cls := "com/example/ontology_path_queries/ontologypathqueries/engine/IntSet", name := "<init>", desc := "()V" } : Jvm.MethodName) prog_34_method_1_code (1 : Nat) (Option.none : Option Jvm.ClassFile.FieldType)).before args0 about1 = true := code_word (m := ⟨2, 0⟩) (meth := k2m0) (c := k2c0) (by decide +kernel) rfl rfl rfl (by decide +kernel)
set_option maxRecDepth 65536 in
theorem w_c2 : (Jvm.Cond.code ({ cls := "java/lang/Object", name := "<init>", desc := "()V" } : Jvm.MethodName) object_method_1_code (1 : Nat) (Option.none : Option Jvm.ClassFile.FieldType)).before args0 about1 = true := code_word (m := ⟨0, 0⟩) (meth := k0m0) (c := k0c0) (by decide +kernel) rfl rfl rfl (by decide +kernel)
set_option maxRecDepth 65536 in
theorem w_c3 : (Jvm.Cond.code ({ cls := "com/example/ontology_path_queries/ontologypathqueries/engine/IntSet", name := "emptyTable", desc := "(I)[I" } : Jvm.MethodName) prog_34_method_8_code (2 : Nat) (Option.some (Jvm.ClassFile.FieldType.array Jvm.ClassFile.FieldType.int))).before args0 about1 = true := code_word (m := ⟨2, 5⟩) (meth := k2m5) (c := k2c5) (by decide +kernel) rfl rfl rfl (by decide +kernel)
set_option maxRecDepth 65536 in
theorem w_c4 : (Jvm.Cond.code ({ cls := "java/util/Arrays", name := "fill", desc := "([II)V" } : Jvm.MethodName) jdk_65_method_103_code (4 : Nat) (Option.none : Option Jvm.ClassFile.FieldType)).before args0 about1 = true := code_word (m := ⟨3, 1⟩) (meth := k3m1) (c := k3c1) (by decide +kernel) rfl rfl rfl (by decide +kernel)
set_option maxRecDepth 65536 in
theorem w_c5 : (Jvm.Cond.code ({ cls := "com/example/ontology_path_queries/ontologypathqueries/engine/IntSet", name := "toArray", desc := "()[I" } : Jvm.MethodName) prog_34_method_5_code (7 : Nat) (Option.some (Jvm.ClassFile.FieldType.array Jvm.ClassFile.FieldType.int))).before args0 about1 = true := code_word (m := ⟨2, 2⟩) (meth := k2m2) (c := k2c2) (by decide +kernel) rfl rfl rfl (by decide +kernel)
set_option maxRecDepth 65536 in
theorem w_c6 : (Jvm.Cond.code ({ cls := "com/example/ontology_path_queries/ontologypathqueries/engine/IntSet", name := "add", desc := "(I)Z" } : Jvm.MethodName) prog_34_method_2_code (3 : Nat) (Option.some Jvm.ClassFile.FieldType.boolean)).before args0 about1 = true := code_word (m := ⟨2, 1⟩) (meth := k2m1) (c := k2c1) (by decide +kernel) rfl rfl rfl (by decide +kernel)
set_option maxRecDepth 65536 in
theorem w_c7 : (Jvm.Cond.code ({ cls := "com/example/ontology_path_queries/ontologypathqueries/engine/IntSet", name := "slotOf", desc := "(I)I" } : Jvm.MethodName) prog_34_method_6_code (5 : Nat) (Option.some Jvm.ClassFile.FieldType.int)).before args0 about1 = true := code_word (m := ⟨2, 3⟩) (meth := k2m3) (c := k2c3) (by decide +kernel) rfl rfl rfl (by decide +kernel)
set_option maxRecDepth 65536 in
theorem w_c8 : (Jvm.Cond.code ({ cls := "com/example/ontology_path_queries/ontologypathqueries/engine/IntSetToArrayPinLaw", name := "fresh", desc := "([II)Z" } : Jvm.MethodName) method_3_code (2 : Nat) (Option.some Jvm.ClassFile.FieldType.boolean)).before args0 about1 = true := code_word (m := ⟨1, 2⟩) (meth := k1m2) (c := k1c2) (by decide +kernel) rfl rfl rfl (by decide +kernel)
set_option maxRecDepth 65536 in
theorem w_c9 : (Jvm.Cond.code ({ cls := "com/example/ontology_path_queries/ontologypathqueries/engine/IntSetToArrayPinLaw", name := "occ", desc := "([II)I" } : Jvm.MethodName) method_4_code (3 : Nat) (Option.some Jvm.ClassFile.FieldType.int)).before args0 about1 = true := code_word (m := ⟨1, 3⟩) (meth := k1m3) (c := k1c3) (by decide +kernel) rfl rfl rfl (by decide +kernel)
set_option maxRecDepth 65536 in
theorem w_c10 : (Jvm.Cond.code ({ cls := "com/example/ontology_path_queries/ontologypathqueries/engine/IntSet", name := "grow", desc := "()V" } : Jvm.MethodName) prog_34_method_7_code (6 : Nat) (Option.none : Option Jvm.ClassFile.FieldType)).before args0 about1 = true := code_word (m := ⟨2, 4⟩) (meth := k2m4) (c := k2c4) (by decide +kernel) rfl rfl rfl (by decide +kernel)
def codes1 : List Jvm.Cond := [Jvm.Cond.code x code maxLocals ret, Jvm.Cond.code ({ cls := "com/example/ontology_path_queries/ontologypathqueries/engine/IntSet", name := "<init>", desc := "()V" } : Jvm.MethodName) prog_34_method_1_code (1 : Nat) (Option.none : Option Jvm.ClassFile.FieldType), Jvm.Cond.code ({ cls := "java/lang/Object", name := "<init>", desc := "()V" } : Jvm.MethodName) object_method_1_code (1 : Nat) (Option.none : Option Jvm.ClassFile.FieldType), Jvm.Cond.code ({ cls := "com/example/ontology_path_queries/ontologypathqueries/engine/IntSet", name := "emptyTable", desc := "(I)[I" } : Jvm.MethodName) prog_34_method_8_code (2 : Nat) (Option.some (Jvm.ClassFile.FieldType.array Jvm.ClassFile.FieldType.int)), Jvm.Cond.code ({ cls := "java/util/Arrays", name := "fill", desc := "([II)V" } : Jvm.MethodName) jdk_65_method_103_code (4 : Nat) (Option.none : Option Jvm.ClassFile.FieldType), Jvm.Cond.code ({ cls := "com/example/ontology_path_queries/ontologypathqueries/engine/IntSet", name := "toArray", desc := "()[I" } : Jvm.MethodName) prog_34_method_5_code (7 : Nat) (Option.some (Jvm.ClassFile.FieldType.array Jvm.ClassFile.FieldType.int)), Jvm.Cond.code ({ cls := "com/example/ontology_path_queries/ontologypathqueries/engine/IntSet", name := "add", desc := "(I)Z" } : Jvm.MethodName) prog_34_method_2_code (3 : Nat) (Option.some Jvm.ClassFile.FieldType.boolean), Jvm.Cond.code ({ cls := "com/example/ontology_path_queries/ontologypathqueries/engine/IntSet", name := "slotOf", desc := "(I)I" } : Jvm.MethodName) prog_34_method_6_code (5 : Nat) (Option.some Jvm.ClassFile.FieldType.int), Jvm.Cond.code ({ cls := "com/example/ontology_path_queries/ontologypathqueries/engine/IntSetToArrayPinLaw", name := "fresh", desc := "([II)Z" } : Jvm.MethodName) method_3_code (2 : Nat) (Option.some Jvm.ClassFile.FieldType.boolean), Jvm.Cond.code ({ cls := "com/example/ontology_path_queries/ontologypathqueries/engine/IntSetToArrayPinLaw", name := "occ", desc := "([II)I" } : Jvm.MethodName) method_4_code (3 : Nat) (Option.some Jvm.ClassFile.FieldType.int), Jvm.Cond.code ({ cls := "com/example/ontology_path_queries/ontologypathqueries/engine/IntSet", name := "grow", desc := "()V" } : Jvm.MethodName) prog_34_method_7_code (6 : Nat) (Option.none : Option Jvm.ClassFile.FieldType)]
set_option maxRecDepth 65536 in
theorem codes_eq : words1.filter isCode = codes1 := rfl
theorem w_codes : ∀ c ∈ words1.filter isCode, c.before args0 about1 = true := by
  rw [codes_eq]
  intro c hc
  simp only [codes1, List.mem_cons, List.not_mem_nil, or_false] at hc
  rcases hc with rfl | rfl | rfl | rfl | rfl | rfl | rfl | rfl | rfl | rfl | rfl
  · exact w_c0
  · exact w_c1
  · exact w_c2
  · exact w_c3
  · exact w_c4
  · exact w_c5
  · exact w_c6
  · exact w_c7
  · exact w_c8
  · exact w_c9
  · exact w_c10
set_option maxRecDepth 65536 in
theorem w_t1 : (words1.take 24).all (fun c => isCode c || c.before args0 about1) = true := by decide +kernel
set_option maxRecDepth 65536 in
theorem w_t2 : ((words1.drop 24).take 24).all (fun c => isCode c || c.before args0 about1) = true := by decide +kernel
set_option maxRecDepth 65536 in
theorem w_t3 : ((words1.drop 24).drop 24).all (fun c => isCode c || c.before args0 about1) = true := by decide +kernel
theorem w_tables : (allAtoms (Jvm.Cond.code x code maxLocals ret :: tables_1)).before args0 about1 = true := by
  rw [allAtoms_all]
  show words1.all (fun c => c.before args0 about1) = true
  refine all_split ?_ w_codes
  rw [← List.take_append_drop 24 words1, List.all_append, w_t1, ← List.take_append_drop 24 (words1.drop 24), List.all_append, w_t2, w_t3]
  rfl
set_option maxRecDepth 65536 in
theorem w_case : (Jvm.Cond.and given_1 narrow_1).before args0 about1 = true := by decide +kernel
theorem w_applies : (headSpec (Jvm.Cond.code x code maxLocals ret :: tables_1) room_1).applies x e0.platform about1 = true :=
  (Spec.applies_iff w_frames).mpr ⟨w_running, w_runnable, w_alone, w_named, w_hears, w_ripe, w_room, w_tables⟩
theorem atStart : AtStart classFile x code maxLocals ret World_1 tables_1 room_1 Calls_1 rest_1 Pre_1 launch0 p0 e0 about1 theMethod args0 below0 :=
  ⟨lists_1, trivial, launch0.admits_env _ _ _, launch0.least_env, fairChoices_fair.cas, fairChoices_fair.clock, w_frames, w_args, w_heap, w_applies, trivial, trivial, w_case⟩
end start1
theorem witness_1 : WitnessClaimed_1 := ⟨start1.p0, start1.e0, start1.about1, start1.theMethod, start1.args0, start1.below0, start1.atStart⟩
end Jvm.Pilot.@@N@@
