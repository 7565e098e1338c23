import JvmDerived
import JvmDerived.Pilot.@@N@@Statement
import JvmDerived.Pilot.@@N@@Code
set_option linter.unusedVariables false
set_option linter.unusedSimpArgs false
@@BLOCK:NumsL.lean.txt@@
namespace Jvm.Pilot.@@N@@
open Jvm Jvm.ClassFile Sem Op Lib Jvm.Free Jvm.Stand Jvm.LawKit Jvm.RoadKit Bundle Jvm.Pilot.@@N@@.Jvm.D
/-! OWN LAYER (one text for all claims of this seat): a walk's goal with its state hidden ('Go'), one rule an instruction. -/
/-- all that a walk through one body holds fixed -/
abbrev OwnK : Type := Program × Launch × Env × Room × State × MethodId × Array Value × List Frame × Method × Code × Nat × (Option Value → Heap → Prop)
namespace OwnK
abbrev p (K : OwnK) : Program := K.1
abbrev l (K : OwnK) : Launch := K.2.1
abbrev e (K : OwnK) : Env := K.2.2.1
abbrev R (K : OwnK) : Room := K.2.2.2.1
abbrev s (K : OwnK) : State := K.2.2.2.2.1
abbrev m (K : OwnK) : MethodId := K.2.2.2.2.2.1
abbrev args (K : OwnK) : Array Value := K.2.2.2.2.2.2.1
abbrev below (K : OwnK) : List Frame := K.2.2.2.2.2.2.2.1
abbrev meth (K : OwnK) : Method := K.2.2.2.2.2.2.2.2.1
abbrev c (K : OwnK) : Code := K.2.2.2.2.2.2.2.2.2.1
abbrev n0 (K : OwnK) : Nat := K.2.2.2.2.2.2.2.2.2.2.1
abbrev Post (K : OwnK) : Option Value → Heap → Prop := K.2.2.2.2.2.2.2.2.2.2.2
end OwnK
/-- a place of the walk -/
abbrev OwnSt (K : OwnK) (T : State) (locs : List Loc) (cells slots : Nat) : Prop := Stand K.p K.l K.e K.R K.s K.m K.args K.below K.meth K.c T locs cells slots
/-- from this state the run ends as the contract says -/
def OwnDone (K : OwnK) (t : State) : Prop :=
  ∃ s₂ o, Steps K.p.tables K.e K.below t s₂ ∧ s₂.status = .running ∧ Ended s₂ K.below o ∧ ∃ v L, o = .returned v ∧ (Fr K.n0 L ∧ K.Post v s₂.heap) ∧ FrameEnd K.s o s₂ L K.R.cells K.R.slots
/-- from every state at this pc, with these locals, this stack and this heap the run ends as the contract says -/
def Go (K : OwnK) (h : Heap) (cells slots pc : Nat) (Ls : List Slot) (st : List Value) : Prop :=
  ∀ T locs, OwnSt K T locs cells slots → T.heap = h → Fr K.n0 locs → OwnDone K (T.setTop (mkF K.m pc Ls.toArray st))
/-- what the walk through one body may lean on -/
def Cx (K : OwnK) (Z : State) (own name : String) (code : ByteArray) (maxL : Nat) (ret : Option FieldType) (R : Room) (n0 : Nat) (Post : Option Value → Heap → Prop) : Prop :=
  K.p.tables.exec = Jvm.exec ∧ K.c.code = code ∧ K.c.maxLocals = maxL ∧ K.s.vm.findClass own = some K.m.cls ∧ K.meth.name = name ∧ K.meth.sig.returnType = ret ∧ K.meth.locks = false ∧ Z.Warmed39 K.s.vm ∧ K.R = R ∧ K.n0 = n0 ∧ K.Post = Post
/-- a body's contract -/
def OwnMet (l : Launch) (y : MethodName) (bytes : ByteArray) (maxL : Nat) (ret : Option FieldType) (ws : List Jvm.Cond) (rm : Room) (Z : State) (h : Heap) (n0 : Nat) (as : Array Value) (P : Option Value → Heap → Prop) : Prop :=
  MetFree l y (head1 (Jvm.Cond.code y bytes maxL ret :: ws) rm) (fun a U => a = as ∧ Z.Warmed39 U.vm ∧ U.heap = h) (fun _ _ _ _ _ => True) (fun _ U o U' => ∃ v L, o = .returned v ∧ (Fr n0 L ∧ P v U'.heap) ∧ FrameEnd U o U' L rm.cells rm.slots)
theorem own_clamp (n : Int32) : n.toNatClampNeg = n.toInt.toNat := rfl
theorem own_newA (cA : ClassId) (ty : FieldType) (n : Int32) : (newA cA ty n).slots = Array.replicate n.toNatClampNeg (defaultValue ty) := rfl
theorem own_setSlot (c : Cell) (i : Nat) (v : Value) : (c.setSlot i v).slots = c.slots.setIfInBounds i v := rfl
theorem own_dnull (C : String) : defaultValue (.object C) = .null := rfl
section OwnLaws
variable {K : OwnK} {Z : State} {own name : String} {code : ByteArray} {maxL : Nat} {ret : Option FieldType} {R : Room} {n0 : Nat} {Post : Option Value → Heap → Prop} {h : Heap} {cells slots pc : Nat} {Ls Ls' : List Slot} {st rest : List Value} {a0 : Array Value}
theorem OwnDone.of {t t' : State} (k : ∀ target, Steps K.p.tables K.e K.below t' target → Steps K.p.tables K.e K.below t target) (d : OwnDone K t') : OwnDone K t := by
  obtain ⟨s₂, o, h1, r⟩ := d
  exact ⟨s₂, o, k _ h1, r⟩
theorem OwnMet.of {l : Launch} {desc : String} {bytes : ByteArray} {ws : List Jvm.Cond} {as : Array Value} (hp : plainFor (⟨own, name, desc⟩ : MethodName) = true) (ef : ∀ m, entryFrame m as maxL = mkF m 0 Ls.toArray [])
    (go : ∀ K : OwnK, K.l = l → Cx K Z own name bytes maxL ret R n0 Post → Go K h 0 0 0 Ls []) : OwnMet l ⟨own, name, desc⟩ bytes maxL ret ws R Z h n0 as Post := by
  refine MetFree.of_bodySF hp hisR ?_
  intro p e s m args below meth c s₁ Bd hml0 hP hK
  obtain ⟨rfl, hZ, hh⟩ := hP
  have g := go (p, l, e, R, s, m, args, below, meth, c, n0, Post) rfl ⟨Bd.exec, Bd.bytes, hml0, findClass_of_methodNamed Bd.named, (name_of_methodNamed Bd.named Bd.method).1, Bd.returns, Bd.notSynchronized, hZ, rfl, rfl, rfl⟩
  have d := g s₁ [] (Stand.of_body Bd) (by rw [← hh, Bd.state]; rfl) (Fr.nil n0)
  rw [ef m]
  exact d
theorem own_cut0 {A : Prop} (G : Prop) (h1 : G → A) (h2 : G) : A := h1 h2
theorem own_cut1 {α : Type} {A : Prop} (P G : α → Prop) (h1 : (∀ z, P z → G z) → A) (h2 : ∀ z, P z → G z) : A := h1 h2
theorem own_cut2 {α β : Type} {A : Prop} (P G : α → β → Prop) (h1 : (∀ z w, P z w → G z w) → A) (h2 : ∀ z w, P z w → G z w) : A := h1 h2
theorem own_cut3 {α β γ : Type} {A : Prop} (P G : α → β → γ → Prop) (h1 : (∀ z w u, P z w u → G z w u) → A) (h2 : ∀ z w u, P z w u → G z w u) : A := h1 h2
theorem Go.step {pc' : Nat} {st' : List Value} (g : Go K h cells slots pc' Ls' st') (f : ∀ T locs, OwnSt K T locs cells slots → ∀ target, Steps K.p.tables K.e K.below (T.setTop (mkF K.m pc' Ls'.toArray st')) target → Steps K.p.tables K.e K.below (T.setTop (mkF K.m pc Ls.toArray st)) target) : Go K h cells slots pc Ls st :=
  fun T locs X e N => OwnDone.of (f T locs X) (g T locs X e N)
/-! 1. loads, constants, stores -/
theorem w_iload (pc' : Nat) (C : Cx K Z own name code maxL ret R n0 Post) {k : Nat} {v : Int32} (hd : decode code pc = .ok (.iload k, 2)) (hp : pc + 2 = pc') (hl : Ls[k]? = some (.val (.int v))) (g : Go K h cells slots pc' Ls (.int v :: st)) : Go K h cells slots pc Ls st := by
  subst hp; exact g.step fun T locs X t q => XS.iload X.here C.1 rfl (hb C.2.1 hd) (by simpa using hl) q
theorem w_iloadN (pc' : Nat) (C : Cx K Z own name code maxL ret R n0 Post) {k : Fin 4} {v : Int32} (hd : decode code pc = .ok (.iload_n k, 1)) (hp : pc + 1 = pc') (hl : Ls[k.val]? = some (.val (.int v))) (g : Go K h cells slots pc' Ls (.int v :: st)) : Go K h cells slots pc Ls st := by
  subst hp; exact g.step fun T locs X t q => XS.iloadN X.here C.1 rfl (hb C.2.1 hd) (by simpa using hl) q
theorem w_lload (pc' : Nat) (C : Cx K Z own name code maxL ret R n0 Post) {k : Nat} {v : Int64} (hd : decode code pc = .ok (.lload k, 2)) (hp : pc + 2 = pc') (hl : Ls[k]? = some (.val (.long v))) (g : Go K h cells slots pc' Ls (.long v :: st)) : Go K h cells slots pc Ls st := by
  subst hp; exact g.step fun T locs X t q => XS.lload X.here C.1 rfl (hb C.2.1 hd) (by simpa using hl) q
theorem w_lloadN (pc' : Nat) (C : Cx K Z own name code maxL ret R n0 Post) {k : Fin 4} {v : Int64} (hd : decode code pc = .ok (.lload_n k, 1)) (hp : pc + 1 = pc') (hl : Ls[k.val]? = some (.val (.long v))) (g : Go K h cells slots pc' Ls (.long v :: st)) : Go K h cells slots pc Ls st := by
  subst hp; exact g.step fun T locs X t q => XS.lloadN X.here C.1 rfl (hb C.2.1 hd) (by simpa using hl) q
theorem w_aload (pc' : Nat) (C : Cx K Z own name code maxL ret R n0 Post) {k : Nat} {v : Value} (hd : decode code pc = .ok (.aload k, 2)) (hp : pc + 2 = pc') (hl : Ls[k]? = some (.val v)) (hv : v.isRef = true) (g : Go K h cells slots pc' Ls (v :: st)) : Go K h cells slots pc Ls st := by
  subst hp; exact g.step fun T locs X t q => XS.aload X.here C.1 rfl (hb C.2.1 hd) (by simpa using hl) hv q
theorem w_aloadN (pc' : Nat) (C : Cx K Z own name code maxL ret R n0 Post) {k : Fin 4} {v : Value} (hd : decode code pc = .ok (.aload_n k, 1)) (hp : pc + 1 = pc') (hl : Ls[k.val]? = some (.val v)) (hv : v.isRef = true) (g : Go K h cells slots pc' Ls (v :: st)) : Go K h cells slots pc Ls st := by
  subst hp; exact g.step fun T locs X t q => XS.aloadN X.here C.1 rfl (hb C.2.1 hd) (by simpa using hl) hv q
theorem w_iconst (pc' : Nat) (n : Int32) (C : Cx K Z own name code maxL ret R n0 Post) {i : Int} (hd : decode code pc = .ok (.iconst i, 1)) (hp : pc + 1 = pc') (hn : Int32.ofInt i = n) (g : Go K h cells slots pc' Ls (.int n :: st)) : Go K h cells slots pc Ls st := by
  subst hp hn; exact g.step fun T locs X t q => XS.iconst X.here C.1 rfl (hb C.2.1 hd) q
theorem w_bipush (pc' : Nat) (n : Int32) (C : Cx K Z own name code maxL ret R n0 Post) {i : Int} (hd : decode code pc = .ok (.bipush i, 2)) (hp : pc + 2 = pc') (hn : (Int8.ofInt i).toInt32 = n) (g : Go K h cells slots pc' Ls (.int n :: st)) : Go K h cells slots pc Ls st := by
  subst hp hn; exact g.step fun T locs X t q => XS.bipush X.here C.1 rfl (hb C.2.1 hd) q
theorem w_sipush (pc' : Nat) (n : Int32) (C : Cx K Z own name code maxL ret R n0 Post) {i : Int} (hd : decode code pc = .ok (.sipush i, 3)) (hp : pc + 3 = pc') (hn : (Int16.ofInt i).toInt32 = n) (g : Go K h cells slots pc' Ls (.int n :: st)) : Go K h cells slots pc Ls st := by
  subst hp hn; exact g.step fun T locs X t q => XS.sipush X.here C.1 rfl (hb C.2.1 hd) q
theorem w_lconst (pc' : Nat) (n : Int64) (C : Cx K Z own name code maxL ret R n0 Post) {k : Fin 2} (hd : decode code pc = .ok (.lconst k, 1)) (hp : pc + 1 = pc') (hn : Int64.ofNat k = n) (g : Go K h cells slots pc' Ls (.long n :: st)) : Go K h cells slots pc Ls st := by
  subst hp hn; exact g.step fun T locs X t q => XS.lconst X.here C.1 rfl (hb C.2.1 hd) q
theorem w_null (pc' : Nat) (C : Cx K Z own name code maxL ret R n0 Post) (hd : decode code pc = .ok (.aconst_null, 1)) (hp : pc + 1 = pc') (g : Go K h cells slots pc' Ls (.null :: st)) : Go K h cells slots pc Ls st := by
  subst hp; exact g.step fun T locs X t q => XS.aconstNull X.here C.1 rfl (hb C.2.1 hd) q
theorem w_ldc (pc' : Nat) (C : Cx K Z own name code maxL ret R n0 Post) {i : Nat} {v : Int32} (hd : decode code pc = .ok (.ldc i, 2)) (hp : pc + 2 = pc') (w : (Cond.constant own i v).before a0 Z = true) (g : Go K h cells slots pc' Ls (.int v :: st)) : Go K h cells slots pc Ls st := by
  subst hp; exact g.step fun T locs X t q => X.ldcInt C.1 C.2.2.2.1 (mvT C.2.2.2.2.2.2.2.1 w) (g := mkF K.m pc Ls.toArray st) rfl (hb C.2.1 hd) _ q
theorem w_ldcw (pc' : Nat) (C : Cx K Z own name code maxL ret R n0 Post) {i : Nat} {v : Int32} (hd : decode code pc = .ok (.ldc_w i, 3)) (hp : pc + 3 = pc') (w : (Cond.constant own i v).before a0 Z = true) (g : Go K h cells slots pc' Ls (.int v :: st)) : Go K h cells slots pc Ls st := by
  subst hp; exact g.step fun T locs X t q => X.ldcwInt C.1 C.2.2.2.1 (mvT C.2.2.2.2.2.2.2.1 w) (g := mkF K.m pc Ls.toArray st) rfl (hb C.2.1 hd) _ q
theorem w_ldc2 (pc' : Nat) (C : Cx K Z own name code maxL ret R n0 Post) {i : Nat} {v : Int64} (hd : decode code pc = .ok (.ldc2_w i, 3)) (hp : pc + 3 = pc') (w : (Cond.constantLong own i v).before a0 Z = true) (g : Go K h cells slots pc' Ls (.long v :: st)) : Go K h cells slots pc Ls st := by
  subst hp; exact g.step fun T locs X t q => X.ldc2Long C.1 C.2.2.2.1 (mvT C.2.2.2.2.2.2.2.1 w) (g := mkF K.m pc Ls.toArray st) rfl (hb C.2.1 hd) _ q
theorem w_istore (pc' : Nat) (Ls' : List Slot) (C : Cx K Z own name code maxL ret R n0 Post) {k : Nat} {x : Int32} (hd : decode code pc = .ok (.istore k, 2)) (hp : pc + 2 = pc') (hl : storeLocals Ls.toArray k (.int x) = some Ls'.toArray) (g : Go K h cells slots pc' Ls' st) : Go K h cells slots pc Ls (.int x :: st) := by
  subst hp; exact g.step fun T locs X t q => XS.istore X.here C.1 rfl (hb C.2.1 hd) rfl hl q
theorem w_istoreN (pc' : Nat) (Ls' : List Slot) (C : Cx K Z own name code maxL ret R n0 Post) {k : Fin 4} {x : Int32} (hd : decode code pc = .ok (.istore_n k, 1)) (hp : pc + 1 = pc') (hl : storeLocals Ls.toArray k.val (.int x) = some Ls'.toArray) (g : Go K h cells slots pc' Ls' st) : Go K h cells slots pc Ls (.int x :: st) := by
  subst hp; exact g.step fun T locs X t q => XS.istoreN X.here C.1 rfl (hb C.2.1 hd) rfl hl q
theorem w_lstore (pc' : Nat) (Ls' : List Slot) (C : Cx K Z own name code maxL ret R n0 Post) {k : Nat} {x : Int64} (hd : decode code pc = .ok (.lstore k, 2)) (hp : pc + 2 = pc') (hl : storeLocals Ls.toArray k (.long x) = some Ls'.toArray) (g : Go K h cells slots pc' Ls' st) : Go K h cells slots pc Ls (.long x :: st) := by
  subst hp; exact g.step fun T locs X t q => XS.lstore X.here C.1 rfl (hb C.2.1 hd) rfl hl q
theorem w_lstoreN (pc' : Nat) (Ls' : List Slot) (C : Cx K Z own name code maxL ret R n0 Post) {k : Fin 4} {x : Int64} (hd : decode code pc = .ok (.lstore_n k, 1)) (hp : pc + 1 = pc') (hl : storeLocals Ls.toArray k.val (.long x) = some Ls'.toArray) (g : Go K h cells slots pc' Ls' st) : Go K h cells slots pc Ls (.long x :: st) := by
  subst hp; exact g.step fun T locs X t q => XS.lstoreN X.here C.1 rfl (hb C.2.1 hd) rfl hl q
theorem w_astore (pc' : Nat) (Ls' : List Slot) (C : Cx K Z own name code maxL ret R n0 Post) {k : Nat} {x : Value} (hd : decode code pc = .ok (.astore k, 2)) (hp : pc + 2 = pc') (hv : x.isRef = true) (hl : storeLocals Ls.toArray k x = some Ls'.toArray) (g : Go K h cells slots pc' Ls' st) : Go K h cells slots pc Ls (x :: st) := by
  subst hp; exact g.step fun T locs X t q => XS.astore X.here C.1 rfl (hb C.2.1 hd) rfl hv hl q
theorem w_astoreN (pc' : Nat) (Ls' : List Slot) (C : Cx K Z own name code maxL ret R n0 Post) {k : Fin 4} {x : Value} (hd : decode code pc = .ok (.astore_n k, 1)) (hp : pc + 1 = pc') (hv : x.isRef = true) (hl : storeLocals Ls.toArray k.val x = some Ls'.toArray) (g : Go K h cells slots pc' Ls' st) : Go K h cells slots pc Ls (x :: st) := by
  subst hp; exact g.step fun T locs X t q => XS.astoreN X.here C.1 rfl (hb C.2.1 hd) rfl hv hl q
theorem w_iinc (pc' : Nat) (Ls' : List Slot) (C : Cx K Z own name code maxL ret R n0 Post) {k : Nat} {cst : Int} {x z : Int32} (hd : decode code pc = .ok (.iinc k cst, 3)) (hp : pc + 3 = pc') (hl : Ls[k]? = some (.val (.int x))) (hz : x + Int32.ofInt cst = z) (hs : storeLocals Ls.toArray k (.int z) = some Ls'.toArray) (g : Go K h cells slots pc' Ls' st) : Go K h cells slots pc Ls st := by
  subst hp hz; exact g.step fun T locs X t q => XS.iinc X.here C.1 rfl (hb C.2.1 hd) (by simpa using hl) hs q
/-! 2. arithmetic -/
theorem w_iadd (pc' : Nat) (C : Cx K Z own name code maxL ret R n0 Post) {x y : Int32} (hd : decode code pc = .ok (.iadd, 1)) (hp : pc + 1 = pc') (g : Go K h cells slots pc' Ls (.int (x + y) :: st)) : Go K h cells slots pc Ls (.int y :: .int x :: st) := by
  subst hp; exact g.step fun T locs X t q => XS.iadd X.here C.1 rfl (hb C.2.1 hd) rfl q
theorem w_isub (pc' : Nat) (C : Cx K Z own name code maxL ret R n0 Post) {x y : Int32} (hd : decode code pc = .ok (.isub, 1)) (hp : pc + 1 = pc') (g : Go K h cells slots pc' Ls (.int (x - y) :: st)) : Go K h cells slots pc Ls (.int y :: .int x :: st) := by
  subst hp; exact g.step fun T locs X t q => XS.isub X.here C.1 rfl (hb C.2.1 hd) rfl q
theorem w_imul (pc' : Nat) (C : Cx K Z own name code maxL ret R n0 Post) {x y : Int32} (hd : decode code pc = .ok (.imul, 1)) (hp : pc + 1 = pc') (g : Go K h cells slots pc' Ls (.int (x * y) :: st)) : Go K h cells slots pc Ls (.int y :: .int x :: st) := by
  subst hp; exact g.step fun T locs X t q => XS.imul X.here C.1 rfl (hb C.2.1 hd) rfl q
theorem w_iand (pc' : Nat) (C : Cx K Z own name code maxL ret R n0 Post) {x y : Int32} (hd : decode code pc = .ok (.iand, 1)) (hp : pc + 1 = pc') (g : Go K h cells slots pc' Ls (.int (x &&& y) :: st)) : Go K h cells slots pc Ls (.int y :: .int x :: st) := by
  subst hp; exact g.step fun T locs X t q => XS.iand X.here C.1 rfl (hb C.2.1 hd) rfl q
theorem w_ior (pc' : Nat) (C : Cx K Z own name code maxL ret R n0 Post) {x y : Int32} (hd : decode code pc = .ok (.ior, 1)) (hp : pc + 1 = pc') (g : Go K h cells slots pc' Ls (.int (x ||| y) :: st)) : Go K h cells slots pc Ls (.int y :: .int x :: st) := by
  subst hp; exact g.step fun T locs X t q => XS.ior X.here C.1 rfl (hb C.2.1 hd) rfl q
theorem w_ixor (pc' : Nat) (C : Cx K Z own name code maxL ret R n0 Post) {x y : Int32} (hd : decode code pc = .ok (.ixor, 1)) (hp : pc + 1 = pc') (g : Go K h cells slots pc' Ls (.int (x ^^^ y) :: st)) : Go K h cells slots pc Ls (.int y :: .int x :: st) := by
  subst hp; exact g.step fun T locs X t q => XS.ixor X.here C.1 rfl (hb C.2.1 hd) rfl q
theorem w_ishl (pc' : Nat) (C : Cx K Z own name code maxL ret R n0 Post) {x y : Int32} (hd : decode code pc = .ok (.ishl, 1)) (hp : pc + 1 = pc') (g : Go K h cells slots pc' Ls (.int (x <<< (y &&& 31)) :: st)) : Go K h cells slots pc Ls (.int y :: .int x :: st) := by
  subst hp; exact g.step fun T locs X t q => XS.ishl X.here C.1 rfl (hb C.2.1 hd) rfl q
theorem w_ishr (pc' : Nat) (C : Cx K Z own name code maxL ret R n0 Post) {x y : Int32} (hd : decode code pc = .ok (.ishr, 1)) (hp : pc + 1 = pc') (g : Go K h cells slots pc' Ls (.int (x >>> (y &&& 31)) :: st)) : Go K h cells slots pc Ls (.int y :: .int x :: st) := by
  subst hp; exact g.step fun T locs X t q => XS.ishr X.here C.1 rfl (hb C.2.1 hd) rfl q
theorem w_iushr (pc' : Nat) (C : Cx K Z own name code maxL ret R n0 Post) {x y : Int32} (hd : decode code pc = .ok (.iushr, 1)) (hp : pc + 1 = pc') (g : Go K h cells slots pc' Ls (.int ((x.toUInt32 >>> (y &&& 31).toUInt32).toInt32) :: st)) : Go K h cells slots pc Ls (.int y :: .int x :: st) := by
  subst hp; exact g.step fun T locs X t q => XS.iushr X.here C.1 rfl (hb C.2.1 hd) rfl q
theorem w_ladd (pc' : Nat) (C : Cx K Z own name code maxL ret R n0 Post) {x y : Int64} (hd : decode code pc = .ok (.ladd, 1)) (hp : pc + 1 = pc') (g : Go K h cells slots pc' Ls (.long (x + y) :: st)) : Go K h cells slots pc Ls (.long y :: .long x :: st) := by
  subst hp; exact g.step fun T locs X t q => XS.ladd X.here C.1 rfl (hb C.2.1 hd) rfl q
theorem w_lsub (pc' : Nat) (C : Cx K Z own name code maxL ret R n0 Post) {x y : Int64} (hd : decode code pc = .ok (.lsub, 1)) (hp : pc + 1 = pc') (g : Go K h cells slots pc' Ls (.long (x - y) :: st)) : Go K h cells slots pc Ls (.long y :: .long x :: st) := by
  subst hp; exact g.step fun T locs X t q => XS.lsub X.here C.1 rfl (hb C.2.1 hd) rfl q
theorem w_lmul (pc' : Nat) (C : Cx K Z own name code maxL ret R n0 Post) {x y : Int64} (hd : decode code pc = .ok (.lmul, 1)) (hp : pc + 1 = pc') (g : Go K h cells slots pc' Ls (.long (x * y) :: st)) : Go K h cells slots pc Ls (.long y :: .long x :: st) := by
  subst hp; exact g.step fun T locs X t q => XS.lmul X.here C.1 rfl (hb C.2.1 hd) rfl q
theorem w_land (pc' : Nat) (C : Cx K Z own name code maxL ret R n0 Post) {x y : Int64} (hd : decode code pc = .ok (.land, 1)) (hp : pc + 1 = pc') (g : Go K h cells slots pc' Ls (.long (x &&& y) :: st)) : Go K h cells slots pc Ls (.long y :: .long x :: st) := by
  subst hp; exact g.step fun T locs X t q => XS.land X.here C.1 rfl (hb C.2.1 hd) rfl q
theorem w_lor (pc' : Nat) (C : Cx K Z own name code maxL ret R n0 Post) {x y : Int64} (hd : decode code pc = .ok (.lor, 1)) (hp : pc + 1 = pc') (g : Go K h cells slots pc' Ls (.long (x ||| y) :: st)) : Go K h cells slots pc Ls (.long y :: .long x :: st) := by
  subst hp; exact g.step fun T locs X t q => XS.lor X.here C.1 rfl (hb C.2.1 hd) rfl q
theorem w_lxor (pc' : Nat) (C : Cx K Z own name code maxL ret R n0 Post) {x y : Int64} (hd : decode code pc = .ok (.lxor, 1)) (hp : pc + 1 = pc') (g : Go K h cells slots pc' Ls (.long (x ^^^ y) :: st)) : Go K h cells slots pc Ls (.long y :: .long x :: st) := by
  subst hp; exact g.step fun T locs X t q => XS.lxor X.here C.1 rfl (hb C.2.1 hd) rfl q
theorem w_lshl (pc' : Nat) (C : Cx K Z own name code maxL ret R n0 Post) {x : Int64} {y : Int32} (hd : decode code pc = .ok (.lshl, 1)) (hp : pc + 1 = pc') (g : Go K h cells slots pc' Ls (.long (x <<< (y &&& 0x3f).toInt64) :: st)) : Go K h cells slots pc Ls (.int y :: .long x :: st) := by
  subst hp; exact g.step fun T locs X t q => XS.lshl X.here C.1 rfl (hb C.2.1 hd) rfl q
theorem w_lshr (pc' : Nat) (C : Cx K Z own name code maxL ret R n0 Post) {x : Int64} {y : Int32} (hd : decode code pc = .ok (.lshr, 1)) (hp : pc + 1 = pc') (g : Go K h cells slots pc' Ls (.long (x >>> (y &&& 0x3f).toInt64) :: st)) : Go K h cells slots pc Ls (.int y :: .long x :: st) := by
  subst hp; exact g.step fun T locs X t q => XS.lshr X.here C.1 rfl (hb C.2.1 hd) rfl q
theorem w_lushr (pc' : Nat) (C : Cx K Z own name code maxL ret R n0 Post) {x : Int64} {y : Int32} (hd : decode code pc = .ok (.lushr, 1)) (hp : pc + 1 = pc') (g : Go K h cells slots pc' Ls (.long ((x.toUInt64 >>> (y &&& 0x3f).toInt64.toUInt64).toInt64) :: st)) : Go K h cells slots pc Ls (.int y :: .long x :: st) := by
  subst hp; exact g.step fun T locs X t q => XS.lushr X.here C.1 rfl (hb C.2.1 hd) rfl q
theorem w_ineg (pc' : Nat) (C : Cx K Z own name code maxL ret R n0 Post) {x : Int32} (hd : decode code pc = .ok (.ineg, 1)) (hp : pc + 1 = pc') (g : Go K h cells slots pc' Ls (.int (-x) :: st)) : Go K h cells slots pc Ls (.int x :: st) := by
  subst hp; exact g.step fun T locs X t q => XS.ineg X.here C.1 rfl (hb C.2.1 hd) rfl q
theorem w_lneg (pc' : Nat) (C : Cx K Z own name code maxL ret R n0 Post) {x : Int64} (hd : decode code pc = .ok (.lneg, 1)) (hp : pc + 1 = pc') (g : Go K h cells slots pc' Ls (.long (-x) :: st)) : Go K h cells slots pc Ls (.long x :: st) := by
  subst hp; exact g.step fun T locs X t q => XS.lneg X.here C.1 rfl (hb C.2.1 hd) rfl q
theorem w_i2l (pc' : Nat) (C : Cx K Z own name code maxL ret R n0 Post) {x : Int32} (hd : decode code pc = .ok (.i2l, 1)) (hp : pc + 1 = pc') (g : Go K h cells slots pc' Ls (.long (x.toInt64) :: st)) : Go K h cells slots pc Ls (.int x :: st) := by
  subst hp; exact g.step fun T locs X t q => XS.i2l X.here C.1 rfl (hb C.2.1 hd) rfl q
theorem w_l2i (pc' : Nat) (C : Cx K Z own name code maxL ret R n0 Post) {x : Int64} (hd : decode code pc = .ok (.l2i, 1)) (hp : pc + 1 = pc') (g : Go K h cells slots pc' Ls (.int (x.toInt32) :: st)) : Go K h cells slots pc Ls (.long x :: st) := by
  subst hp; exact g.step fun T locs X t q => XS.l2i X.here C.1 rfl (hb C.2.1 hd) rfl q
theorem w_i2b (pc' : Nat) (C : Cx K Z own name code maxL ret R n0 Post) {x : Int32} (hd : decode code pc = .ok (.i2b, 1)) (hp : pc + 1 = pc') (g : Go K h cells slots pc' Ls (.int (x.toInt8.toInt32) :: st)) : Go K h cells slots pc Ls (.int x :: st) := by
  subst hp; exact g.step fun T locs X t q => XS.i2b X.here C.1 rfl (hb C.2.1 hd) rfl q
theorem w_i2s (pc' : Nat) (C : Cx K Z own name code maxL ret R n0 Post) {x : Int32} (hd : decode code pc = .ok (.i2s, 1)) (hp : pc + 1 = pc') (g : Go K h cells slots pc' Ls (.int (x.toInt16.toInt32) :: st)) : Go K h cells slots pc Ls (.int x :: st) := by
  subst hp; exact g.step fun T locs X t q => XS.i2s X.here C.1 rfl (hb C.2.1 hd) rfl q
theorem w_i2c (pc' : Nat) (C : Cx K Z own name code maxL ret R n0 Post) {x : Int32} (hd : decode code pc = .ok (.i2c, 1)) (hp : pc + 1 = pc') (g : Go K h cells slots pc' Ls (.int (x.toUInt32.toUInt16.toUInt32.toInt32) :: st)) : Go K h cells slots pc Ls (.int x :: st) := by
  subst hp; exact g.step fun T locs X t q => XS.i2c X.here C.1 rfl (hb C.2.1 hd) rfl q
theorem w_idiv (pc' : Nat) (C : Cx K Z own name code maxL ret R n0 Post) {x y : Int32} (hd : decode code pc = .ok (.idiv, 1)) (hp : pc + 1 = pc') (hy : y ≠ 0) (g : Go K h cells slots pc' Ls (.int (x / y) :: st)) : Go K h cells slots pc Ls (.int y :: .int x :: st) := by
  subst hp; exact g.step fun T locs X t q => XS.idiv X.here C.1 rfl (hb C.2.1 hd) rfl hy q
theorem w_ldiv (pc' : Nat) (C : Cx K Z own name code maxL ret R n0 Post) {x y : Int64} (hd : decode code pc = .ok (.ldiv, 1)) (hp : pc + 1 = pc') (hy : y ≠ 0) (g : Go K h cells slots pc' Ls (.long (x / y) :: st)) : Go K h cells slots pc Ls (.long y :: .long x :: st) := by
  subst hp; exact g.step fun T locs X t q => XS.ldiv X.here C.1 rfl (hb C.2.1 hd) rfl hy q
theorem w_irem (pc' : Nat) (C : Cx K Z own name code maxL ret R n0 Post) {x y : Int32} (hd : decode code pc = .ok (.irem, 1)) (hp : pc + 1 = pc') (hy : y ≠ 0) (g : Go K h cells slots pc' Ls (.int (x % y) :: st)) : Go K h cells slots pc Ls (.int y :: .int x :: st) := by
  subst hp; exact g.step fun T locs X t q => iremM (g := mkF K.m pc Ls.toArray (.int y :: .int x :: st)) X C.1 rfl (hb C.2.1 hd) rfl hy q
theorem own_lrem (x y : Int64) : x - x / y * y = x % y := by
  apply Int64.toInt_inj.mp
  rw [Int64.toInt_sub, Int64.toInt_mul, Int64.toInt_div, Int64.toInt_mod, Int.tmod_def]
  have h1 := x.le_toInt; have h2 := x.toInt_lt
  have q : ((x.toInt.tdiv y.toInt).bmod (2 ^ 64) * y.toInt).bmod (2 ^ 64) = (x.toInt.tdiv y.toInt * y.toInt).bmod (2 ^ 64) := by rw [Int.bmod_mul_bmod]
  rw [q, Int.sub_bmod_bmod]
  rw [show x.toInt - x.toInt.tdiv y.toInt * y.toInt = x.toInt - y.toInt * x.toInt.tdiv y.toInt from by rw [Int.mul_comm], ← Int.tmod_def]
  have h3 : (x.toInt.tmod y.toInt).natAbs ≤ x.toInt.natAbs := by rw [Int.natAbs_tmod]; exact Nat.mod_le _ _
  have h4 := Int.tmod_nonneg (a := x.toInt) y.toInt
  have h5 := Int.tmod_nonneg (a := -x.toInt) y.toInt
  rw [Int.neg_tmod] at h5
  apply Int.bmod_eq_of_le <;> omega
theorem w_lrem (pc' : Nat) (C : Cx K Z own name code maxL ret R n0 Post) {x y : Int64} (hd : decode code pc = .ok (.lrem, 1)) (hp : pc + 1 = pc') (hy : y ≠ 0) (g : Go K h cells slots pc' Ls (.long (x % y) :: st)) : Go K h cells slots pc Ls (.long y :: .long x :: st) := by
  subst hp; exact g.step fun T locs X t q => XS.lrem X.here C.1 rfl (hb C.2.1 hd) rfl hy (by rw [own_lrem]; exact q)
theorem w_dup (pc' : Nat) (C : Cx K Z own name code maxL ret R n0 Post) {x : Value} (hd : decode code pc = .ok (.dup, 1)) (hp : pc + 1 = pc') (hc : x.category = 1) (g : Go K h cells slots pc' Ls (x :: x :: st)) : Go K h cells slots pc Ls (x :: st) := by
  subst hp; exact g.step fun T locs X t q => XS.dup X.here C.1 rfl (hb C.2.1 hd) rfl hc q
theorem w_pop (pc' : Nat) (C : Cx K Z own name code maxL ret R n0 Post) {x : Value} (hd : decode code pc = .ok (.pop, 1)) (hp : pc + 1 = pc') (hc : x.category = 1) (g : Go K h cells slots pc' Ls st) : Go K h cells slots pc Ls (x :: st) := by
  subst hp; exact g.step fun T locs X t q => XS.pop X.here C.1 rfl (hb C.2.1 hd) rfl hc q
theorem w_dupX1 (pc' : Nat) (C : Cx K Z own name code maxL ret R n0 Post) {x y : Value} (hd : decode code pc = .ok (.dup_x1, 1)) (hp : pc + 1 = pc') (hc : x.category = 1) (hc' : y.category = 1) (g : Go K h cells slots pc' Ls (x :: y :: x :: st)) : Go K h cells slots pc Ls (x :: y :: st) := by
  subst hp; exact g.step fun T locs X t q => XS.dupX1 X.here C.1 rfl (hb C.2.1 hd) rfl hc hc' q
/-! 3. jumps -/
theorem w_goto (pc' : Nat) (C : Cx K Z own name code maxL ret R n0 Post) {o : Int} (hd : decode code pc = .ok (.goto o, 3)) (hp : (pc : Int) + o = (pc' : Nat)) (g : Go K h cells slots pc' Ls st) : Go K h cells slots pc Ls st :=
  g.step fun T locs X t q => XS.goto X.here C.1 rfl (pc0 := pc) (pc' := pc') rfl (hb C.2.1 hd) (by omega) (by omega) q
/-- what a comparison asks, in plain words -/
def cP : ClassFile.Cond → Int32 → Int32 → Prop
  | .eq, x, y => x = y
  | .ne, x, y => ¬ (x = y)
  | .lt, x, y => x.toInt < y.toInt
  | .ge, x, y => y.toInt ≤ x.toInt
  | .gt, x, y => y.toInt < x.toInt
  | .le, x, y => x.toInt ≤ y.toInt
theorem own_icmpT {cd : ClassFile.Cond} {x y : Int32} (q : cP cd x y) : if_icmp.holds cd x y = true := by
  cases cd <;> simp only [cP] at q <;> simp [if_icmp.holds, Int32.lt_iff_toInt_lt, Int32.le_iff_toInt_le] <;> first | exact q | omega
theorem own_icmpF {cd : ClassFile.Cond} {x y : Int32} (q : ¬ cP cd x y) : if_icmp.holds cd x y = false := by
  cases cd <;> simp only [cP] at q <;> simp [if_icmp.holds, Int32.lt_iff_toInt_lt, Int32.le_iff_toInt_le] <;> first | exact q | omega | (simpa using q)
theorem w_icmpY (pc' : Nat) (C : Cx K Z own name code maxL ret R n0 Post) {cd : ClassFile.Cond} {x y : Int32} {o : Int} (hd : decode code pc = .ok (.if_icmp cd o, 3)) (hp : (pc : Int) + o = (pc' : Nat)) (q : cP cd x y) (g : Go K h cells slots pc' Ls st) : Go K h cells slots pc Ls (.int y :: .int x :: st) :=
  g.step fun T locs X t k => XS.icmpYes X.here C.1 rfl (pc0 := pc) (pc' := pc') rfl (hb C.2.1 hd) rfl (own_icmpT q) (by omega) (by omega) k
theorem w_icmpN (pc' : Nat) (C : Cx K Z own name code maxL ret R n0 Post) {cd : ClassFile.Cond} {x y : Int32} {o : Int} (hd : decode code pc = .ok (.if_icmp cd o, 3)) (hp : pc + 3 = pc') (q : ¬ cP cd x y) (g : Go K h cells slots pc' Ls st) : Go K h cells slots pc Ls (.int y :: .int x :: st) := by
  subst hp; exact g.step fun T locs X t k => XS.icmpNo X.here C.1 rfl (hb C.2.1 hd) rfl (own_icmpF q) k
theorem w_icmp (pcY pcN : Nat) (C : Cx K Z own name code maxL ret R n0 Post) {cd : ClassFile.Cond} {x y : Int32} {o : Int} (hd : decode code pc = .ok (.if_icmp cd o, 3)) (hp : (pc : Int) + o = (pcY : Nat)) (hn : pc + 3 = pcN) (gY : cP cd x y → Go K h cells slots pcY Ls st) (gN : ¬ cP cd x y → Go K h cells slots pcN Ls st) : Go K h cells slots pc Ls (.int y :: .int x :: st) := by
  by_cases q : cP cd x y
  · exact w_icmpY pcY C hd hp q (gY q)
  · exact w_icmpN pcN C hd hn q (gN q)
theorem w_ifY (pc' : Nat) (C : Cx K Z own name code maxL ret R n0 Post) {cd : ClassFile.Cond} {x : Int32} {o : Int} (hd : decode code pc = .ok (.ifCond cd o, 3)) (hp : (pc : Int) + o = (pc' : Nat)) (q : cP cd x 0) (g : Go K h cells slots pc' Ls st) : Go K h cells slots pc Ls (.int x :: st) :=
  g.step fun T locs X t k => XS.ifYes X.here C.1 rfl (pc0 := pc) (pc' := pc') rfl (hb C.2.1 hd) rfl ((if0 _ _).trans (own_icmpT q)) (by omega) (by omega) k
theorem w_ifN (pc' : Nat) (C : Cx K Z own name code maxL ret R n0 Post) {cd : ClassFile.Cond} {x : Int32} {o : Int} (hd : decode code pc = .ok (.ifCond cd o, 3)) (hp : pc + 3 = pc') (q : ¬ cP cd x 0) (g : Go K h cells slots pc' Ls st) : Go K h cells slots pc Ls (.int x :: st) := by
  subst hp; exact g.step fun T locs X t k => XS.ifNo X.here C.1 rfl (hb C.2.1 hd) rfl ((if0 _ _).trans (own_icmpF q)) k
theorem w_if (pcY pcN : Nat) (C : Cx K Z own name code maxL ret R n0 Post) {cd : ClassFile.Cond} {x : Int32} {o : Int} (hd : decode code pc = .ok (.ifCond cd o, 3)) (hp : (pc : Int) + o = (pcY : Nat)) (hn : pc + 3 = pcN) (gY : cP cd x 0 → Go K h cells slots pcY Ls st) (gN : ¬ cP cd x 0 → Go K h cells slots pcN Ls st) : Go K h cells slots pc Ls (.int x :: st) := by
  by_cases q : cP cd x 0
  · exact w_ifY pcY C hd hp q (gY q)
  · exact w_ifN pcN C hd hn q (gN q)
/-- lcmp and the branch behind it -/
def cL : ClassFile.Cond → Int64 → Int64 → Prop
  | .eq, x, y => x = y
  | .ne, x, y => ¬ (x = y)
  | .lt, x, y => x.toInt < y.toInt
  | .ge, x, y => y.toInt ≤ x.toInt
  | .gt, x, y => y.toInt < x.toInt
  | .le, x, y => x.toInt ≤ y.toInt
theorem own_lc (cd : ClassFile.Cond) (x y : Int64) : cP cd (lcmpW x y) 0 ↔ cL cd x y := by
  have h1 := lw_lt x y; have h2 := lw_gt x y; have h3 := lw_eq x y
  rw [Int32.lt_iff_toInt_lt, Int64.lt_iff_toInt_lt] at h1 h2
  cases cd <;> simp only [cP, cL]
  · exact h3
  · exact not_congr h3
  · exact h1
  · constructor <;> intro q <;> omega
  · exact h2
  · constructor <;> intro q <;> omega
theorem w_lcmp (pc' : Nat) (C : Cx K Z own name code maxL ret R n0 Post) {x y : Int64} (hd : decode code pc = .ok (.lcmp, 1)) (hp : pc + 1 = pc') (g : Go K h cells slots pc' Ls (.int (lcmpW x y) :: st)) : Go K h cells slots pc Ls (.long y :: .long x :: st) := by
  subst hp; exact g.step fun T locs X t q => XS.lcmp X.here C.1 rfl (hb C.2.1 hd) rfl q
theorem w_lifY (pc1 pc' : Nat) (C : Cx K Z own name code maxL ret R n0 Post) {cd : ClassFile.Cond} {x y : Int64} {o : Int} (hd0 : decode code pc = .ok (.lcmp, 1)) (hp0 : pc + 1 = pc1) (hd : decode code pc1 = .ok (.ifCond cd o, 3)) (hp : (pc1 : Int) + o = (pc' : Nat)) (q : cL cd x y) (g : Go K h cells slots pc' Ls st) : Go K h cells slots pc Ls (.long y :: .long x :: st) :=
  w_lcmp pc1 C hd0 hp0 (w_ifY pc' C hd hp ((own_lc cd x y).mpr q) g)
theorem w_lifN (pc1 pc' : Nat) (C : Cx K Z own name code maxL ret R n0 Post) {cd : ClassFile.Cond} {x y : Int64} {o : Int} (hd0 : decode code pc = .ok (.lcmp, 1)) (hp0 : pc + 1 = pc1) (hd : decode code pc1 = .ok (.ifCond cd o, 3)) (hp : pc1 + 3 = pc') (q : ¬ cL cd x y) (g : Go K h cells slots pc' Ls st) : Go K h cells slots pc Ls (.long y :: .long x :: st) :=
  w_lcmp pc1 C hd0 hp0 (w_ifN pc' C hd hp (fun z => q ((own_lc cd x y).mp z)) g)
theorem w_lif (pc1 pcY pcN : Nat) (C : Cx K Z own name code maxL ret R n0 Post) {cd : ClassFile.Cond} {x y : Int64} {o : Int} (hd0 : decode code pc = .ok (.lcmp, 1)) (hp0 : pc + 1 = pc1) (hd : decode code pc1 = .ok (.ifCond cd o, 3)) (hp : (pc1 : Int) + o = (pcY : Nat)) (hn : pc1 + 3 = pcN) (gY : cL cd x y → Go K h cells slots pcY Ls st) (gN : ¬ cL cd x y → Go K h cells slots pcN Ls st) : Go K h cells slots pc Ls (.long y :: .long x :: st) := by
  by_cases q : cL cd x y
  · exact w_lifY pc1 pcY C hd0 hp0 hd hp q (gY q)
  · exact w_lifN pc1 pcN C hd0 hp0 hd hn q (gN q)
theorem w_nullN (pc' : Nat) (C : Cx K Z own name code maxL ret R n0 Post) {b : Addr} {o : Int} (hd : decode code pc = .ok (.ifnull o, 3)) (hp : pc + 3 = pc') (g : Go K h cells slots pc' Ls st) : Go K h cells slots pc Ls (.ref b :: st) := by
  subst hp; exact g.step fun T locs X t k => XS.ifnullNo X.here C.1 rfl (hb C.2.1 hd) rfl k
theorem w_nonnullY (pc' : Nat) (C : Cx K Z own name code maxL ret R n0 Post) {b : Addr} {o : Int} (hd : decode code pc = .ok (.ifnonnull o, 3)) (hp : (pc : Int) + o = (pc' : Nat)) (g : Go K h cells slots pc' Ls st) : Go K h cells slots pc Ls (.ref b :: st) :=
  g.step fun T locs X t k => XS.ifnonnullYes X.here C.1 rfl (pc0 := pc) (pc' := pc') rfl (hb C.2.1 hd) rfl (by omega) (by omega) k
/-! 4. the end -/
theorem own_ret (C : Cx K Z own name code maxL ret R n0 Post) {v : Option Value} (hv : ret = none → v = none) (hc : cells ≤ R.cells) (hs : slots ≤ R.slots) (hq : Post v h)
    (hend : ∀ T locs, OwnSt K T locs cells slots → ∀ fs, (∀ (f : JFrame) (acts : List Action), f.method = K.m → f.locked = none → f.entered = [] → (doReturn K.e (T.setTop f) acts v).1 = T.setFrames fs) → Steps K.p.tables K.e K.below (T.setTop (mkF K.m pc Ls.toArray st)) (T.setFrames fs)) : Go K h cells slots pc Ls st := by
  obtain ⟨hx, hby, hml, hown, hnm, hret, hlk, hZ, hR, hn0, hPost⟩ := C
  intro T locs X eT N
  obtain ⟨fs, hr, hrun, hended, hW, hsame⟩ := X.leave (v := v) (fun q => hv (hret ▸ q)) hlk
  refine ⟨_, _, hend T locs X fs hr, hrun, hended, v, locs, rfl, ⟨N, ?_⟩, ⟨_, rfl⟩, hW, hsame.mono (by rw [hR]; exact hc) (by rw [hR]; exact hs)⟩
  rw [hPost]
  show Post v T.heap
  rw [eT]; exact hq
theorem w_retN {t : FieldType} (C : Cx K Z own name code maxL (some t) R n0 Post) (ht : t = .boolean ∨ t = .byte ∨ t = .char ∨ t = .short) {z z' : Int32} (hd : decode code pc = .ok (.ireturn, 1)) (hz : nar t z = z') (hc : cells ≤ R.cells) (hs : slots ≤ R.slots) (hq : Post (some (.int z')) h) : Go K h cells slots pc Ls (.int z :: st) := by
  subst hz
  exact own_ret C (fun q => by cases q) hc hs hq fun T locs X fs hr => retN X C.1 C.2.2.2.2.2.1 ht (hb C.2.1 hd) hr
theorem w_retI (C : Cx K Z own name code maxL (some .int) R n0 Post) {z : Int32} (hd : decode code pc = .ok (.ireturn, 1)) (hc : cells ≤ R.cells) (hs : slots ≤ R.slots) (hq : Post (some (.int z)) h) : Go K h cells slots pc Ls (.int z :: st) :=
  own_ret C (fun q => by cases q) hc hs hq fun T locs X fs hr => retOut X C.1 C.2.2.2.2.2.1 rfl (Or.inl ⟨rfl, Or.inl rfl, z, rfl⟩) (hb C.2.1 hd) hr
theorem w_retL (C : Cx K Z own name code maxL (some .long) R n0 Post) {z : Int64} (hd : decode code pc = .ok (.lreturn, 1)) (hc : cells ≤ R.cells) (hs : slots ≤ R.slots) (hq : Post (some (.long z)) h) : Go K h cells slots pc Ls (.long z :: st) :=
  own_ret C (fun q => by cases q) hc hs hq fun T locs X fs hr => retOut X C.1 C.2.2.2.2.2.1 rfl (Or.inr (Or.inl ⟨rfl, rfl, z, rfl⟩)) (hb C.2.1 hd) hr
theorem w_retA {t : FieldType} (C : Cx K Z own name code maxL (some t) R n0 Post) (ht : t.isReference = true) {z : Value} (hz : z.isRef = true) (hn : narrow t z = z) (hd : decode code pc = .ok (.areturn, 1)) (hc : cells ≤ R.cells) (hs : slots ≤ R.slots) (hq : Post (some z) h) : Go K h cells slots pc Ls (z :: st) :=
  own_ret C (fun q => by cases q) hc hs hq fun T locs X fs hr => retOut X C.1 C.2.2.2.2.2.1 hn (Or.inr (Or.inr (Or.inr (Or.inr ⟨rfl, ht, hz⟩)))) (hb C.2.1 hd) hr
theorem w_ret (C : Cx K Z own name code maxL none R n0 Post) (hd : decode code pc = .ok (.return_, 1)) (hc : cells ≤ R.cells) (hs : slots ≤ R.slots) (hq : Post none h) : Go K h cells slots pc Ls [] :=
  own_ret C (fun _ => rfl) hc hs hq fun T locs X fs hr => X.returnOut C.1 C.2.2.2.2.2.1 (hb C.2.1 hd) hr
/-! 5. arrays of ints, bytes .. -/
/-- the array at a holds these ints -/
def Ai (Z : State) (h : Heap) (a : Addr) (ty : FieldType) (vs : List Int32) : Prop := ∃ c : Cell, Arr Z h a c ty ∧ c.slots = (vs.map Value.int).toArray
theorem Ai.lt {a : Addr} {ty : FieldType} {vs : List Int32} (A : Ai Z h a ty vs) : a < h.size := by obtain ⟨c, A, -⟩ := A; exact A.lt
theorem Ai.keep {h' : Heap} {a : Addr} {ty : FieldType} {vs : List Int32} {ws : List Addr} (A : Ai Z h a ty vs) (K : Keep h h' ws) (q : a ∉ ws) : Ai Z h' a ty vs := by
  obtain ⟨c, A, r⟩ := A; exact ⟨c, ⟨K.2.1 a c A.1 q, A.2⟩, r⟩
theorem Ai.ext {h' : Heap} {a : Addr} {ty : FieldType} {vs : List Int32} (A : Ai Z h a ty vs) (E : Ext h h') : Ai Z h' a ty vs := by
  obtain ⟨c, A, r⟩ := A; exact ⟨c, A.ext E, r⟩
theorem own_idx {j : Int32} {i n : Nat} (hj : j.toInt = (i : Int)) (hi : i < n) : ¬ (j < 0 ∨ n ≤ j.toNatClampNeg) ∧ j.toNatClampNeg = i := by
  have q : j.toNatClampNeg = i := by rw [own_clamp, hj]; simp
  refine ⟨?_, q⟩
  rw [q, Int32.lt_iff_toInt_lt, hj]
  simp only [Int32.reduceToInt]
  omega
theorem w_newarr (pc' : Nat) (cap : Nat) (k : Nat) (C : Cx K Z own name code maxL ret R n0 Post) (hn0 : n0 ≤ h.size) {aty : ArrayType} {n : Int32} (hd : decode code pc = .ok (.newarray aty, 2)) (hp : pc + 2 = pc') (w : (Cond.arrayClass (newarray.typeOf aty)).before a0 Z = true) (hdef : defaultValue (newarray.typeOf aty) = .int 0) (hk : n.toInt = (k : Int)) (hcap : k ≤ cap) (hb0 : cap * 8 ≤ 536870912) (hc : cells + 1 ≤ R.cells) (hs : slots + cap ≤ R.slots)
    (g : ∀ h' a, Ext h h' → n0 ≤ a → h.size ≤ a → Ai Z h' a (newarray.typeOf aty) (List.replicate k 0) → n0 ≤ h'.size → Go K h' (cells + 1) (slots + cap) pc' Ls (.ref a :: st)) : Go K h cells slots pc Ls (.int n :: st) := by
  obtain ⟨hx, hby, hml, hown, hnm, hret, hlk, hZ, hR, hn, hPost⟩ := C
  subst hp
  intro T locs X eT N
  have hnn : ¬ n < 0 := by rw [Int32.lt_iff_toInt_lt, hk]; simp only [Int32.reduceToInt]; omega
  have hkn : n.toNatClampNeg = k := by rw [own_clamp, hk]; simp
  obtain ⟨T', h', cA, X', e', E, A, st'⟩ := newP X hx hZ w eT (g := mkF K.m pc Ls.toArray (.int n :: st)) rfl (hb hby hd) rfl hnn (cap := cap) (by omega) hb0 (by rw [hR]; exact hc) (by rw [hR]; exact hs)
  refine OwnDone.of (st' ·) (g h' h.size E hn0 (Nat.le_refl _) ⟨_, A, ?_⟩ (Nat.le_trans hn0 E.1) T' locs X' e' N)
  rw [own_newA, hkn, hdef]
  simp
theorem w_len (pc' : Nat) (z : Int32) (C : Cx K Z own name code maxL ret R n0 Post) {a : Addr} {ty : FieldType} {vs : List Int32} (A : Ai Z h a ty vs) (hd : decode code pc = .ok (.arraylength, 1)) (hp : pc + 1 = pc') (hz : vs.length.toInt32 = z) (g : Go K h cells slots pc' Ls (.int z :: st)) : Go K h cells slots pc Ls (.ref a :: st) := by
  obtain ⟨c, A, hc⟩ := A
  have hn : c.slots.size = vs.length := by rw [hc]; simp
  subst hp hz
  intro T locs X eT N
  refine OwnDone.of (fun t q => X.arraylength C.1 (by rw [eT]; exact A.1) (State.isArrayOf_alike C.2.2.2.2.2.2.2.1.alike A.2.1) (g := mkF K.m pc Ls.toArray (.ref a :: st)) rfl rfl (hb C.2.1 hd) t (by rw [hn]; exact q)) (g T locs X eT N)
theorem w_iaload (pc' : Nat) (i : Nat) (v : Int32) (C : Cx K Z own name code maxL ret R n0 Post) {a : Addr} {vs : List Int32} {j : Int32} (A : Ai Z h a .int vs) (hd : decode code pc = .ok (.iaload, 1)) (hp : pc + 1 = pc') (hj : j.toInt = (i : Int)) (hv : vs[i]? = some v) (g : Go K h cells slots pc' Ls (.int v :: st)) : Go K h cells slots pc Ls (.int j :: .ref a :: st) := by
  obtain ⟨c, A, hc⟩ := A
  have hi : i < vs.length := (List.getElem?_eq_some_iff.mp hv).1
  have hn : c.slots.size = vs.length := by rw [hc]; simp
  obtain ⟨q1, q2⟩ := own_idx (n := c.slots.size) hj (by rw [hn]; exact hi)
  have hat : c.slots[j.toNatClampNeg]? = some (.int v) := by rw [hc, q2]; simp [hv]
  subst hp
  intro T locs X eT N
  exact OwnDone.of (fun t q => X.iaload C.1 (by rw [eT]; exact A.1) (State.isArrayOf_alike C.2.2.2.2.2.2.2.1.alike A.2.1) A.2.2 q1 hat (g := mkF K.m pc Ls.toArray (.int j :: .ref a :: st)) rfl rfl (hb C.2.1 hd) t q) (g T locs X eT N)
theorem w_baload (pc' : Nat) (i : Nat) (v : Int32) (C : Cx K Z own name code maxL ret R n0 Post) {a : Addr} {vs : List Int32} {j : Int32} (A : Ai Z h a .byte vs) (hd : decode code pc = .ok (.baload, 1)) (hp : pc + 1 = pc') (hj : j.toInt = (i : Int)) (hv : vs[i]? = some v) (g : Go K h cells slots pc' Ls (.int v :: st)) : Go K h cells slots pc Ls (.int j :: .ref a :: st) := by
  obtain ⟨c, A, hc⟩ := A
  have hi : i < vs.length := (List.getElem?_eq_some_iff.mp hv).1
  have hn : c.slots.size = vs.length := by rw [hc]; simp
  obtain ⟨q1, q2⟩ := own_idx (n := c.slots.size) hj (by rw [hn]; exact hi)
  have hat : c.slots[j.toNatClampNeg]? = some (.int v) := by rw [hc, q2]; simp [hv]
  subst hp
  intro T locs X eT N
  exact OwnDone.of (fun t q => X.baloadBytes C.1 (by rw [eT]; exact A.1) (State.isArrayOf_alike C.2.2.2.2.2.2.2.1.alike A.2.1) A.2.2 q1 hat (g := mkF K.m pc Ls.toArray (.int j :: .ref a :: st)) rfl rfl (hb C.2.1 hd) t q) (g T locs X eT N)
theorem own_set {h' : Heap} {a : Addr} {ty : FieldType} {vs : List Int32} {c : Cell} {i : Nat} {x : Int32} (A : Arr Z h a c ty) (hc : c.slots = (vs.map Value.int).toArray) (W : Wr h h' a i (.int x)) : Ai Z h' a ty (vs.set i x) :=
  ⟨_, A.same W, by rw [own_setSlot, hc]; simp [List.map_set]⟩
theorem w_iastore (pc' : Nat) (i : Nat) (C : Cx K Z own name code maxL ret R n0 Post) {a : Addr} {vs : List Int32} {j x : Int32} (A : Ai Z h a .int vs) (ha : n0 ≤ a) (hd : decode code pc = .ok (.iastore, 1)) (hp : pc + 1 = pc') (hj : j.toInt = (i : Int)) (hi : i < vs.length)
    (g : ∀ h', Keep h h' [a] → Ai Z h' a .int (vs.set i x) → Go K h' cells slots pc' Ls st) : Go K h cells slots pc Ls (.int x :: .int j :: .ref a :: st) := by
  obtain ⟨c, A, hc⟩ := A
  have hn : c.slots.size = vs.length := by rw [hc]; simp
  obtain ⟨q1, q2⟩ := own_idx (n := c.slots.size) hj (by rw [hn]; exact hi)
  subst hp
  intro T locs X eT N
  obtain ⟨T', h', X', e', W, st'⟩ := stI X C.1 C.2.2.2.2.2.2.2.1 eT A (j := j) (x := x) q1 (g := mkF K.m pc Ls.toArray (.int x :: .int j :: .ref a :: st)) rfl rfl (hb C.2.1 hd)
  rw [q2] at X' W
  exact OwnDone.of (st' ·) (g h' (Keep.of_wr W) (own_set A hc W) T' _ X' e' (Fr.snoc X' N (by rw [C.2.2.2.2.2.2.2.2.2.1]; exact ha)))
theorem w_bastore (pc' : Nat) (i : Nat) (x' : Int32) (C : Cx K Z own name code maxL ret R n0 Post) {a : Addr} {vs : List Int32} {j x : Int32} (A : Ai Z h a .byte vs) (ha : n0 ≤ a) (hd : decode code pc = .ok (.bastore, 1)) (hp : pc + 1 = pc') (hj : j.toInt = (i : Int)) (hi : i < vs.length) (hx' : x.toInt8.toInt32 = x')
    (g : ∀ h', Keep h h' [a] → Ai Z h' a .byte (vs.set i x') → Go K h' cells slots pc' Ls st) : Go K h cells slots pc Ls (.int x :: .int j :: .ref a :: st) := by
  obtain ⟨c, A, hc⟩ := A
  have hn : c.slots.size = vs.length := by rw [hc]; simp
  obtain ⟨q1, q2⟩ := own_idx (n := c.slots.size) hj (by rw [hn]; exact hi)
  subst hp hx'
  intro T locs X eT N
  obtain ⟨T', h', X', e', W, st'⟩ := stB X C.1 C.2.2.2.2.2.2.2.1 eT A (j := j) (x := x) q1 (g := mkF K.m pc Ls.toArray (.int x :: .int j :: .ref a :: st)) rfl rfl (hb C.2.1 hd)
  rw [q2] at X' W
  exact OwnDone.of (st' ·) (g h' (Keep.of_wr W) (own_set A hc W) T' _ X' e' (Fr.snoc X' N (by rw [C.2.2.2.2.2.2.2.2.2.1]; exact ha)))
/-! 6. objects -/
theorem w_new (pc' : Nat) {Cn : String} {n i : Nat} (C : Cx K Z own name code maxL ret R n0 Post) (hn0 : n0 ≤ h.size) (hd : decode code pc = .ok (.new i, 3)) (hp : pc + 3 = pc') (w1 : (Cond.classLink own i Cn).before a0 Z = true) (w2 : (Cond.instantiable Cn n).before a0 Z = true) (w3 : (Cond.initialized Cn).before a0 Z = true) (hc : cells + 1 ≤ R.cells) (hs : slots + n ≤ R.slots)
    (g : ∀ h' a, Ext h h' → n0 ≤ a → h.size ≤ a → Exa Z h' a Cn → (∀ {O nm d : String} {ty : FieldType}, Laid Z a0 Cn O nm d → parseFieldDescriptor d = some ty → Fld Z h' a O nm d (defaultValue ty)) → n0 ≤ h'.size → Go K h' (cells + 1) (slots + n) pc' Ls (.ref a :: st)) : Go K h cells slots pc Ls st := by
  obtain ⟨hx, hby, hml, hown, hnm, hret, hlk, hZ, hR, hn, hPost⟩ := C
  subst hp
  intro T locs X eT N
  obtain ⟨T', h', X', e', E, A, D, -, st'⟩ := newO X hx hZ hown w1 w2 w3 eT (g := mkF K.m pc Ls.toArray st) rfl (hb hby hd) (by rw [hR]; exact hc) (by rw [hR]; exact hs)
  exact OwnDone.of (st' ·) (g h' h.size E hn0 (Nat.le_refl _) A D (Nat.le_trans hn0 E.1) T' locs X' e' N)
theorem w_getF (pc' : Nat) {R0 O n d host : String} {i : Nat} (C : Cx K Z own name code maxL ret R n0 Post) {a : Addr} {v : Value} (F : Fld Z h a O n d v) (hd : decode code pc = .ok (.getfield i, 3)) (hp : pc + 3 = pc') (w : (Cond.fieldLink own i R0 n d).before a0 Z = true ∨ (Cond.fieldLinkNest own i R0 n d host).before a0 Z = true) (via : Via Z R0 O n d) (g : Go K h cells slots pc' Ls (v :: st)) : Go K h cells slots pc Ls (.ref a :: st) := by
  subst hp
  intro T locs X eT N
  obtain ⟨T', X', e', st'⟩ := getF X C.1 C.2.2.2.2.2.2.2.1 C.2.2.2.1 w via eT F (g := mkF K.m pc Ls.toArray (.ref a :: st)) rfl rfl (hb C.2.1 hd)
  exact OwnDone.of (st' ·) (g T' locs X' e' N)
theorem w_putF (pc' : Nat) {R0 O n d host Cn : String} {i kk : Nat} {ty : FieldType} (C : Cx K Z own name code maxL ret R n0 Post) {a : Addr} {v old : Value} (F : Fld Z h a O n d old) (E : Exa Z h a Cn) (ha : n0 ≤ a) (hd : decode code pc = .ok (.putfield i, 3)) (hp : pc + 3 = pc') (w : (Cond.fieldLink own i R0 n d).before a0 Z = true ∨ (Cond.fieldLinkNest own i R0 n d host).before a0 Z = true) (via : Via Z R0 O n d)
    (L : (Cond.lays Cn O n d).before a0 Z = true ∨ ((Cond.laysFinal Cn O n d).before a0 Z = true ∧ own = O ∧ name = "<init>")) (wi : (Cond.instantiable Cn kk).before a0 Z = true) (hty : parseFieldDescriptor d = some ty) (hn : narrow ty v = v) (hf : fits ty v = true)
    (g : ∀ h', Keep h h' [a] → Wr h h' a (Jvm.RoadKit.slotOf Z O n d) v → Fld Z h' a O n d v → Exa Z h' a Cn → Go K h' cells slots pc' Ls st) : Go K h cells slots pc Ls (v :: .ref a :: st) := by
  subst hp
  intro T locs X eT N
  obtain ⟨T', h', X', e', W, st'⟩ := putF X C.1 C.2.2.2.2.2.2.2.1 C.2.2.2.1 w via eT F E (L.imp id fun q => ⟨q.1, q.2.1, C.2.2.2.2.1.trans q.2.2⟩) wi hty hn hf (g := mkF K.m pc Ls.toArray (v :: .ref a :: st)) rfl rfl (hb C.2.1 hd)
  exact OwnDone.of (st' ·) (g h' (Keep.of_wr W) W (F.same W) (E.wr W) T' _ X' e' (Fr.snoc X' N (by rw [C.2.2.2.2.2.2.2.2.2.1]; exact ha)))
theorem w_initO (pc' W : Nat) {i : Nat} (C : Cx K Z own name code maxL ret R n0 Post) {a : Addr} (hd : decode code pc = .ok (.invokespecial i, 3)) (hp : pc + 3 = pc') (w1 : (Cond.methodLink own i Lib.objectInit).before a0 Z = true) (w2 : (Cond.instanceMethod Lib.objectInit).before a0 Z = true) (w3 : (Cond.code Lib.objectInit ⟨#[0xb1]⟩ 1 none).before a0 Z = true)
    (hsz : Ls.length = maxL) (hf : 1 ≤ R.frames) (hW : (st.map fun v => v.category).sum ≤ W) (hl : W + 12 ≤ R.locals) (g : Go K h cells slots pc' Ls st) : Go K h cells slots pc Ls (.ref a :: st) := by
  obtain ⟨hx, hby, hml, hown, hnm, hret, hlk, hZ, hR, hn, hPost⟩ := C
  subst hp
  intro T locs X eT N
  obtain ⟨T', X', e', st'⟩ := initO X hx hZ hown w1 w2 w3 eT (g := mkF K.m pc Ls.toArray (.ref a :: st)) rfl (by rw [hml]; simpa using hsz) rfl (hb hby hd) (by rw [hR]; exact hf) (W := W) (by show 2 * 0 + _ ≤ _; simpa using hW) (by rw [hR]; exact hl)
  exact OwnDone.of (st' ·) (g T' locs X' e' N)
/-! 7. calls -/
theorem w_callS (pc' W : Nat) {y : MethodName} {bytes : ByteArray} {mL i : Nat} {rt : Option FieldType} {rm : Room} {P : Option Value → Heap → Prop} (argsL : List Value) (C : Cx K Z own name code maxL ret R n0 Post) (hd : decode code pc = .ok (.invokestatic i, 3)) (hp : pc + 3 = pc')
    (w1 : (Cond.methodLink own i y).before a0 Z = true) (w2 : (Cond.static y).before a0 Z = true) (w3 : (Cond.initialized y.cls).before a0 Z = true) (w4 : (Cond.code y bytes mL rt).before a0 Z = true) (hy : y.cls ≠ "java/lang/invoke/MethodHandle" ∧ y.cls ≠ "java/lang/invoke/VarHandle")
    (hM : OwnMet K.l y bytes mL rt [] rm Z h n0 argsL.toArray P) {ps : List FieldType} {r : Option FieldType} (hpd : parseMethodDescriptor y.desc = some ⟨ps, r⟩) (hlen : argsL.length = ps.length)
    (hst : st = argsL.reverse ++ rest) (hsz : Ls.length = maxL) (hW : (rest.map fun v => v.category).sum ≤ W) (hf : rm.frames + 1 ≤ R.frames) (hl : W + (mL + 11) + rm.locals ≤ R.locals) (hc : cells + rm.cells ≤ R.cells) (hs : slots + rm.slots ≤ R.slots)
    (g : ∀ v h', P v h' → Go K h' (cells + rm.cells) (slots + rm.slots) pc' Ls (v.toList ++ rest)) : Go K h cells slots pc Ls st := by
  obtain ⟨hx, hby, hml, hown, hnm, hret, hlk, hZ, hR, hn, hPost⟩ := C
  subst hp hst
  intro T locs X eT N
  obtain ⟨v, vm₁, ⟨T', L', k', n'⟩, -, X', ⟨Lc, hQ, l1, y1, z1⟩, st'⟩ := Jvm.LawKit.callS X hx (y := y) hown (mvT hZ w1) (mvT hZ w2) (mvT hZ w3) (mvT hZ w4) hy (backOf (W := W) (Q := fun v h L => Fr n0 L ∧ P v h) hM hZ w4 w3 (by rw [hR]; exact hf) (by rw [hR]; exact hl)) (g := mkF K.m pc Ls.toArray (argsL.reverse ++ rest)) rfl (by rw [hml]; simpa using hsz) (argsL := argsL) (rest := rest) (lenOf hpd hlen) rfl (by show 2 * 0 + _ ≤ _; simpa using hW) (hb hby hd) (fun _ _ => ⟨rfl, eT, by rw [hR]; exact hc, by rw [hR]; exact hs⟩)
  dsimp only [Pt.U, Pt.locs, Pt.cells, Pt.slots] at X' l1 y1 z1 st' hQ
  subst l1 y1 z1
  exact OwnDone.of (st' ·) (g v T'.heap hQ.2 T' _ X' rfl (Fr.app N (by rw [hn]; exact hQ.1)))
theorem w_callI (pc' W : Nat) {y : MethodName} {bytes : ByteArray} {mL i : Nat} {rm : Room} {P : Option Value → Heap → Prop} (argsL : List Value) (C : Cx K Z own name code maxL ret R n0 Post) {a : Addr} (hd : decode code pc = .ok (.invokespecial i, 3)) (hp : pc + 3 = pc') (hy1 : y.name = "<init>")
    (w1 : (Cond.methodLink own i y).before a0 Z = true) (w2 : (Cond.instanceMethod y).before a0 Z = true) (w3 : (Cond.initialized y.cls).before a0 Z = true) (w4 : (Cond.code y bytes mL none).before a0 Z = true) (hy : y.cls ≠ "java/lang/invoke/MethodHandle" ∧ y.cls ≠ "java/lang/invoke/VarHandle")
    (hM : OwnMet K.l y bytes mL none [] rm Z h n0 (.ref a :: argsL).toArray P) {ps : List FieldType} {r : Option FieldType} (hpd : parseMethodDescriptor y.desc = some ⟨ps, r⟩) (hlen : argsL.length = ps.length)
    (hst : st = argsL.reverse ++ .ref a :: rest) (hsz : Ls.length = maxL) (hW : (rest.map fun v => v.category).sum ≤ W) (hf : rm.frames + 1 ≤ R.frames) (hl : W + (mL + 11) + rm.locals ≤ R.locals) (hc : cells + rm.cells ≤ R.cells) (hs : slots + rm.slots ≤ R.slots)
    (g : ∀ v h', P v h' → Go K h' (cells + rm.cells) (slots + rm.slots) pc' Ls (v.toList ++ rest)) : Go K h cells slots pc Ls st := by
  obtain ⟨hx, hby, hml, hown, hnm, hret, hlk, hZ, hR, hn, hPost⟩ := C
  subst hp hst
  intro T locs X eT N
  obtain ⟨v, vm₁, ⟨T', L', k', n'⟩, -, X', ⟨Lc, hQ, l1, y1, z1⟩, st'⟩ := X.specialBack hx (y := y) hy1 hown (mvT hZ w1) (mvT hZ w2) (mvT hZ w4) hy (backOf (W := W) (Q := fun v h L => Fr n0 L ∧ P v h) hM hZ w4 w3 (by rw [hR]; exact hf) (by rw [hR]; exact hl)) (g := mkF K.m pc Ls.toArray (argsL.reverse ++ .ref a :: rest)) rfl (by rw [hml]; simpa using hsz) (Steps.refl _) (a := a) (argsL := argsL) (rest := rest) (lenOf hpd hlen) rfl (by show 2 * 0 + _ ≤ _; simpa using hW) (hb hby hd) (fun _ _ => ⟨rfl, eT, by rw [hR]; exact hc, by rw [hR]; exact hs⟩)
  dsimp only [Pt.U, Pt.locs, Pt.cells, Pt.slots] at X' l1 y1 z1 st' hQ
  subst l1 y1 z1
  exact OwnDone.of (fun t q => st'.trans q) (g v T'.heap hQ.2 T' _ X' rfl (Fr.app N (by rw [hn]; exact hQ.1)))
theorem w_callIN (pc' W : Nat) {host : String} {y : MethodName} {bytes : ByteArray} {mL i : Nat} {rm : Room} {P : Option Value → Heap → Prop} (argsL : List Value) (C : Cx K Z own name code maxL ret R n0 Post) {a : Addr} (hd : decode code pc = .ok (.invokespecial i, 3)) (hp : pc + 3 = pc') (hy1 : y.name = "<init>")
    (w1 : (Cond.methodLinkNest own i y host).before a0 Z = true) (w2 : (Cond.instanceMethod y).before a0 Z = true) (w3 : (Cond.initialized y.cls).before a0 Z = true) (w4 : (Cond.code y bytes mL none).before a0 Z = true) (hy : y.cls ≠ "java/lang/invoke/MethodHandle" ∧ y.cls ≠ "java/lang/invoke/VarHandle")
    (hM : OwnMet K.l y bytes mL none [] rm Z h n0 (.ref a :: argsL).toArray P) {ps : List FieldType} {r : Option FieldType} (hpd : parseMethodDescriptor y.desc = some ⟨ps, r⟩) (hlen : argsL.length = ps.length)
    (hst : st = argsL.reverse ++ .ref a :: rest) (hsz : Ls.length = maxL) (hW : (rest.map fun v => v.category).sum ≤ W) (hf : rm.frames + 1 ≤ R.frames) (hl : W + (mL + 11) + rm.locals ≤ R.locals) (hc : cells + rm.cells ≤ R.cells) (hs : slots + rm.slots ≤ R.slots)
    (g : ∀ v h', P v h' → Go K h' (cells + rm.cells) (slots + rm.slots) pc' Ls (v.toList ++ rest)) : Go K h cells slots pc Ls st := by
  obtain ⟨hx, hby, hml, hown, hnm, hret, hlk, hZ, hR, hn, hPost⟩ := C
  subst hp hst
  intro T locs X eT N
  obtain ⟨v, vm₁, ⟨T', L', k', n'⟩, -, X', ⟨Lc, hQ, l1, y1, z1⟩, st'⟩ := X.specialBackNest hx (y := y) hy1 hown (Cond.methodLinkNest_wide hZ w1 :) (mvT hZ w2) (mvT hZ w4) hy (backOf (W := W) (Q := fun v h L => Fr n0 L ∧ P v h) hM hZ w4 w3 (by rw [hR]; exact hf) (by rw [hR]; exact hl)) (g := mkF K.m pc Ls.toArray (argsL.reverse ++ .ref a :: rest)) rfl (by rw [hml]; simpa using hsz) (Steps.refl _) (a := a) (argsL := argsL) (rest := rest) (lenOf hpd hlen) rfl (by show 2 * 0 + _ ≤ _; simpa using hW) (hb hby hd) (fun _ _ => ⟨rfl, eT, by rw [hR]; exact hc, by rw [hR]; exact hs⟩)
  dsimp only [Pt.U, Pt.locs, Pt.cells, Pt.slots] at X' l1 y1 z1 st' hQ
  subst l1 y1 z1
  exact OwnDone.of (fun t q => st'.trans q) (g v T'.heap hQ.2 T' _ X' rfl (Fr.app N (by rw [hn]; exact hQ.1)))
theorem w_callV (pc' W : Nat) {Cn : String} {y : MethodName} {bytes : ByteArray} {mL i : Nat} {rt : Option FieldType} {rm : Room} {P : Option Value → Heap → Prop} (argsL : List Value) (C : Cx K Z own name code maxL ret R n0 Post) {a : Addr} (E : Exa Z h a Cn) (hd : decode code pc = .ok (.invokevirtual i, 3)) (hp : pc + 3 = pc')
    (w1 : (Cond.methodLink own i y).before a0 Z = true) (w2 : (Cond.declares y).before a0 Z = true) (w5 : (Cond.selects Cn y y).before a0 Z = true) (w6 : (Cond.instanceMethod y).before a0 Z = true) (w3 : (Cond.initialized y.cls).before a0 Z = true) (w4 : (Cond.code y bytes mL rt).before a0 Z = true) (hy : y.cls ≠ "java/lang/invoke/MethodHandle" ∧ y.cls ≠ "java/lang/invoke/VarHandle")
    (hM : OwnMet K.l y bytes mL rt [] rm Z h n0 (.ref a :: argsL).toArray P) {ps : List FieldType} {r : Option FieldType} (hpd : parseMethodDescriptor y.desc = some ⟨ps, r⟩) (hlen : argsL.length = ps.length)
    (hst : st = argsL.reverse ++ .ref a :: rest) (hsz : Ls.length = maxL) (hW : (rest.map fun v => v.category).sum ≤ W) (hf : rm.frames + 1 ≤ R.frames) (hl : W + (mL + 11) + rm.locals ≤ R.locals) (hc : cells + rm.cells ≤ R.cells) (hs : slots + rm.slots ≤ R.slots)
    (g : ∀ v h', P v h' → Go K h' (cells + rm.cells) (slots + rm.slots) pc' Ls (v.toList ++ rest)) : Go K h cells slots pc Ls st := by
  obtain ⟨hx, hby, hml, hown, hnm, hret, hlk, hZ, hR, hn, hPost⟩ := C
  subst hp hst
  intro T locs X eT N
  obtain ⟨cq, kq, qa, qb, qc⟩ := isOf hZ eT E
  obtain ⟨v, vm₁, ⟨T', L', k', n'⟩, -, X', ⟨Lc, hQ, l1, y1, z1⟩, st'⟩ := X.virtualBack hx (y := y) (z := y) hown (mvT hZ w1) (mvT hZ w2) (notFace_of_selects (args := #[]) (mvT hZ w5)) (mvT hZ w5) (mvT hZ w6) hy (backOf (W := W) (Q := fun v h L => Fr n0 L ∧ P v h) hM hZ w4 w3 (by rw [hR]; exact hf) (by rw [hR]; exact hl)) qa qc (g := mkF K.m pc Ls.toArray (argsL.reverse ++ .ref a :: rest)) rfl (by rw [hml]; simpa using hsz) (Steps.refl _) (argsL := argsL) (rest := rest) (lenOf hpd hlen) rfl (by show 2 * 0 + _ ≤ _; simpa using hW) (hb hby hd) (fun _ _ => ⟨rfl, eT, by rw [hR]; exact hc, by rw [hR]; exact hs⟩)
  dsimp only [Pt.U, Pt.locs, Pt.cells, Pt.slots] at X' l1 y1 z1 st' hQ
  subst l1 y1 z1
  exact OwnDone.of (fun t q => st'.trans q) (g v T'.heap hQ.2 T' _ X' rfl (Fr.app N (by rw [hn]; exact hQ.1)))
theorem w_callP (pc' W : Nat) {Cn : String} {y z : MethodName} {bytes : ByteArray} {mL i : Nat} {rt : Option FieldType} {rm : Room} {P : Option Value → Heap → Prop} (argsL : List Value) (C : Cx K Z own name code maxL ret R n0 Post) {a : Addr} (E : Exa Z h a Cn) (hd : decode code pc = .ok (.invokevirtual i, 3)) (hp : pc + 3 = pc')
    (w1 : (Cond.methodLink own i y).before a0 Z = true) (w7 : (Cond.privateMethod y).before a0 Z = true) (w5 : (Cond.selects z.cls z z).before a0 Z = true) (hzy : z.cls = y.cls) (w6 : (Cond.instanceMethod y).before a0 Z = true) (w3 : (Cond.initialized y.cls).before a0 Z = true) (w4 : (Cond.code y bytes mL rt).before a0 Z = true) (hy : y.cls ≠ "java/lang/invoke/MethodHandle" ∧ y.cls ≠ "java/lang/invoke/VarHandle")
    (hM : OwnMet K.l y bytes mL rt [] rm Z h n0 (.ref a :: argsL).toArray P) {ps : List FieldType} {r : Option FieldType} (hpd : parseMethodDescriptor y.desc = some ⟨ps, r⟩) (hlen : argsL.length = ps.length)
    (hst : st = argsL.reverse ++ .ref a :: rest) (hsz : Ls.length = maxL) (hW : (rest.map fun v => v.category).sum ≤ W) (hf : rm.frames + 1 ≤ R.frames) (hl : W + (mL + 11) + rm.locals ≤ R.locals) (hc : cells + rm.cells ≤ R.cells) (hs : slots + rm.slots ≤ R.slots)
    (g : ∀ v h', P v h' → Go K h' (cells + rm.cells) (slots + rm.slots) pc' Ls (v.toList ++ rest)) : Go K h cells slots pc Ls st := by
  obtain ⟨hx, hby, hml, hown, hnm, hret, hlk, hZ, hR, hn, hPost⟩ := C
  subst hp hst
  intro T locs X eT N
  have hpriv : K.s.PrivateAt y := Cond.privateMethod_at (mvP hZ w7 (args := #[]))
  have hsel : (Cond.selects y.cls y y).before K.args K.s = true := by
    obtain ⟨c2, r2, m2, q1, q2, q3, q4, kP, hkP, hkPi⟩ := Cond.selects_spec (mvT hZ w5 (args := #[]))
    exact selects_self_of_private (by rw [← hzy]; exact findClass_of_methodNamed q3) hkP hkPi hpriv (mvT hZ w6) hy
  obtain ⟨cq, q1, q2⟩ := E.cell
  obtain ⟨v, vm₁, ⟨T', L', k', n'⟩, -, X', ⟨Lc, hQ, l1, y1, z1⟩, st'⟩ := X.privateBack hx (y := y) hown (mvT hZ w1) (mvT hZ w6) hsel hpriv (mvT hZ w4) hy (backOf (W := W) (Q := fun v h L => Fr n0 L ∧ P v h) hM hZ w4 w3 (by rw [hR]; exact hf) (by rw [hR]; exact hl)) (g := mkF K.m pc Ls.toArray (argsL.reverse ++ .ref a :: rest)) rfl (by rw [hml]; simpa using hsz) (Steps.refl _) (a := a) (by rw [eT]; exact q1) q2 (argsL := argsL) (rest := rest) (lenOf hpd hlen) rfl (by show 2 * 0 + _ ≤ _; simpa using hW) (hb hby hd) (fun _ _ => ⟨rfl, eT, by rw [hR]; exact hc, by rw [hR]; exact hs⟩)
  dsimp only [Pt.U, Pt.locs, Pt.cells, Pt.slots] at X' l1 y1 z1 st' hQ
  subst l1 y1 z1
  exact OwnDone.of (fun t q => st'.trans q) (g v T'.heap hQ.2 T' _ X' rfl (Fr.app N (by rw [hn]; exact hQ.1)))
theorem Go.more {c' s' : Nat} (g : Go K h c' s' pc Ls st) (h1 : cells ≤ c') (h2 : slots ≤ s') : Go K h cells slots pc Ls st := fun T locs X e N => g T locs (X.more h1 h2) e N
end OwnLaws
/-! 8. numbers -/
theorem own_un (x : Int32) : (x.toUInt32.toNat : Int) = x.toInt % 4294967296 := by
  have h1 : x.toInt = x.toBitVec.toInt := rfl
  have h2 : x.toUInt32.toNat = x.toBitVec.toNat := rfl
  rw [h1, h2, BitVec.toInt_eq_toNat_cond]
  have := x.toBitVec.isLt
  split <;> omega
theorem own_ul (x : Int64) : (x.toUInt64.toNat : Int) = x.toInt % 18446744073709551616 := by
  have h1 : x.toInt = x.toBitVec.toInt := rfl
  have h2 : x.toUInt64.toNat = x.toBitVec.toNat := rfl
  rw [h1, h2, BitVec.toInt_eq_toNat_cond]
  have := x.toBitVec.isLt
  split <;> omega
theorem own_in (u : UInt32) : (u.toInt32).toInt = ((u.toNat : Int) + 2147483648) % 4294967296 - 2147483648 := by
  have h1 : (u.toInt32).toInt = u.toBitVec.toInt := rfl
  have h2 : u.toNat = u.toBitVec.toNat := rfl
  rw [h1, h2, BitVec.toInt_eq_toNat_cond]
  have := u.toBitVec.isLt
  split <;> omega
theorem own_il (u : UInt64) : (u.toInt64).toInt = ((u.toNat : Int) + 9223372036854775808) % 18446744073709551616 - 9223372036854775808 := by
  have h1 : (u.toInt64).toInt = u.toBitVec.toInt := rfl
  have h2 : u.toNat = u.toBitVec.toNat := rfl
  rw [h1, h2, BitVec.toInt_eq_toNat_cond]
  have := u.toBitVec.isLt
  split <;> omega
theorem own_i2b (x : Int32) : (x.toInt8.toInt32).toInt = (x.toInt + 128) % 256 - 128 := by
  rw [Int8.toInt_toInt32, Int32.toInt_toInt8, Int.bmod_def]
  split <;> omega
theorem own_u16 (u : UInt16) : (u.toUInt32.toInt32).toInt = u.toNat := by
  have hu := u.toNat_lt
  rw [own_in, UInt16.toNat_toUInt32]
  omega
theorem own_i2c (x : Int32) : (x.toUInt32.toUInt16.toUInt32.toInt32).toInt = x.toInt % 65536 := by
  rw [own_u16, UInt32.toNat_toUInt16]
  have := own_un x
  omega
theorem own_l2i (x : Int64) : (x.toInt32).toInt = (x.toInt + 2147483648) % 4294967296 - 2147483648 := by
  rw [Int64.toInt_toInt32, Int.bmod_def]
  split <;> omega
theorem own_i2l (x : Int32) : (x.toInt64).toInt = x.toInt := Int32.toInt_toInt64 x
theorem own_iadd (x y : Int32) : (x + y).toInt = (x.toInt + y.toInt + 2147483648) % 4294967296 - 2147483648 := by
  rw [Int32.toInt_add, Int.bmod_def]; split <;> omega
theorem own_isub (x y : Int32) : (x - y).toInt = (x.toInt - y.toInt + 2147483648) % 4294967296 - 2147483648 := by
  rw [Int32.toInt_sub, Int.bmod_def]; split <;> omega
theorem own_imul (x y : Int32) : (x * y).toInt = (x.toInt * y.toInt + 2147483648) % 4294967296 - 2147483648 := by
  rw [Int32.toInt_mul, Int.bmod_def]; split <;> omega
theorem own_ladd (x y : Int64) : (x + y).toInt = (x.toInt + y.toInt + 9223372036854775808) % 18446744073709551616 - 9223372036854775808 := by
  rw [Int64.toInt_add, Int.bmod_def]; split <;> omega
theorem own_lsub (x y : Int64) : (x - y).toInt = (x.toInt - y.toInt + 9223372036854775808) % 18446744073709551616 - 9223372036854775808 := by
  rw [Int64.toInt_sub, Int.bmod_def]; split <;> omega
theorem own_iushr (x : Int32) {n : UInt32} (k : Nat) (hn : n.toNat = k) (h0 : 0 < k) (hk : k < 32) : ((x.toUInt32 >>> n).toInt32).toInt = x.toInt % 4294967296 / 2 ^ k := by
  have h1 : (x.toUInt32 >>> n).toNat = x.toUInt32.toNat / 2 ^ k := by rw [UInt32.toNat_shiftRight, hn, Nat.mod_eq_of_lt hk, Nat.shiftRight_eq_div_pow]
  have h2 := own_un x
  have h3 : x.toUInt32.toNat / 2 ^ k < 2147483648 := by
    have q : x.toUInt32.toNat < 4294967296 := x.toUInt32.toNat_lt
    have r : 2 ^ 1 ≤ 2 ^ k := Nat.pow_le_pow_right (by omega) h0
    exact Nat.div_lt_of_lt_mul (by omega)
  rw [own_in, h1, ← h2]
  have h4 : ((x.toUInt32.toNat : Int)) / 2 ^ k = ((x.toUInt32.toNat / 2 ^ k : Nat) : Int) := by simp
  rw [h4]
  omega
theorem own_lushr (x : Int64) {n : UInt64} (k : Nat) (hn : n.toNat = k) (h0 : 0 < k) (hk : k < 64) : ((x.toUInt64 >>> n).toInt64).toInt = x.toInt % 18446744073709551616 / 2 ^ k := by
  have h1 : (x.toUInt64 >>> n).toNat = x.toUInt64.toNat / 2 ^ k := by rw [UInt64.toNat_shiftRight, hn, Nat.mod_eq_of_lt hk, Nat.shiftRight_eq_div_pow]
  have h2 := own_ul x
  have h3 : x.toUInt64.toNat / 2 ^ k < 9223372036854775808 := by
    have q : x.toUInt64.toNat < 18446744073709551616 := x.toUInt64.toNat_lt
    have r : 2 ^ 1 ≤ 2 ^ k := Nat.pow_le_pow_right (by omega) h0
    exact Nat.div_lt_of_lt_mul (by omega)
  rw [own_il, h1, ← h2]
  have h4 : ((x.toUInt64.toNat : Int)) / 2 ^ k = ((x.toUInt64.toNat / 2 ^ k : Nat) : Int) := by simp
  rw [h4]
  omega
theorem own_mask (x m : Int32) (k : Nat) (hk : k < 32) (hm : m.toBitVec.toNat = 2 ^ k - 1) : (x &&& m).toInt = x.toInt % 2 ^ k := Jvm.Kit.i32_mask x m hk hm
theorem own_maskL (x m : Int64) (k : Nat) (hk : k < 64) (hm : m.toBitVec.toNat = 2 ^ k - 1) : (x &&& m).toInt = x.toInt % 2 ^ k := Jvm.Kit.i64_mask x m hk hm
theorem own_orN (a b q k : Nat) (ha : a < 2 ^ k) (hb : b = 2 ^ k * q) : a ||| b = a + b := by
  rw [Nat.or_comm, hb, ← Nat.two_pow_add_eq_or_of_lt ha, Nat.add_comm]
theorem own_or (x y : Int32) (k : Nat) (q : Nat) (h0 : 0 ≤ x.toInt) (h1 : x.toInt < 2 ^ k) (h2 : y.toInt = 2 ^ k * (q : Int)) (h3 : x.toInt + y.toInt < 2147483648) : (x ||| y).toInt = x.toInt + y.toInt := by
  have e1 := own_un x; have e2 := own_un y
  have n2 : (0 : Int) ≤ y.toInt := by rw [h2]; exact Int.mul_nonneg (Int.le_of_lt (Int.pow_pos (by decide))) (by omega)
  have a1 : x.toUInt32.toNat < 2 ^ k := by
    have : (x.toUInt32.toNat : Int) < ((2 ^ k : Nat) : Int) := by rw [e1, Int.natCast_pow]; have := x.toInt_lt; have := Int.emod_eq_of_lt h0 (by omega : x.toInt < 4294967296); rw [this]; exact h1
    omega
  have a2 : y.toUInt32.toNat = 2 ^ k * q := by
    have : (y.toUInt32.toNat : Int) = ((2 ^ k * q : Nat) : Int) := by rw [e2, Int.natCast_mul, Int.natCast_pow]; have := y.toInt_lt; rw [Int.emod_eq_of_lt n2 (by omega)]; exact h2
    omega
  have e3 : (x ||| y).toUInt32.toNat = x.toUInt32.toNat ||| y.toUInt32.toNat := rfl
  have e4 := own_un (x ||| y)
  rw [e3, own_orN _ _ q k a1 a2] at e4
  have r1 := (x ||| y).toInt_lt; have r2 := (x ||| y).le_toInt
  have s1 := x.toInt_lt; have s2 := y.toInt_lt
  omega
theorem own_xor1 (x : Int32) : (x ^^^ 1).toInt = x.toInt + 1 - 2 * (x.toInt % 2) := by
  have e1 := own_un x
  have e3 : (x ^^^ 1).toUInt32.toNat = x.toUInt32.toNat ^^^ 1 := rfl
  have e4 := own_un (x ^^^ 1)
  rw [e3] at e4
  have d1 : (x.toUInt32.toNat ^^^ 1) / 2 = x.toUInt32.toNat / 2 := by rw [Nat.xor_div_two]; simp
  have d2 : (x.toUInt32.toNat ^^^ 1) % 2 = (x.toUInt32.toNat + 1) % 2 := by
    have t0 : (x.toUInt32.toNat ^^^ 1).testBit 0 = (x.toUInt32.toNat.testBit 0 ^^ (1 : Nat).testBit 0) := Nat.testBit_xor _ _ _
    rw [Nat.testBit_zero, Nat.testBit_zero, Nat.testBit_zero] at t0
    rcases Nat.mod_two_eq_zero_or_one x.toUInt32.toNat with q | q <;> rcases Nat.mod_two_eq_zero_or_one (x.toUInt32.toNat ^^^ 1) with r | r <;> rw [q, r] at t0 <;> first | (exfalso; revert t0; decide) | omega
  have r1 := (x ^^^ 1).toInt_lt; have r2 := (x ^^^ 1).le_toInt
  have s1 := x.toInt_lt; have s2 := x.le_toInt
  omega
theorem own_eqi {x y : Int32} : x = y ↔ x.toInt = y.toInt := Int32.toInt_inj.symm
theorem own_eqli {x y : Int64} : x = y ↔ x.toInt = y.toInt := Int64.toInt_inj.symm
theorem own_eq {x y : Int32} (h : x.toInt = y.toInt) : x = y := Int32.toInt_inj.mp h
theorem own_eqL {x y : Int64} (h : x.toInt = y.toInt) : x = y := Int64.toInt_inj.mp h
theorem own_ne {x y : Int32} (h : ¬ x = y) : x.toInt ≠ y.toInt := fun q => h (Int32.toInt_inj.mp q)
theorem own_neL {x y : Int64} (h : ¬ x = y) : x.toInt ≠ y.toInt := fun q => h (Int64.toInt_inj.mp q)
theorem own_or32N (n : Nat) : n ||| 32 = n + 32 - 32 * (n / 32 % 2) := by
  have hs : ∀ s, s < 64 → s ||| 32 = s + 32 - 32 * (s / 32 % 2) ∧ s ||| 32 < 64 := by decide
  have h1 := hs (n % 64) (Nat.mod_lt _ (by decide))
  have h2 : n = 2 ^ 6 * (n / 64) ||| (n % 64) := by rw [← Nat.two_pow_add_eq_or_of_lt (i := 6) (Nat.mod_lt _ (by decide))]; omega
  have h3 : n ||| 32 = 2 ^ 6 * (n / 64) + (n % 64 ||| 32) := by
    rw [Nat.two_pow_add_eq_or_of_lt (i := 6) h1.2, ← Nat.or_assoc, ← h2]
  rw [h3, h1.1]
  omega
theorem own_or32 (x : Int32) (h0 : 0 ≤ x.toInt) (h1 : x.toInt < 65536) : (x ||| 32).toInt = x.toInt + 32 - 32 * (x.toInt / 32 % 2) := by
  have e1 := own_un x; have e4 := own_un (x ||| 32)
  have e3 : (x ||| 32).toUInt32.toNat = x.toUInt32.toNat ||| 32 := rfl
  rw [e3, own_or32N] at e4
  have r1 := (x ||| 32).toInt_lt; have r2 := (x ||| 32).le_toInt
  omega
theorem d1_0 : decode method_2_code 0 = .ok (.iload_n 0, 1) := by decide +kernel
theorem d1_1 : decode method_2_code 1 = .ok (.iload_n 1, 1) := by decide +kernel
theorem d1_2 : decode method_2_code 2 = .ok (.ishr, 1) := by decide +kernel
theorem d1_3 : decode method_2_code 3 = .ok (.iconst 1, 1) := by decide +kernel
theorem d1_4 : decode method_2_code 4 = .ok (.iand, 1) := by decide +kernel
theorem d1_5 : decode method_2_code 5 = .ok (.ifCond .eq 7, 3) := by decide +kernel
theorem d1_8 : decode method_2_code 8 = .ok (.iload_n 2, 1) := by decide +kernel
theorem d1_9 : decode method_2_code 9 = .ok (.goto 4, 3) := by decide +kernel
theorem d1_12 : decode method_2_code 12 = .ok (.iload_n 3, 1) := by decide +kernel
theorem d1_13 : decode method_2_code 13 = .ok (.ireturn, 1) := by decide +kernel
theorem pn_com_example_zspan_zspan_BytesAtPinLaw : plainName "com/example/zspan/zspan/BytesAtPinLaw" = true := by first | (simp [plainName, overriddenIn]; done) | decide +kernel
theorem pd_IIBB_to_B : parseMethodDescriptor "(IIBB)B" = some ⟨[.int, .int, .byte, .byte], some .byte⟩ := by decide +kernel
theorem d2_0 : decode method_3_code 0 = .ok (.iload 4, 2) := by decide +kernel
theorem d2_2 : decode method_3_code 2 = .ok (.iconst 1, 1) := by decide +kernel
theorem d2_3 : decode method_3_code 3 = .ok (.if_icmp .lt 12, 3) := by decide +kernel
theorem d2_6 : decode method_3_code 6 = .ok (.aload_n 0, 1) := by decide +kernel
theorem d2_7 : decode method_3_code 7 = .ok (.iload_n 1, 1) := by decide +kernel
theorem d2_8 : decode method_3_code 8 = .ok (.baload, 1) := by decide +kernel
theorem d2_9 : decode method_3_code 9 = .ok (.aload_n 2, 1) := by decide +kernel
theorem d2_10 : decode method_3_code 10 = .ok (.iload_n 3, 1) := by decide +kernel
theorem d2_11 : decode method_3_code 11 = .ok (.baload, 1) := by decide +kernel
theorem d2_12 : decode method_3_code 12 = .ok (.if_icmp .eq 5, 3) := by decide +kernel
theorem d2_15 : decode method_3_code 15 = .ok (.iconst 0, 1) := by decide +kernel
theorem d2_16 : decode method_3_code 16 = .ok (.ireturn, 1) := by decide +kernel
theorem d2_17 : decode method_3_code 17 = .ok (.iload 4, 2) := by decide +kernel
theorem d2_19 : decode method_3_code 19 = .ok (.iconst 2, 1) := by decide +kernel
theorem d2_20 : decode method_3_code 20 = .ok (.if_icmp .lt 16, 3) := by decide +kernel
theorem d2_23 : decode method_3_code 23 = .ok (.aload_n 0, 1) := by decide +kernel
theorem d2_24 : decode method_3_code 24 = .ok (.iload_n 1, 1) := by decide +kernel
theorem d2_25 : decode method_3_code 25 = .ok (.iconst 1, 1) := by decide +kernel
theorem d2_26 : decode method_3_code 26 = .ok (.iadd, 1) := by decide +kernel
theorem d2_27 : decode method_3_code 27 = .ok (.baload, 1) := by decide +kernel
theorem d2_28 : decode method_3_code 28 = .ok (.aload_n 2, 1) := by decide +kernel
theorem d2_29 : decode method_3_code 29 = .ok (.iload_n 3, 1) := by decide +kernel
theorem d2_30 : decode method_3_code 30 = .ok (.iconst 1, 1) := by decide +kernel
theorem d2_31 : decode method_3_code 31 = .ok (.iadd, 1) := by decide +kernel
theorem d2_32 : decode method_3_code 32 = .ok (.baload, 1) := by decide +kernel
theorem d2_33 : decode method_3_code 33 = .ok (.if_icmp .eq 5, 3) := by decide +kernel
theorem d2_36 : decode method_3_code 36 = .ok (.iconst 1, 1) := by decide +kernel
theorem d2_37 : decode method_3_code 37 = .ok (.ireturn, 1) := by decide +kernel
theorem d2_38 : decode method_3_code 38 = .ok (.iload 4, 2) := by decide +kernel
theorem d2_40 : decode method_3_code 40 = .ok (.iconst 3, 1) := by decide +kernel
theorem d2_41 : decode method_3_code 41 = .ok (.if_icmp .lt 16, 3) := by decide +kernel
theorem d2_44 : decode method_3_code 44 = .ok (.aload_n 0, 1) := by decide +kernel
theorem d2_45 : decode method_3_code 45 = .ok (.iload_n 1, 1) := by decide +kernel
theorem d2_46 : decode method_3_code 46 = .ok (.iconst 2, 1) := by decide +kernel
theorem d2_47 : decode method_3_code 47 = .ok (.iadd, 1) := by decide +kernel
theorem d2_48 : decode method_3_code 48 = .ok (.baload, 1) := by decide +kernel
theorem d2_49 : decode method_3_code 49 = .ok (.aload_n 2, 1) := by decide +kernel
theorem d2_50 : decode method_3_code 50 = .ok (.iload_n 3, 1) := by decide +kernel
theorem d2_51 : decode method_3_code 51 = .ok (.iconst 2, 1) := by decide +kernel
theorem d2_52 : decode method_3_code 52 = .ok (.iadd, 1) := by decide +kernel
theorem d2_53 : decode method_3_code 53 = .ok (.baload, 1) := by decide +kernel
theorem d2_54 : decode method_3_code 54 = .ok (.if_icmp .eq 5, 3) := by decide +kernel
theorem d2_57 : decode method_3_code 57 = .ok (.iconst 2, 1) := by decide +kernel
theorem d2_58 : decode method_3_code 58 = .ok (.ireturn, 1) := by decide +kernel
theorem d2_59 : decode method_3_code 59 = .ok (.iload 4, 2) := by decide +kernel
theorem d2_61 : decode method_3_code 61 = .ok (.iconst 4, 1) := by decide +kernel
theorem d2_62 : decode method_3_code 62 = .ok (.if_icmp .lt 16, 3) := by decide +kernel
theorem d2_65 : decode method_3_code 65 = .ok (.aload_n 0, 1) := by decide +kernel
theorem d2_66 : decode method_3_code 66 = .ok (.iload_n 1, 1) := by decide +kernel
theorem d2_67 : decode method_3_code 67 = .ok (.iconst 3, 1) := by decide +kernel
theorem d2_68 : decode method_3_code 68 = .ok (.iadd, 1) := by decide +kernel
theorem d2_69 : decode method_3_code 69 = .ok (.baload, 1) := by decide +kernel
theorem d2_70 : decode method_3_code 70 = .ok (.aload_n 2, 1) := by decide +kernel
theorem d2_71 : decode method_3_code 71 = .ok (.iload_n 3, 1) := by decide +kernel
theorem d2_72 : decode method_3_code 72 = .ok (.iconst 3, 1) := by decide +kernel
theorem d2_73 : decode method_3_code 73 = .ok (.iadd, 1) := by decide +kernel
theorem d2_74 : decode method_3_code 74 = .ok (.baload, 1) := by decide +kernel
theorem d2_75 : decode method_3_code 75 = .ok (.if_icmp .eq 5, 3) := by decide +kernel
theorem d2_78 : decode method_3_code 78 = .ok (.iconst 3, 1) := by decide +kernel
theorem d2_79 : decode method_3_code 79 = .ok (.ireturn, 1) := by decide +kernel
theorem d2_80 : decode method_3_code 80 = .ok (.iconst 4, 1) := by decide +kernel
theorem d2_81 : decode method_3_code 81 = .ok (.ireturn, 1) := by decide +kernel
theorem pd_aBIaBII_to_I : parseMethodDescriptor "([BI[BII)I" = some ⟨[(.array .byte), .int, (.array .byte), .int, .int], some .int⟩ := by decide +kernel
theorem d7_0 : decode jdk_29_method_69_code 0 = .ok (.iload_n 0, 1) := by decide +kernel
theorem d7_1 : decode jdk_29_method_69_code 1 = .ok (.iload_n 1, 1) := by decide +kernel
theorem d7_2 : decode jdk_29_method_69_code 2 = .ok (.if_icmp .gt 7, 3) := by decide +kernel
theorem d7_5 : decode jdk_29_method_69_code 5 = .ok (.iload_n 0, 1) := by decide +kernel
theorem d7_6 : decode jdk_29_method_69_code 6 = .ok (.goto 4, 3) := by decide +kernel
theorem d7_9 : decode jdk_29_method_69_code 9 = .ok (.iload_n 1, 1) := by decide +kernel
theorem d7_10 : decode jdk_29_method_69_code 10 = .ok (.ireturn, 1) := by decide +kernel
theorem pd_II_to_I : parseMethodDescriptor "(II)I" = some ⟨[.int, .int], some .int⟩ := by decide +kernel
theorem d4_0 : decode prog_5_method_1_code 0 = .ok (.aload_n 0, 1) := by decide +kernel
theorem d4_1 : decode prog_5_method_1_code 1 = .ok (.invokespecial 1, 3) := by decide +kernel
theorem d4_4 : decode prog_5_method_1_code 4 = .ok (.aload_n 0, 1) := by decide +kernel
theorem d4_5 : decode prog_5_method_1_code 5 = .ok (.aload_n 1, 1) := by decide +kernel
theorem d4_6 : decode prog_5_method_1_code 6 = .ok (.putfield 7, 3) := by decide +kernel
theorem d4_9 : decode prog_5_method_1_code 9 = .ok (.return_, 1) := by decide +kernel
theorem pn_com_example_zspan_zspan_PrefixWalk : plainName "com/example/zspan/zspan/PrefixWalk" = true := by first | (simp [plainName, overriddenIn]; done) | decide +kernel
theorem pd_aI_to_V : parseMethodDescriptor "([I)V" = some ⟨[(.array .int)], none⟩ := by decide +kernel
theorem d3_0 : decode prog_6_method_1_code 0 = .ok (.aload_n 0, 1) := by decide +kernel
theorem d3_1 : decode prog_6_method_1_code 1 = .ok (.aload_n 1, 1) := by decide +kernel
theorem d3_2 : decode prog_6_method_1_code 2 = .ok (.invokespecial 1, 3) := by decide +kernel
theorem d3_5 : decode prog_6_method_1_code 5 = .ok (.aload_n 0, 1) := by decide +kernel
theorem d3_6 : decode prog_6_method_1_code 6 = .ok (.aload_n 2, 1) := by decide +kernel
theorem d3_7 : decode prog_6_method_1_code 7 = .ok (.putfield 7, 3) := by decide +kernel
theorem d3_10 : decode prog_6_method_1_code 10 = .ok (.aload_n 0, 1) := by decide +kernel
theorem d3_11 : decode prog_6_method_1_code 11 = .ok (.aload_n 3, 1) := by decide +kernel
theorem d3_12 : decode prog_6_method_1_code 12 = .ok (.putfield 13, 3) := by decide +kernel
theorem d3_15 : decode prog_6_method_1_code 15 = .ok (.return_, 1) := by decide +kernel
theorem pn_com_example_zspan_zspan_PrefixWalk_Bytes : plainName "com/example/zspan/zspan/PrefixWalk$Bytes" = true := by first | (simp [plainName, overriddenIn]; done) | decide +kernel
theorem pd_aIaBaB_to_V : parseMethodDescriptor "([I[B[B)V" = some ⟨[(.array .int), (.array .byte), (.array .byte)], none⟩ := by decide +kernel
theorem d8_0 : decode prog_6_method_2_code 0 = .ok (.iload_n 1, 1) := by decide +kernel
theorem d8_1 : decode prog_6_method_2_code 1 = .ok (.aload_n 0, 1) := by decide +kernel
theorem d8_2 : decode prog_6_method_2_code 2 = .ok (.getfield 16, 3) := by decide +kernel
theorem d8_5 : decode prog_6_method_2_code 5 = .ok (.if_icmp .ge 26, 3) := by decide +kernel
theorem d8_8 : decode prog_6_method_2_code 8 = .ok (.aload_n 0, 1) := by decide +kernel
theorem d8_9 : decode prog_6_method_2_code 9 = .ok (.getfield 20, 3) := by decide +kernel
theorem d8_12 : decode prog_6_method_2_code 12 = .ok (.iload_n 1, 1) := by decide +kernel
theorem d8_13 : decode prog_6_method_2_code 13 = .ok (.aload_n 0, 1) := by decide +kernel
theorem d8_14 : decode prog_6_method_2_code 14 = .ok (.getfield 24, 3) := by decide +kernel
theorem d8_17 : decode prog_6_method_2_code 17 = .ok (.isub, 1) := by decide +kernel
theorem d8_18 : decode prog_6_method_2_code 18 = .ok (.iaload, 1) := by decide +kernel
theorem d8_19 : decode prog_6_method_2_code 19 = .ok (.aload_n 0, 1) := by decide +kernel
theorem d8_20 : decode prog_6_method_2_code 20 = .ok (.getfield 16, 3) := by decide +kernel
theorem d8_23 : decode prog_6_method_2_code 23 = .ok (.iload_n 1, 1) := by decide +kernel
theorem d8_24 : decode prog_6_method_2_code 24 = .ok (.isub, 1) := by decide +kernel
theorem d8_25 : decode prog_6_method_2_code 25 = .ok (.invokestatic 27, 3) := by decide +kernel
theorem d8_28 : decode prog_6_method_2_code 28 = .ok (.goto 4, 3) := by decide +kernel
theorem d8_31 : decode prog_6_method_2_code 31 = .ok (.iconst 0, 1) := by decide +kernel
theorem d8_32 : decode prog_6_method_2_code 32 = .ok (.istore_n 3, 1) := by decide +kernel
theorem d8_33 : decode prog_6_method_2_code 33 = .ok (.iload_n 1, 1) := by decide +kernel
theorem d8_34 : decode prog_6_method_2_code 34 = .ok (.iload_n 3, 1) := by decide +kernel
theorem d8_35 : decode prog_6_method_2_code 35 = .ok (.iadd, 1) := by decide +kernel
theorem d8_36 : decode prog_6_method_2_code 36 = .ok (.aload_n 0, 1) := by decide +kernel
theorem d8_37 : decode prog_6_method_2_code 37 = .ok (.getfield 16, 3) := by decide +kernel
theorem d8_40 : decode prog_6_method_2_code 40 = .ok (.if_icmp .ge 5, 3) := by decide +kernel
theorem d8_43 : decode prog_6_method_2_code 43 = .ok (.iload_n 3, 1) := by decide +kernel
theorem d8_44 : decode prog_6_method_2_code 44 = .ok (.ireturn, 1) := by decide +kernel
theorem d8_45 : decode prog_6_method_2_code 45 = .ok (.iload_n 3, 1) := by decide +kernel
theorem d8_46 : decode prog_6_method_2_code 46 = .ok (.iload_n 2, 1) := by decide +kernel
theorem d8_47 : decode prog_6_method_2_code 47 = .ok (.if_icmp .ge 26, 3) := by decide +kernel
theorem d8_50 : decode prog_6_method_2_code 50 = .ok (.aload_n 0, 1) := by decide +kernel
theorem d8_51 : decode prog_6_method_2_code 51 = .ok (.getfield 7, 3) := by decide +kernel
theorem d8_54 : decode prog_6_method_2_code 54 = .ok (.iload_n 3, 1) := by decide +kernel
theorem d8_55 : decode prog_6_method_2_code 55 = .ok (.baload, 1) := by decide +kernel
theorem d8_56 : decode prog_6_method_2_code 56 = .ok (.aload_n 0, 1) := by decide +kernel
theorem d8_57 : decode prog_6_method_2_code 57 = .ok (.getfield 13, 3) := by decide +kernel
theorem d8_60 : decode prog_6_method_2_code 60 = .ok (.iload_n 1, 1) := by decide +kernel
theorem d8_61 : decode prog_6_method_2_code 61 = .ok (.iload_n 3, 1) := by decide +kernel
theorem d8_62 : decode prog_6_method_2_code 62 = .ok (.iadd, 1) := by decide +kernel
theorem d8_63 : decode prog_6_method_2_code 63 = .ok (.baload, 1) := by decide +kernel
theorem d8_64 : decode prog_6_method_2_code 64 = .ok (.if_icmp .ne 9, 3) := by decide +kernel
theorem d8_67 : decode prog_6_method_2_code 67 = .ok (.iinc 3 1, 3) := by decide +kernel
theorem d8_70 : decode prog_6_method_2_code 70 = .ok (.goto (-25), 3) := by decide +kernel
theorem d8_73 : decode prog_6_method_2_code 73 = .ok (.iload_n 1, 1) := by decide +kernel
theorem d8_74 : decode prog_6_method_2_code 74 = .ok (.iload_n 3, 1) := by decide +kernel
theorem d8_75 : decode prog_6_method_2_code 75 = .ok (.iadd, 1) := by decide +kernel
theorem d8_76 : decode prog_6_method_2_code 76 = .ok (.aload_n 0, 1) := by decide +kernel
theorem d8_77 : decode prog_6_method_2_code 77 = .ok (.getfield 16, 3) := by decide +kernel
theorem d8_80 : decode prog_6_method_2_code 80 = .ok (.if_icmp .le 15, 3) := by decide +kernel
theorem d8_83 : decode prog_6_method_2_code 83 = .ok (.aload_n 0, 1) := by decide +kernel
theorem d8_84 : decode prog_6_method_2_code 84 = .ok (.iload_n 1, 1) := by decide +kernel
theorem d8_85 : decode prog_6_method_2_code 85 = .ok (.putfield 24, 3) := by decide +kernel
theorem d8_88 : decode prog_6_method_2_code 88 = .ok (.aload_n 0, 1) := by decide +kernel
theorem d8_89 : decode prog_6_method_2_code 89 = .ok (.iload_n 1, 1) := by decide +kernel
theorem d8_90 : decode prog_6_method_2_code 90 = .ok (.iload_n 3, 1) := by decide +kernel
theorem d8_91 : decode prog_6_method_2_code 91 = .ok (.iadd, 1) := by decide +kernel
theorem d8_92 : decode prog_6_method_2_code 92 = .ok (.putfield 16, 3) := by decide +kernel
theorem d8_95 : decode prog_6_method_2_code 95 = .ok (.iload_n 3, 1) := by decide +kernel
theorem d8_96 : decode prog_6_method_2_code 96 = .ok (.ireturn, 1) := by decide +kernel
theorem d6_0 : decode method_4_code 0 = .ok (.iload 5, 2) := by decide +kernel
theorem d6_2 : decode method_4_code 2 = .ok (.iload 4, 2) := by decide +kernel
theorem d6_4 : decode method_4_code 4 = .ok (.ishr, 1) := by decide +kernel
theorem d6_5 : decode method_4_code 5 = .ok (.iconst 1, 1) := by decide +kernel
theorem d6_6 : decode method_4_code 6 = .ok (.iand, 1) := by decide +kernel
theorem d6_7 : decode method_4_code 7 = .ok (.ifCond .ne 5, 3) := by decide +kernel
theorem d6_10 : decode method_4_code 10 = .ok (.iconst 1, 1) := by decide +kernel
theorem d6_11 : decode method_4_code 11 = .ok (.ireturn, 1) := by decide +kernel
theorem d6_12 : decode method_4_code 12 = .ok (.iload_n 3, 1) := by decide +kernel
theorem d6_13 : decode method_4_code 13 = .ok (.bipush 7, 2) := by decide +kernel
theorem d6_15 : decode method_4_code 15 = .ok (.iload 4, 2) := by decide +kernel
theorem d6_17 : decode method_4_code 17 = .ok (.isub, 1) := by decide +kernel
theorem d6_18 : decode method_4_code 18 = .ok (.invokestatic 7, 3) := by decide +kernel
theorem d6_21 : decode method_4_code 21 = .ok (.istore 6, 2) := by decide +kernel
theorem d6_23 : decode method_4_code 23 = .ok (.aload_n 0, 1) := by decide +kernel
theorem d6_24 : decode method_4_code 24 = .ok (.iload 4, 2) := by decide +kernel
theorem d6_26 : decode method_4_code 26 = .ok (.iload 6, 2) := by decide +kernel
theorem d6_28 : decode method_4_code 28 = .ok (.invokevirtual 13, 3) := by decide +kernel
theorem d6_31 : decode method_4_code 31 = .ok (.aload_n 1, 1) := by decide +kernel
theorem d6_32 : decode method_4_code 32 = .ok (.iconst 0, 1) := by decide +kernel
theorem d6_33 : decode method_4_code 33 = .ok (.aload_n 2, 1) := by decide +kernel
theorem d6_34 : decode method_4_code 34 = .ok (.iload 4, 2) := by decide +kernel
theorem d6_36 : decode method_4_code 36 = .ok (.iload 6, 2) := by decide +kernel
theorem d6_38 : decode method_4_code 38 = .ok (.invokestatic 18, 3) := by decide +kernel
theorem d6_41 : decode method_4_code 41 = .ok (.if_icmp .ne 7, 3) := by decide +kernel
theorem d6_44 : decode method_4_code 44 = .ok (.iconst 1, 1) := by decide +kernel
theorem d6_45 : decode method_4_code 45 = .ok (.goto 4, 3) := by decide +kernel
theorem d6_48 : decode method_4_code 48 = .ok (.iconst 0, 1) := by decide +kernel
theorem d6_49 : decode method_4_code 49 = .ok (.ireturn, 1) := by decide +kernel
theorem pd_Lcom_example_zspan_zspan_PrefixWalk_BytesaBaBIII_to_Z : parseMethodDescriptor "(Lcom/example/zspan/zspan/PrefixWalk$Bytes;[B[BIII)Z" = some ⟨[(.object "com/example/zspan/zspan/PrefixWalk$Bytes"), (.array .byte), (.array .byte), .int, .int, .int], some .boolean⟩ := by decide +kernel
theorem pd_IIII_to_Z : parseMethodDescriptor "(IIII)Z" = some ⟨[.int, .int, .int, .int], some .boolean⟩ := by decide +kernel
def own_zl : Nat → List Int32 → List Int32 → Nat
  | 0, _, _ => 0
  | _ + 1, [], _ => 0
  | _ + 1, _ :: _, [] => 0
  | n + 1, x :: xs, y :: ys => if x = y then own_zl n xs ys + 1 else 0
theorem own_zl_le (n : Nat) (xs ys : List Int32) : own_zl n xs ys ≤ n := by
  induction n generalizing xs ys with
  | zero => simp [own_zl]
  | succ n ih =>
    match xs, ys with
    | [], _ => simp [own_zl]
    | _ :: _, [] => simp [own_zl]
    | x :: xs, y :: ys =>
      simp only [own_zl]
      have := ih xs ys
      split <;> omega
theorem own_zl_uniq (n : Nat) (xs ys : List Int32) (k : Nat) (hx : n ≤ xs.length) (hy : n ≤ ys.length) (hk : k ≤ n) (he : ∀ e, e < k → xs[e]? = ys[e]?) (hne : k < n → ¬ (xs[k]? = ys[k]?)) : own_zl n xs ys = k := by
  induction n generalizing xs ys k with
  | zero => simp [own_zl]; omega
  | succ n ih =>
    match xs, ys, hx, hy with
    | x :: xs, y :: ys, hx, hy =>
      simp only [List.length_cons] at hx hy
      simp only [own_zl]
      match k with
      | 0 =>
        have := hne (by omega)
        simp at this
        rw [if_neg this]
      | k + 1 =>
        have h0 := he 0 (by omega)
        simp at h0
        rw [if_pos h0, ih xs ys k (by omega) (by omega) (by omega) (fun e q => by simpa using he (e + 1) (by omega)) (fun q => by simpa using hne (by omega))]
theorem own_zl_eq (n : Nat) (xs ys : List Int32) (hx : n ≤ xs.length) (hy : n ≤ ys.length) (e : Nat) (he : e < own_zl n xs ys) : xs[e]? = ys[e]? := by
  induction n generalizing xs ys e with
  | zero => simp [own_zl] at he
  | succ n ih =>
    match xs, ys, hx, hy with
    | x :: xs, y :: ys, hx, hy =>
      simp only [List.length_cons] at hx hy
      simp only [own_zl] at he
      split at he
      · rename_i q
        match e with
        | 0 => simp [q]
        | e + 1 => simpa using ih xs ys (by omega) (by omega) e (by omega)
      · omega
theorem own_zl_ne (n : Nat) (xs ys : List Int32) (hx : n ≤ xs.length) (hy : n ≤ ys.length) (h : own_zl n xs ys < n) : ¬ (xs[own_zl n xs ys]? = ys[own_zl n xs ys]?) := by
  induction n generalizing xs ys with
  | zero => omega
  | succ n ih =>
    match xs, ys, hx, hy with
    | x :: xs, y :: ys, hx, hy =>
      simp only [List.length_cons] at hx hy
      simp only [own_zl] at h ⊢
      split at h
      · rename_i q
        rw [if_pos q]
        simpa using ih xs ys (by omega) (by omega) (by omega)
      · rename_i q
        rw [if_neg q]
        simpa using q
theorem own_get (vs : List Int32) (k : Nat) (h : k < vs.length) : ∃ v, vs[k]? = some v := ⟨_, List.getElem?_eq_getElem h⟩
/-- the window that the walk has seen to match -/
def own_inv (n : Nat) (ps ts : List Int32) (l r : Nat) : Prop := l ≤ r ∧ r ≤ ts.length ∧ r ≤ l + n ∧ ∀ e, l + e < r → ps[e]? = ts[l + e]?
/-- a place inside the window: what the table says -/
theorem own_in_win {n : Nat} {ps ts : List Int32} {l r i mx z : Nat} (I : own_inv n ps ts l r) (hn : n ≤ ps.length) (hl : l ≤ i) (hi : i < r) (hm : mx = min n (ts.length - i)) (hz : z = own_zl (n - (i - l)) ps (ps.drop (i - l))) :
    (∀ e, e < min z (r - i) → ps[e]? = (ts.drop i)[e]?) ∧ min z (r - i) ≤ mx ∧ (z < r - i → own_zl mx ps (ts.drop i) = z) := by
  obtain ⟨i1, i2, i3, i4⟩ := I
  have hz1 := own_zl_le (n - (i - l)) ps (ps.drop (i - l))
  have hz2 := own_zl_eq (n - (i - l)) ps (ps.drop (i - l)) (by omega) (by simp; omega)
  have hz3 := own_zl_ne (n - (i - l)) ps (ps.drop (i - l)) (by omega) (by simp; omega)
  rw [← hz] at hz1 hz2 hz3
  have key : ∀ e, e < r - i → (ps.drop (i - l))[e]? = (ts.drop i)[e]? := by
    intro e he
    rw [List.getElem?_drop, List.getElem?_drop, i4 (i - l + e) (by omega), show l + (i - l + e) = i + e from by omega]
  refine ⟨fun e he => ?_, by omega, fun q => ?_⟩
  · rw [hz2 e (by omega)]; exact key e (by omega)
  · refine own_zl_uniq _ _ _ _ (by omega) (by simp; omega) (by omega) (fun e he => ?_) (fun _ g => ?_)
    · rw [hz2 e he]; exact key e (by omega)
    · rw [← key z (by omega)] at g
      exact hz3 (by omega) g
set_option maxRecDepth 65536 in
set_option maxHeartbeats 40000000 in
theorem rm_sym (l : Launch) (Z : State) (a0 : Array Value) (hw : ∀ d ∈ tables_1, d.before a0 Z = true) (ws : List Jvm.Cond) (q0 q1 q2 q3 : Int32) (h0 : Heap) (n0 : Nat) (hz : n0 ≤ h0.size) :
    OwnMet l (⟨"com/example/zspan/zspan/BytesAtPinLaw", "pick", "(IIBB)B"⟩ : MethodName) method_2_code 4 (some .byte) ws ({ frames := 0, cells := 0, slots := 0, locals := 0 } : Room) Z h0 n0 #[.int q0, .int q1, .int q2, .int q3] (fun v h => (∃ z, v = some (.int z)) ∧ h0 = h) := by
  refine OwnMet.of (own := "com/example/zspan/zspan/BytesAtPinLaw") (name := "pick") (desc := "(IIBB)B") (Ls := [.val (.int q0), .val (.int q1), .val (.int q2), .val (.int q3)]) (plainFor_of_name pn_com_example_zspan_zspan_BytesAtPinLaw) (fun m => by first | (simp [entryFrame, mkF, argsToLocals, Value.category]; done) | rfl) ?_
  intro K hK C
  refine w_iloadN 1 C d1_0 rfl rfl ?_
  refine w_iloadN 2 C d1_1 rfl rfl ?_
  refine w_ishr 3 C d1_2 rfl ?_
  refine w_iconst 4 (1 : Int32) C d1_3 rfl rfl ?_
  refine w_iand 5 C d1_4 rfl ?_
  refine w_if 12 8 C d1_5 rfl rfl (fun (hc5 : ((q0 >>> (q1 &&& 31)) &&& (1 : Int32)) = (0 : Int32)) => ?_) (fun (hc5 : ¬ (((q0 >>> (q1 &&& 31)) &&& (1 : Int32)) = (0 : Int32))) => ?_)
  · refine w_iloadN 13 C d1_12 rfl rfl ?_
    refine w_retN C (by simp) d1_13 rfl (by decide) (by decide) ?_
    exact ⟨⟨_, rfl⟩, rfl⟩
  · refine w_iloadN 9 C d1_8 rfl rfl ?_
    refine w_goto 13 C d1_9 rfl ?_
    refine w_retN C (by simp) d1_13 rfl (by decide) (by decide) ?_
    exact ⟨⟨_, rfl⟩, rfl⟩
set_option maxRecDepth 65536 in
set_option maxHeartbeats 40000000 in
theorem rm_min (l : Launch) (Z : State) (a0 : Array Value) (hw : ∀ d ∈ tables_1, d.before a0 Z = true) (ws : List Jvm.Cond) (x y : Int32) (h0 : Heap) (n0 : Nat) (hz : n0 ≤ h0.size) :
    OwnMet l (⟨"java/lang/Math", "min", "(II)I"⟩ : MethodName) jdk_29_method_69_code 2 (some .int) ws ({ frames := 0, cells := 0, slots := 0, locals := 0 } : Room) Z h0 n0 #[.int x, .int y] (fun v h => (∃ z, v = some (.int z) ∧ z.toInt = min x.toInt y.toInt) ∧ h0 = h) := by
  refine OwnMet.of (own := "java/lang/Math") (name := "min") (desc := "(II)I") (Ls := [.val (.int x), .val (.int y)]) (Jvm.Free.JP.mathPlain rfl (by decide +kernel)) (fun m => by first | (simp [entryFrame, mkF, argsToLocals, Value.category]; done) | rfl) ?_
  intro K hK C
  refine w_iloadN 1 C d7_0 rfl rfl ?_
  refine w_iloadN 2 C d7_1 rfl rfl ?_
  refine w_icmp 9 5 C d7_2 rfl rfl (fun (hc2 : y.toInt < x.toInt) => ?_) (fun (hc2 : ¬ (y.toInt < x.toInt)) => ?_)
  · refine w_iloadN 10 C d7_9 rfl rfl ?_
    refine w_retI C d7_10 (by decide) (by decide) ?_
    exact ⟨⟨_, rfl, by omega⟩, rfl⟩
  · refine w_iloadN 6 C d7_5 rfl rfl ?_
    refine w_goto 10 C d7_6 rfl ?_
    refine w_retI C d7_10 (by decide) (by decide) ?_
    exact ⟨⟨_, rfl, by omega⟩, rfl⟩
set_option maxRecDepth 65536 in
set_option maxHeartbeats 40000000 in
theorem rm_lcp (l : Launch) (Z : State) (a0 : Array Value) (hw : ∀ d ∈ tables_1, d.before a0 Z = true) (ws : List Jvm.Cond) (pa ta : Addr) (i m : Int32) (ps ts : List Int32) (ni nm : Nat) (h0 : Heap) (n0 : Nat) (hz : n0 ≤ h0.size) (A_p : Ai Z h0 pa .byte ps) (A_t : Ai Z h0 ta .byte ts) (hi : i.toInt = (ni : Int)) (hm : m.toInt.toNat = nm) (hlp : nm ≤ ps.length) (hlt : ni + nm ≤ ts.length) (h4 : nm ≤ 4) (hi9 : ni ≤ 9) :
    OwnMet l (⟨"com/example/zspan/zspan/BytesAtPinLaw", "lcp", "([BI[BII)I"⟩ : MethodName) method_3_code 5 (some .int) ws ({ frames := 0, cells := 0, slots := 0, locals := 0 } : Room) Z h0 n0 #[.ref pa, .int (0 : Int32), .ref ta, .int i, .int m] (fun v h => (∃ z, v = some (.int z) ∧ z.toInt = ((own_zl nm ps (ts.drop ni) : Nat) : Int)) ∧ h0 = h) := by
  refine OwnMet.of (own := "com/example/zspan/zspan/BytesAtPinLaw") (name := "lcp") (desc := "([BI[BII)I") (Ls := [.val (.ref pa), .val (.int (0 : Int32)), .val (.ref ta), .val (.int i), .val (.int m)]) (plainFor_of_name pn_com_example_zspan_zspan_BytesAtPinLaw) (fun m => by first | (simp [entryFrame, mkF, argsToLocals, Value.category]; done) | rfl) ?_
  intro K hK C
  refine w_iload 2 C d2_0 rfl rfl ?_
  refine w_iconst 3 (1 : Int32) C d2_2 rfl rfl ?_
  refine w_icmp 15 6 C d2_3 rfl rfl (fun (hc3 : m.toInt < (1 : Int32).toInt) => ?_) (fun (hc3 : ¬ (m.toInt < (1 : Int32).toInt)) => ?_)
  · refine w_iconst 16 (0 : Int32) C d2_15 rfl rfl ?_
    simp only [Int32.reduceToInt] at *
    refine w_retI C d2_16 (by decide) (by decide) ?_
    exact ⟨⟨_, rfl, by rw [own_zl_uniq nm ps (ts.drop ni) 0 (by omega) (by simp; omega) (by omega) (fun e he => absurd he (by omega)) (fun q => absurd q (by omega))]; decide⟩, rfl⟩
  · refine w_aloadN 7 C d2_6 rfl rfl rfl ?_
    refine w_iloadN 8 C d2_7 rfl rfl ?_
    obtain ⟨a0, hp0⟩ := own_get ps 0 (by simp only [Int32.reduceToInt] at *; omega)
    refine w_baload 9 (0) a0 C A_p d2_8 rfl (by decide) hp0 ?_
    refine w_aloadN 10 C d2_9 rfl rfl rfl ?_
    refine w_iloadN 11 C d2_10 rfl rfl ?_
    obtain ⟨t0, ht0⟩ := own_get ts (ni + 0) (by simp only [Int32.reduceToInt] at *; omega)
    refine w_baload 12 (ni + 0) t0 C A_t d2_11 rfl (by omega) ht0 ?_
    refine w_icmp 17 15 C d2_12 rfl rfl (fun (hc12 : a0 = t0) => ?_) (fun (hc12 : ¬ (a0 = t0)) => ?_)
    · have m0 : ps[0]? = (ts.drop ni)[0]? := by rw [List.getElem?_drop, hp0, ht0, hc12]
      refine w_iload 19 C d2_17 rfl rfl ?_
      refine w_iconst 20 (2 : Int32) C d2_19 rfl rfl ?_
      refine w_icmp 36 23 C d2_20 rfl rfl (fun (hc20 : m.toInt < (2 : Int32).toInt) => ?_) (fun (hc20 : ¬ (m.toInt < (2 : Int32).toInt)) => ?_)
      · refine w_iconst 37 (1 : Int32) C d2_36 rfl rfl ?_
        simp only [Int32.reduceToInt] at *
        refine w_retI C d2_37 (by decide) (by decide) ?_
        exact ⟨⟨_, rfl, by rw [own_zl_uniq nm ps (ts.drop ni) 1 (by omega) (by simp; omega) (by omega) (by intro e he; match e, he with | 0, _ => exact m0 | (e + 1), he => exact absurd he (by omega)) (fun q => absurd q (by omega))]; decide⟩, rfl⟩
      · refine w_aloadN 24 C d2_23 rfl rfl rfl ?_
        refine w_iloadN 25 C d2_24 rfl rfl ?_
        refine w_iconst 26 (1 : Int32) C d2_25 rfl rfl ?_
        refine w_iadd 27 C d2_26 rfl ?_
        obtain ⟨a1, hp1⟩ := own_get ps 1 (by simp only [Int32.reduceToInt] at *; omega)
        refine w_baload 28 (1) a1 C A_p d2_27 rfl (by decide) hp1 ?_
        refine w_aloadN 29 C d2_28 rfl rfl rfl ?_
        refine w_iloadN 30 C d2_29 rfl rfl ?_
        refine w_iconst 31 (1 : Int32) C d2_30 rfl rfl ?_
        refine w_iadd 32 C d2_31 rfl ?_
        obtain ⟨t1, ht1⟩ := own_get ts (ni + 1) (by simp only [Int32.reduceToInt] at *; omega)
        refine w_baload 33 (ni + 1) t1 C A_t d2_32 rfl (by rw [own_iadd, hi, show (1 : Int32).toInt = 1 from by decide]; omega) ht1 ?_
        refine w_icmp 38 36 C d2_33 rfl rfl (fun (hc33 : a1 = t1) => ?_) (fun (hc33 : ¬ (a1 = t1)) => ?_)
        · have m1 : ps[1]? = (ts.drop ni)[1]? := by rw [List.getElem?_drop, hp1, ht1, hc33]
          refine w_iload 40 C d2_38 rfl rfl ?_
          refine w_iconst 41 (3 : Int32) C d2_40 rfl rfl ?_
          refine w_icmp 57 44 C d2_41 rfl rfl (fun (hc41 : m.toInt < (3 : Int32).toInt) => ?_) (fun (hc41 : ¬ (m.toInt < (3 : Int32).toInt)) => ?_)
          · refine w_iconst 58 (2 : Int32) C d2_57 rfl rfl ?_
            simp only [Int32.reduceToInt] at *
            refine w_retI C d2_58 (by decide) (by decide) ?_
            exact ⟨⟨_, rfl, by rw [own_zl_uniq nm ps (ts.drop ni) 2 (by omega) (by simp; omega) (by omega) (by intro e he; match e, he with | 0, _ => exact m0 | 1, _ => exact m1 | (e + 2), he => exact absurd he (by omega)) (fun q => absurd q (by omega))]; decide⟩, rfl⟩
          · refine w_aloadN 45 C d2_44 rfl rfl rfl ?_
            refine w_iloadN 46 C d2_45 rfl rfl ?_
            refine w_iconst 47 (2 : Int32) C d2_46 rfl rfl ?_
            refine w_iadd 48 C d2_47 rfl ?_
            obtain ⟨a2, hp2⟩ := own_get ps 2 (by simp only [Int32.reduceToInt] at *; omega)
            refine w_baload 49 (2) a2 C A_p d2_48 rfl (by decide) hp2 ?_
            refine w_aloadN 50 C d2_49 rfl rfl rfl ?_
            refine w_iloadN 51 C d2_50 rfl rfl ?_
            refine w_iconst 52 (2 : Int32) C d2_51 rfl rfl ?_
            refine w_iadd 53 C d2_52 rfl ?_
            obtain ⟨t2, ht2⟩ := own_get ts (ni + 2) (by simp only [Int32.reduceToInt] at *; omega)
            refine w_baload 54 (ni + 2) t2 C A_t d2_53 rfl (by rw [own_iadd, hi, show (2 : Int32).toInt = 2 from by decide]; omega) ht2 ?_
            refine w_icmp 59 57 C d2_54 rfl rfl (fun (hc54 : a2 = t2) => ?_) (fun (hc54 : ¬ (a2 = t2)) => ?_)
            · have m2 : ps[2]? = (ts.drop ni)[2]? := by rw [List.getElem?_drop, hp2, ht2, hc54]
              refine w_iload 61 C d2_59 rfl rfl ?_
              refine w_iconst 62 (4 : Int32) C d2_61 rfl rfl ?_
              refine w_icmp 78 65 C d2_62 rfl rfl (fun (hc62 : m.toInt < (4 : Int32).toInt) => ?_) (fun (hc62 : ¬ (m.toInt < (4 : Int32).toInt)) => ?_)
              · refine w_iconst 79 (3 : Int32) C d2_78 rfl rfl ?_
                simp only [Int32.reduceToInt] at *
                refine w_retI C d2_79 (by decide) (by decide) ?_
                exact ⟨⟨_, rfl, by rw [own_zl_uniq nm ps (ts.drop ni) 3 (by omega) (by simp; omega) (by omega) (by intro e he; match e, he with | 0, _ => exact m0 | 1, _ => exact m1 | 2, _ => exact m2 | (e + 3), he => exact absurd he (by omega)) (fun q => absurd q (by omega))]; decide⟩, rfl⟩
              · refine w_aloadN 66 C d2_65 rfl rfl rfl ?_
                refine w_iloadN 67 C d2_66 rfl rfl ?_
                refine w_iconst 68 (3 : Int32) C d2_67 rfl rfl ?_
                refine w_iadd 69 C d2_68 rfl ?_
                obtain ⟨a3, hp3⟩ := own_get ps 3 (by simp only [Int32.reduceToInt] at *; omega)
                refine w_baload 70 (3) a3 C A_p d2_69 rfl (by decide) hp3 ?_
                refine w_aloadN 71 C d2_70 rfl rfl rfl ?_
                refine w_iloadN 72 C d2_71 rfl rfl ?_
                refine w_iconst 73 (3 : Int32) C d2_72 rfl rfl ?_
                refine w_iadd 74 C d2_73 rfl ?_
                obtain ⟨t3, ht3⟩ := own_get ts (ni + 3) (by simp only [Int32.reduceToInt] at *; omega)
                refine w_baload 75 (ni + 3) t3 C A_t d2_74 rfl (by rw [own_iadd, hi, show (3 : Int32).toInt = 3 from by decide]; omega) ht3 ?_
                refine w_icmp 80 78 C d2_75 rfl rfl (fun (hc75 : a3 = t3) => ?_) (fun (hc75 : ¬ (a3 = t3)) => ?_)
                · have m3 : ps[3]? = (ts.drop ni)[3]? := by rw [List.getElem?_drop, hp3, ht3, hc75]
                  refine w_iconst 81 (4 : Int32) C d2_80 rfl rfl ?_
                  simp only [Int32.reduceToInt] at *
                  refine w_retI C d2_81 (by decide) (by decide) ?_
                  exact ⟨⟨_, rfl, by rw [own_zl_uniq nm ps (ts.drop ni) 4 (by omega) (by simp; omega) (by omega) (by intro e he; match e, he with | 0, _ => exact m0 | 1, _ => exact m1 | 2, _ => exact m2 | 3, _ => exact m3 | (e + 4), he => exact absurd he (by omega)) (fun q => absurd q (by omega))]; decide⟩, rfl⟩
                · refine w_iconst 79 (3 : Int32) C d2_78 rfl rfl ?_
                  simp only [Int32.reduceToInt] at *
                  refine w_retI C d2_79 (by decide) (by decide) ?_
                  exact ⟨⟨_, rfl, by rw [own_zl_uniq nm ps (ts.drop ni) 3 (by omega) (by simp; omega) (by omega) (by intro e he; match e, he with | 0, _ => exact m0 | 1, _ => exact m1 | 2, _ => exact m2 | (e + 3), he => exact absurd he (by omega)) (fun q => by rw [List.getElem?_drop, hp3, ht3]; exact fun g => hc75 (Option.some.inj g))]; decide⟩, rfl⟩
            · refine w_iconst 58 (2 : Int32) C d2_57 rfl rfl ?_
              simp only [Int32.reduceToInt] at *
              refine w_retI C d2_58 (by decide) (by decide) ?_
              exact ⟨⟨_, rfl, by rw [own_zl_uniq nm ps (ts.drop ni) 2 (by omega) (by simp; omega) (by omega) (by intro e he; match e, he with | 0, _ => exact m0 | 1, _ => exact m1 | (e + 2), he => exact absurd he (by omega)) (fun q => by rw [List.getElem?_drop, hp2, ht2]; exact fun g => hc54 (Option.some.inj g))]; decide⟩, rfl⟩
        · refine w_iconst 37 (1 : Int32) C d2_36 rfl rfl ?_
          simp only [Int32.reduceToInt] at *
          refine w_retI C d2_37 (by decide) (by decide) ?_
          exact ⟨⟨_, rfl, by rw [own_zl_uniq nm ps (ts.drop ni) 1 (by omega) (by simp; omega) (by omega) (by intro e he; match e, he with | 0, _ => exact m0 | (e + 1), he => exact absurd he (by omega)) (fun q => by rw [List.getElem?_drop, hp1, ht1]; exact fun g => hc33 (Option.some.inj g))]; decide⟩, rfl⟩
    · refine w_iconst 16 (0 : Int32) C d2_15 rfl rfl ?_
      simp only [Int32.reduceToInt] at *
      refine w_retI C d2_16 (by decide) (by decide) ?_
      exact ⟨⟨_, rfl, by rw [own_zl_uniq nm ps (ts.drop ni) 0 (by omega) (by simp; omega) (by omega) (fun e he => absurd he (by omega)) (fun q => by rw [List.getElem?_drop, hp0, ht0]; exact fun g => hc12 (Option.some.inj g))]; decide⟩, rfl⟩
set_option maxRecDepth 65536 in
set_option maxHeartbeats 40000000 in
theorem rm_i1 (l : Launch) (Z : State) (a0 : Array Value) (hw : ∀ d ∈ tables_1, d.before a0 Z = true) (ws : List Jvm.Cond) (a1 za : Addr) (u0 u1 u2 u3 u4 : Value) (h0 : Heap) (n0 : Nat) (hz : n0 ≤ h0.size) (E_a1 : Exa Z h0 a1 "com/example/zspan/zspan/PrefixWalk$Bytes") (g_a1 : n0 ≤ a1) (F_z_a1 : Fld Z h0 a1 "com/example/zspan/zspan/PrefixWalk" "z" "[I" u0) (F_pattern_a1 : Fld Z h0 a1 "com/example/zspan/zspan/PrefixWalk$Bytes" "pattern" "[B" u1) (F_text_a1 : Fld Z h0 a1 "com/example/zspan/zspan/PrefixWalk$Bytes" "text" "[B" u2) (F_left_a1 : Fld Z h0 a1 "com/example/zspan/zspan/PrefixWalk" "left" "I" u3) (F_right_a1 : Fld Z h0 a1 "com/example/zspan/zspan/PrefixWalk" "right" "I" u4) :
    OwnMet l (⟨"com/example/zspan/zspan/PrefixWalk", "<init>", "([I)V"⟩ : MethodName) prog_5_method_1_code 2 none ws ({ frames := 1, cells := 0, slots := 0, locals := 12 } : Room) Z h0 n0 #[.ref a1, .ref za] (fun v h => v = none ∧ Keep h0 h [a1] ∧ Exa Z h a1 "com/example/zspan/zspan/PrefixWalk$Bytes" ∧ Fld Z h a1 "com/example/zspan/zspan/PrefixWalk" "z" "[I" (.ref za) ∧ Fld Z h a1 "com/example/zspan/zspan/PrefixWalk$Bytes" "pattern" "[B" u1 ∧ Fld Z h a1 "com/example/zspan/zspan/PrefixWalk$Bytes" "text" "[B" u2 ∧ Fld Z h a1 "com/example/zspan/zspan/PrefixWalk" "left" "I" u3 ∧ Fld Z h a1 "com/example/zspan/zspan/PrefixWalk" "right" "I" u4) := by
  refine OwnMet.of (own := "com/example/zspan/zspan/PrefixWalk") (name := "<init>") (desc := "([I)V") (Ls := [.val (.ref a1), .val (.ref za)]) (plainFor_of_name pn_com_example_zspan_zspan_PrefixWalk) (fun m => by first | (simp [entryFrame, mkF, argsToLocals, Value.category]; done) | rfl) ?_
  intro K hK C
  have KK : Keep h0 h0 [a1] := Keep.refl _ _
  refine w_aloadN 1 C d4_0 rfl rfl rfl ?_
  refine w_initO 4 0 C d4_1 rfl (hw _ (List.mem_of_getElem? (i := 20) rfl)) (hw _ (List.mem_of_getElem? (i := 21) rfl)) (hw _ (List.mem_of_getElem? (i := 22) rfl)) rfl (by decide) (Nat.le_of_eq rfl) (by decide) ?_
  refine w_aloadN 5 C d4_4 rfl rfl rfl ?_
  refine w_aloadN 6 C d4_5 rfl rfl rfl ?_
  refine w_putF (host := "") (ty := (.array .int)) 9 C F_z_a1 E_a1 g_a1 d4_6 rfl (Or.inl (hw _ (List.mem_of_getElem? (i := 23) rfl))) Via.refl (Or.inr ⟨(hw _ (List.mem_of_getElem? (i := 24) rfl)), rfl, rfl⟩) (hw _ (List.mem_of_getElem? (i := 10) rfl)) (by decide) rfl rfl ?_
  intro h1 K_h1 W_h1 Fn_ En_
  replace F_pattern_a1 := F_pattern_a1.other W_h1 (Or.inr (slot_ne (Or.inr (hw _ (List.mem_of_getElem? (i := 26) rfl))) (Or.inr (hw _ (List.mem_of_getElem? (i := 24) rfl))) (by decide) (t := (.array .byte)) (t' := (.array .int)) (by decide) (by decide)))
  replace F_text_a1 := F_text_a1.other W_h1 (Or.inr (slot_ne (Or.inr (hw _ (List.mem_of_getElem? (i := 28) rfl))) (Or.inr (hw _ (List.mem_of_getElem? (i := 24) rfl))) (by decide) (t := (.array .byte)) (t' := (.array .int)) (by decide) (by decide)))
  replace F_left_a1 := F_left_a1.other W_h1 (Or.inr (slot_ne (Or.inl (hw _ (List.mem_of_getElem? (i := 46) rfl))) (Or.inr (hw _ (List.mem_of_getElem? (i := 24) rfl))) (by decide) (t := .int) (t' := (.array .int)) (by decide) (by decide)))
  replace F_right_a1 := F_right_a1.other W_h1 (Or.inr (slot_ne (Or.inl (hw _ (List.mem_of_getElem? (i := 43) rfl))) (Or.inr (hw _ (List.mem_of_getElem? (i := 24) rfl))) (by decide) (t := .int) (t' := (.array .int)) (by decide) (by decide)))
  replace F_z_a1 := Fn_
  replace E_a1 := En_
  replace hz := Nat.le_trans hz K_h1.1
  replace KK := KK.trans K_h1 (allS (Or.inl (by simp)) all0)
  refine w_ret C d4_9 (by decide) (by decide) ?_
  exact ⟨rfl, KK, E_a1, F_z_a1, F_pattern_a1, F_text_a1, F_left_a1, F_right_a1⟩
set_option maxRecDepth 65536 in
set_option maxHeartbeats 40000000 in
theorem rm_i2 (l : Launch) (Z : State) (a0 : Array Value) (hw : ∀ d ∈ tables_1, d.before a0 Z = true) (ws : List Jvm.Cond) (a1 za pa ta : Addr) (u0 u1 u2 u3 u4 : Value) (h0 : Heap) (n0 : Nat) (hz : n0 ≤ h0.size) (E_a1 : Exa Z h0 a1 "com/example/zspan/zspan/PrefixWalk$Bytes") (g_a1 : n0 ≤ a1) (F_z_a1 : Fld Z h0 a1 "com/example/zspan/zspan/PrefixWalk" "z" "[I" u0) (F_pattern_a1 : Fld Z h0 a1 "com/example/zspan/zspan/PrefixWalk$Bytes" "pattern" "[B" u1) (F_text_a1 : Fld Z h0 a1 "com/example/zspan/zspan/PrefixWalk$Bytes" "text" "[B" u2) (F_left_a1 : Fld Z h0 a1 "com/example/zspan/zspan/PrefixWalk" "left" "I" u3) (F_right_a1 : Fld Z h0 a1 "com/example/zspan/zspan/PrefixWalk" "right" "I" u4) :
    OwnMet l (⟨"com/example/zspan/zspan/PrefixWalk$Bytes", "<init>", "([I[B[B)V"⟩ : MethodName) prog_6_method_1_code 4 none ws ({ frames := 2, cells := 0, slots := 0, locals := 25 } : Room) Z h0 n0 #[.ref a1, .ref za, .ref pa, .ref ta] (fun v h => v = none ∧ Keep h0 h [a1] ∧ Exa Z h a1 "com/example/zspan/zspan/PrefixWalk$Bytes" ∧ Fld Z h a1 "com/example/zspan/zspan/PrefixWalk" "z" "[I" (.ref za) ∧ Fld Z h a1 "com/example/zspan/zspan/PrefixWalk$Bytes" "pattern" "[B" (.ref pa) ∧ Fld Z h a1 "com/example/zspan/zspan/PrefixWalk$Bytes" "text" "[B" (.ref ta) ∧ Fld Z h a1 "com/example/zspan/zspan/PrefixWalk" "left" "I" u3 ∧ Fld Z h a1 "com/example/zspan/zspan/PrefixWalk" "right" "I" u4) := by
  refine OwnMet.of (own := "com/example/zspan/zspan/PrefixWalk$Bytes") (name := "<init>") (desc := "([I[B[B)V") (Ls := [.val (.ref a1), .val (.ref za), .val (.ref pa), .val (.ref ta)]) (plainFor_of_name pn_com_example_zspan_zspan_PrefixWalk_Bytes) (fun m => by first | (simp [entryFrame, mkF, argsToLocals, Value.category]; done) | rfl) ?_
  intro K hK C
  have KK : Keep h0 h0 [a1] := Keep.refl _ _
  refine w_aloadN 1 C d3_0 rfl rfl rfl ?_
  refine w_aloadN 2 C d3_1 rfl rfl rfl ?_
  refine w_callIN (y := (⟨"com/example/zspan/zspan/PrefixWalk", "<init>", "([I)V"⟩ : MethodName)) (a := a1) 5 0 [.ref za] C d3_2 rfl rfl (hw _ (List.mem_of_getElem? (i := 15) rfl)) (hw _ (List.mem_of_getElem? (i := 16) rfl)) (hw _ (List.mem_of_getElem? (i := 18) rfl)) (hw _ (List.mem_of_getElem? (i := 19) rfl)) (by decide) (rm_i1 K.l Z a0 hw [] a1 za u0 u1 u2 u3 u4 h0 n0 hz E_a1 g_a1 F_z_a1 F_pattern_a1 F_text_a1 F_left_a1 F_right_a1) pd_aI_to_V rfl (rest := []) rfl rfl (Nat.le_of_eq rfl) (by decide) (by decide) (by decide) (by decide) ?_
  rintro v1 hC ⟨rfl, K1, E_a1, F_z_a1, F_pattern_a1, F_text_a1, F_left_a1, F_right_a1⟩
  show Go K hC 0 0 5 [.val (.ref a1), .val (.ref za), .val (.ref pa), .val (.ref ta)] []
  replace hz := Nat.le_trans hz K1.1
  replace KK := KK.trans K1 (allS (Or.inl (by simp)) all0)
  refine w_aloadN 6 C d3_5 rfl rfl rfl ?_
  refine w_aloadN 7 C d3_6 rfl rfl rfl ?_
  refine w_putF (host := "") (ty := (.array .byte)) 10 C F_pattern_a1 E_a1 g_a1 d3_7 rfl (Or.inl (hw _ (List.mem_of_getElem? (i := 25) rfl))) Via.refl (Or.inr ⟨(hw _ (List.mem_of_getElem? (i := 26) rfl)), rfl, rfl⟩) (hw _ (List.mem_of_getElem? (i := 10) rfl)) (by decide) rfl rfl ?_
  intro h2 K_h2 W_h2 Fn_ En_
  replace F_z_a1 := F_z_a1.other W_h2 (Or.inr (slot_ne (Or.inr (hw _ (List.mem_of_getElem? (i := 24) rfl))) (Or.inr (hw _ (List.mem_of_getElem? (i := 26) rfl))) (by decide) (t := (.array .int)) (t' := (.array .byte)) (by decide) (by decide)))
  replace F_text_a1 := F_text_a1.other W_h2 (Or.inr (slot_ne (Or.inr (hw _ (List.mem_of_getElem? (i := 28) rfl))) (Or.inr (hw _ (List.mem_of_getElem? (i := 26) rfl))) (by decide) (t := (.array .byte)) (t' := (.array .byte)) (by decide) (by decide)))
  replace F_left_a1 := F_left_a1.other W_h2 (Or.inr (slot_ne (Or.inl (hw _ (List.mem_of_getElem? (i := 46) rfl))) (Or.inr (hw _ (List.mem_of_getElem? (i := 26) rfl))) (by decide) (t := .int) (t' := (.array .byte)) (by decide) (by decide)))
  replace F_right_a1 := F_right_a1.other W_h2 (Or.inr (slot_ne (Or.inl (hw _ (List.mem_of_getElem? (i := 43) rfl))) (Or.inr (hw _ (List.mem_of_getElem? (i := 26) rfl))) (by decide) (t := .int) (t' := (.array .byte)) (by decide) (by decide)))
  replace F_pattern_a1 := Fn_
  replace E_a1 := En_
  replace hz := Nat.le_trans hz K_h2.1
  replace KK := KK.trans K_h2 (allS (Or.inl (by simp)) all0)
  refine w_aloadN 11 C d3_10 rfl rfl rfl ?_
  refine w_aloadN 12 C d3_11 rfl rfl rfl ?_
  refine w_putF (host := "") (ty := (.array .byte)) 15 C F_text_a1 E_a1 g_a1 d3_12 rfl (Or.inl (hw _ (List.mem_of_getElem? (i := 27) rfl))) Via.refl (Or.inr ⟨(hw _ (List.mem_of_getElem? (i := 28) rfl)), rfl, rfl⟩) (hw _ (List.mem_of_getElem? (i := 10) rfl)) (by decide) rfl rfl ?_
  intro h3 K_h3 W_h3 Fn_ En_
  replace F_z_a1 := F_z_a1.other W_h3 (Or.inr (slot_ne (Or.inr (hw _ (List.mem_of_getElem? (i := 24) rfl))) (Or.inr (hw _ (List.mem_of_getElem? (i := 28) rfl))) (by decide) (t := (.array .int)) (t' := (.array .byte)) (by decide) (by decide)))
  replace F_pattern_a1 := F_pattern_a1.other W_h3 (Or.inr (slot_ne (Or.inr (hw _ (List.mem_of_getElem? (i := 26) rfl))) (Or.inr (hw _ (List.mem_of_getElem? (i := 28) rfl))) (by decide) (t := (.array .byte)) (t' := (.array .byte)) (by decide) (by decide)))
  replace F_left_a1 := F_left_a1.other W_h3 (Or.inr (slot_ne (Or.inl (hw _ (List.mem_of_getElem? (i := 46) rfl))) (Or.inr (hw _ (List.mem_of_getElem? (i := 28) rfl))) (by decide) (t := .int) (t' := (.array .byte)) (by decide) (by decide)))
  replace F_right_a1 := F_right_a1.other W_h3 (Or.inr (slot_ne (Or.inl (hw _ (List.mem_of_getElem? (i := 43) rfl))) (Or.inr (hw _ (List.mem_of_getElem? (i := 28) rfl))) (by decide) (t := .int) (t' := (.array .byte)) (by decide) (by decide)))
  replace F_text_a1 := Fn_
  replace E_a1 := En_
  replace hz := Nat.le_trans hz K_h3.1
  replace KK := KK.trans K_h3 (allS (Or.inl (by simp)) all0)
  refine w_ret C d3_15 (by decide) (by decide) ?_
  exact ⟨rfl, KK, E_a1, F_z_a1, F_pattern_a1, F_text_a1, F_left_a1, F_right_a1⟩
set_option maxRecDepth 65536 in
set_option maxHeartbeats 40000000 in
theorem lp {K : OwnK} {Z : State} {a0 : Array Value} (hw : ∀ d ∈ tables_1, d.before a0 Z = true) {n0 : Nat} {Post : Option Value → Heap → Prop} (C : Cx K Z "com/example/zspan/zspan/PrefixWalk$Bytes" "at" prog_6_method_2_code 4 (some .int) ({ frames := 1, cells := 0, slots := 0, locals := 15 } : Room) n0 Post) {h : Heap} {a1 pa ta : Addr} {i m : Int32} (F_pattern_a1 : Fld Z h a1 "com/example/zspan/zspan/PrefixWalk$Bytes" "pattern" "[B" (.ref pa)) (F_text_a1 : Fld Z h a1 "com/example/zspan/zspan/PrefixWalk$Bytes" "text" "[B" (.ref ta)) {ps ts : List Int32} (A_pa : Ai Z h pa .byte ps) (A_ta : Ai Z h ta .byte ts) (ni nm : Nat) (hi : i.toInt = (ni : Int)) (hm : m.toInt = (nm : Int)) (hp : nm ≤ ps.length) (ht : ni + nm ≤ ts.length) (hts : ts.length ≤ 9)
    (hx : ∀ k : Int32, k.toInt = ((own_zl nm ps (ts.drop ni) : Nat) : Int) → Go K h 0 0 73 [.val (.ref a1), .val (.int i), .val (.int m), .val (.int k)] []) :
    ∀ (d nk : Nat) (k : Int32), nm - nk = d → k.toInt = (nk : Int) → nk ≤ nm → (∀ e, e < nk → ps[e]? = (ts.drop ni)[e]?) → Go K h 0 0 45 [.val (.ref a1), .val (.int i), .val (.int m), .val (.int k)] [] := by
  intro d
  induction d with
  | zero =>
    intro nk k hd hk hkm hq
    refine w_iloadN 46 C d8_45 rfl rfl ?_
    refine w_iloadN 47 C d8_46 rfl rfl ?_
    refine w_icmpY 73 C d8_47 rfl (show m.toInt ≤ k.toInt from (by omega)) ?_
    exact hx k (by rw [own_zl_uniq nm ps (ts.drop ni) nk (by omega) (by simp; omega) (by omega) hq (fun q => absurd q (by omega))]; exact hk)
  | succ d ih =>
    intro nk k hd hk hkm hq
    obtain ⟨a, ha⟩ := own_get ps nk (by omega)
    obtain ⟨t, ht2⟩ := own_get ts (ni + nk) (by omega)
    refine w_iloadN 46 C d8_45 rfl rfl ?_
    refine w_iloadN 47 C d8_46 rfl rfl ?_
    refine w_icmpN 50 C d8_47 rfl (show ¬ (m.toInt ≤ k.toInt) from (by omega)) ?_
    refine w_aloadN 51 C d8_50 rfl rfl rfl ?_
    refine w_getF (host := "") 54 C F_pattern_a1 d8_51 rfl (Or.inl (hw _ (List.mem_of_getElem? (i := 25) rfl))) Via.refl ?_
    refine w_iloadN 55 C d8_54 rfl rfl ?_
    refine w_baload 56 (nk) a C A_pa d8_55 rfl hk ha ?_
    refine w_aloadN 57 C d8_56 rfl rfl rfl ?_
    refine w_getF (host := "") 60 C F_text_a1 d8_57 rfl (Or.inl (hw _ (List.mem_of_getElem? (i := 27) rfl))) Via.refl ?_
    refine w_iloadN 61 C d8_60 rfl rfl ?_
    refine w_iloadN 62 C d8_61 rfl rfl ?_
    refine w_iadd 63 C d8_62 rfl ?_
    refine w_baload 64 (ni + nk) t C A_ta d8_63 rfl (by rw [own_iadd, hi, hk]; omega) ht2 ?_
    refine w_icmp 73 67 C d8_64 rfl rfl (fun (hc64 : ¬ (a = t)) => ?_) (fun (hc64 : ¬ (¬ (a = t))) => ?_)
    · exact hx k (by rw [own_zl_uniq nm ps (ts.drop ni) nk (by omega) (by simp; omega) (by omega) hq (fun _ => by rw [List.getElem?_drop, ha, ht2]; exact fun g => hc64 (Option.some.inj g))]; exact hk)
    · refine w_iinc (z := (k + (1 : Int32))) 70 [.val (.ref a1), .val (.int i), .val (.int m), .val (.int (k + (1 : Int32)))] C d8_67 rfl rfl rfl rfl ?_
      refine w_goto 45 C d8_70 rfl ?_
      refine ih (nk + 1) _ (by omega) ?_ (by omega) ?_
      · rw [own_iadd, hk, show (1 : Int32).toInt = 1 from by decide]; omega
      · intro e he
        by_cases q : e = nk
        · subst q; rw [List.getElem?_drop, ha, ht2, Classical.not_not.mp hc64]
        · exact hq e (by omega)
set_option maxRecDepth 65536 in
set_option maxHeartbeats 40000000 in
theorem rm_at (l : Launch) (Z : State) (a0 : Array Value) (hw : ∀ d ∈ tables_1, d.before a0 Z = true) (ws : List Jvm.Cond) (a1 za pa ta : Addr) (le ri i m : Int32) (ps ts zs : List Int32) (h0 : Heap) (n0 : Nat) (hz : n0 ≤ h0.size) (E_a1 : Exa Z h0 a1 "com/example/zspan/zspan/PrefixWalk$Bytes") (g_a1 : n0 ≤ a1) (F_z_a1 : Fld Z h0 a1 "com/example/zspan/zspan/PrefixWalk" "z" "[I" (.ref za)) (F_pattern_a1 : Fld Z h0 a1 "com/example/zspan/zspan/PrefixWalk$Bytes" "pattern" "[B" (.ref pa)) (F_text_a1 : Fld Z h0 a1 "com/example/zspan/zspan/PrefixWalk$Bytes" "text" "[B" (.ref ta)) (F_left_a1 : Fld Z h0 a1 "com/example/zspan/zspan/PrefixWalk" "left" "I" (.int le)) (F_right_a1 : Fld Z h0 a1 "com/example/zspan/zspan/PrefixWalk" "right" "I" (.int ri)) (A_za : Ai Z h0 za .int zs) (A_pa : Ai Z h0 pa .byte ps) (A_ta : Ai Z h0 ta .byte ts) (ne1 : za ≠ a1) (ne2 : pa ≠ a1) (ne3 : ta ≠ a1) (n : Nat) (nl nr ni nm : Nat) (hle : le.toInt = (nl : Int)) (hri : ri.toInt = (nr : Int)) (hi : i.toInt = (ni : Int)) (hm : m.toInt = (nm : Int)) (IV : own_inv n ps ts nl nr) (hn : n ≤ ps.length) (hli : nl ≤ ni) (hit : ni ≤ ts.length) (hmx : nm = min n (ts.length - ni)) (hts : ts.length ≤ 9) (hzs : ∀ j, j < n → ∃ q : Int32, zs[j]? = some q ∧ q.toInt = ((own_zl (n - j) ps (ps.drop j) : Nat) : Int)) :
    OwnMet l (⟨"com/example/zspan/zspan/PrefixWalk$Bytes", "at", "(II)I"⟩ : MethodName) prog_6_method_2_code 4 (some .int) ws ({ frames := 1, cells := 0, slots := 0, locals := 15 } : Room) Z h0 n0 #[.ref a1, .int i, .int m] (fun v h => (∃ k : Int32, v = some (.int k) ∧ k.toInt = ((own_zl nm ps (ts.drop ni) : Nat) : Int)) ∧ Keep h0 h [a1] ∧ Exa Z h a1 "com/example/zspan/zspan/PrefixWalk$Bytes" ∧ (∃ (le2 ri2 : Int32) (nl2 nr2 : Nat), le2.toInt = (nl2 : Int) ∧ ri2.toInt = (nr2 : Int) ∧ own_inv n ps ts nl2 nr2 ∧ nl2 ≤ ni ∧ Fld Z h a1 "com/example/zspan/zspan/PrefixWalk" "z" "[I" (.ref za) ∧ Fld Z h a1 "com/example/zspan/zspan/PrefixWalk$Bytes" "pattern" "[B" (.ref pa) ∧ Fld Z h a1 "com/example/zspan/zspan/PrefixWalk$Bytes" "text" "[B" (.ref ta) ∧ Fld Z h a1 "com/example/zspan/zspan/PrefixWalk" "left" "I" (.int le2) ∧ Fld Z h a1 "com/example/zspan/zspan/PrefixWalk" "right" "I" (.int ri2))) := by
  refine OwnMet.of (own := "com/example/zspan/zspan/PrefixWalk$Bytes") (name := "at") (desc := "(II)I") (Ls := [.val (.ref a1), .val (.int i), .val (.int m), .unset]) (plainFor_of_name pn_com_example_zspan_zspan_PrefixWalk_Bytes) (fun m => by first | (simp [entryFrame, mkF, argsToLocals, Value.category]; done) | rfl) ?_
  intro K hK C
  have KK : Keep h0 h0 [a1] := Keep.refl _ _
  have hIV := IV
  obtain ⟨v1, v2, v3, v4⟩ := hIV
  have hlcle := own_zl_le nm ps (ts.drop ni)
  refine w_iloadN 1 C d8_0 rfl rfl ?_
  refine w_aloadN 2 C d8_1 rfl rfl rfl ?_
  refine w_getF (host := "") 5 C F_right_a1 d8_2 rfl (Or.inl (hw _ (List.mem_of_getElem? (i := 41) rfl))) (Via.of (hw _ (List.mem_of_getElem? (i := 42) rfl))) ?_
  suffices J_33 : ∀ (k : Int32) (nk : Nat), (k.toInt = (nk : Int)) → (nk ≤ nm) → (∀ e, e < nk → ps[e]? = (ts.drop ni)[e]?) → (ni + nk < nr → own_zl nm ps (ts.drop ni) = nk) → Go K h0 0 0 33 [.val (.ref a1), .val (.int i), .val (.int m), .val (.int k)] [] by
    refine w_icmp 31 8 C d8_5 rfl rfl (fun (hc5 : ri.toInt ≤ i.toInt) => ?_) (fun (hc5 : ¬ (ri.toInt ≤ i.toInt)) => ?_)
    · refine w_iconst 32 (0 : Int32) C d8_31 rfl rfl ?_
      refine w_istoreN 33 [.val (.ref a1), .val (.int i), .val (.int m), .val (.int (0 : Int32))] C d8_32 rfl rfl ?_
      exact J_33 (0 : Int32) 0 (by decide) (by omega) (fun e he => absurd he (by omega)) (fun q => absurd q (by omega))
    · refine w_aloadN 9 C d8_8 rfl rfl rfl ?_
      refine w_getF (host := "") 12 C F_z_a1 d8_9 rfl (Or.inl (hw _ (List.mem_of_getElem? (i := 47) rfl))) (Via.of (hw _ (List.mem_of_getElem? (i := 48) rfl))) ?_
      refine w_iloadN 13 C d8_12 rfl rfl ?_
      refine w_aloadN 14 C d8_13 rfl rfl rfl ?_
      refine w_getF (host := "") 17 C F_left_a1 d8_14 rfl (Or.inl (hw _ (List.mem_of_getElem? (i := 44) rfl))) (Via.of (hw _ (List.mem_of_getElem? (i := 45) rfl))) ?_
      refine w_isub 18 C d8_17 rfl ?_
      obtain ⟨q, hq1, hq2⟩ := hzs (ni - nl) (by omega)
      refine w_iaload 19 (ni - nl) q C A_za d8_18 rfl (by rw [own_isub, hi, hle]; omega) hq1 ?_
      refine w_aloadN 20 C d8_19 rfl rfl rfl ?_
      refine w_getF (host := "") 23 C F_right_a1 d8_20 rfl (Or.inl (hw _ (List.mem_of_getElem? (i := 41) rfl))) (Via.of (hw _ (List.mem_of_getElem? (i := 42) rfl))) ?_
      refine w_iloadN 24 C d8_23 rfl rfl ?_
      refine w_isub 25 C d8_24 rfl ?_
      have har : (ri - i).toInt = ((nr - ni : Nat) : Int) := by rw [own_isub, hri, hi]; omega
      refine w_callS (y := (⟨"java/lang/Math", "min", "(II)I"⟩ : MethodName)) 28 0 [.int q, .int (ri - i)] C d8_25 rfl (hw _ (List.mem_of_getElem? (i := 49) rfl)) (hw _ (List.mem_of_getElem? (i := 33) rfl)) (hw _ (List.mem_of_getElem? (i := 34) rfl)) (hw _ (List.mem_of_getElem? (i := 35) rfl)) (by decide) (rm_min K.l Z a0 hw [] q (ri - i) h0 n0 hz) pd_II_to_I rfl (rest := []) rfl rfl (Nat.le_of_eq rfl) (by decide) (by decide) (by decide) (by decide) ?_
      rintro v2 h1 ⟨⟨k, rfl, hk⟩, rfl⟩
      show Go K h0 0 0 28 [.val (.ref a1), .val (.int i), .val (.int m), .unset] [.int k]
      refine w_goto 32 C d8_28 rfl ?_
      refine w_istoreN 33 [.val (.ref a1), .val (.int i), .val (.int m), .val (.int k)] C d8_32 rfl rfl ?_
      obtain ⟨W1, W2, W3⟩ := own_in_win IV hn hli (by omega) hmx rfl
      rw [hq2, har] at hk
      refine J_33 k (min (own_zl (n - (ni - nl)) ps (ps.drop (ni - nl))) (nr - ni)) (by rw [hk]; omega) W2 W1 (fun q => ?_)
      rw [W3 (by omega)]; omega
  intro k nk hk hkm hkq hkr
  refine w_iloadN 34 C d8_33 rfl rfl ?_
  refine w_iloadN 35 C d8_34 rfl rfl ?_
  refine w_iadd 36 C d8_35 rfl ?_
  refine w_aloadN 37 C d8_36 rfl rfl rfl ?_
  refine w_getF (host := "") 40 C F_right_a1 d8_37 rfl (Or.inl (hw _ (List.mem_of_getElem? (i := 41) rfl))) (Via.of (hw _ (List.mem_of_getElem? (i := 42) rfl))) ?_
  have hik : (i + k).toInt = ((ni + nk : Nat) : Int) := by rw [own_iadd, hi, hk]; omega
  refine w_icmp 45 43 C d8_40 rfl rfl (fun (hc40 : ri.toInt ≤ (i + k).toInt) => ?_) (fun (hc40 : ¬ (ri.toInt ≤ (i + k).toInt)) => ?_)
  · refine lp hw C F_pattern_a1 F_text_a1 A_pa A_ta ni nm hi hm (by omega) (by omega) hts ?_ _ nk k rfl hk hkm hkq
    intro k2 hk2
    show Go K h0 0 0 73 [.val (.ref a1), .val (.int i), .val (.int m), .val (.int k2)] []
    refine w_iloadN 74 C d8_73 rfl rfl ?_
    refine w_iloadN 75 C d8_74 rfl rfl ?_
    refine w_iadd 76 C d8_75 rfl ?_
    refine w_aloadN 77 C d8_76 rfl rfl rfl ?_
    refine w_getF (host := "") 80 C F_right_a1 d8_77 rfl (Or.inl (hw _ (List.mem_of_getElem? (i := 41) rfl))) (Via.of (hw _ (List.mem_of_getElem? (i := 42) rfl))) ?_
    have hik2 : (i + k2).toInt = ((ni + own_zl nm ps (ts.drop ni) : Nat) : Int) := by rw [own_iadd, hi, hk2]; omega
    refine w_icmp 95 83 C d8_80 rfl rfl (fun (hc80 : (i + k2).toInt ≤ ri.toInt) => ?_) (fun (hc80 : ¬ ((i + k2).toInt ≤ ri.toInt)) => ?_)
    · refine w_iloadN 96 C d8_95 rfl rfl ?_
      refine w_retI C d8_96 (by decide) (by decide) ?_
      exact ⟨⟨_, rfl, hk2⟩, KK, E_a1, le, ri, nl, nr, hle, hri, IV, hli, F_z_a1, F_pattern_a1, F_text_a1, F_left_a1, F_right_a1⟩
    · refine w_aloadN 84 C d8_83 rfl rfl rfl ?_
      refine w_iloadN 85 C d8_84 rfl rfl ?_
      refine w_putF (host := "") (ty := .int) 88 C F_left_a1 E_a1 g_a1 d8_85 rfl (Or.inl (hw _ (List.mem_of_getElem? (i := 44) rfl))) (Via.of (hw _ (List.mem_of_getElem? (i := 45) rfl))) (Or.inl (hw _ (List.mem_of_getElem? (i := 46) rfl))) (hw _ (List.mem_of_getElem? (i := 10) rfl)) (by decide) rfl rfl ?_
      intro h3 K_h3 W_h3 Fn_ En_
      replace F_z_a1 := F_z_a1.other W_h3 (Or.inr (slot_ne (Or.inr (hw _ (List.mem_of_getElem? (i := 24) rfl))) (Or.inl (hw _ (List.mem_of_getElem? (i := 46) rfl))) (by decide) (t := (.array .int)) (t' := .int) (by decide) (by decide)))
      replace F_pattern_a1 := F_pattern_a1.other W_h3 (Or.inr (slot_ne (Or.inr (hw _ (List.mem_of_getElem? (i := 26) rfl))) (Or.inl (hw _ (List.mem_of_getElem? (i := 46) rfl))) (by decide) (t := (.array .byte)) (t' := .int) (by decide) (by decide)))
      replace F_text_a1 := F_text_a1.other W_h3 (Or.inr (slot_ne (Or.inr (hw _ (List.mem_of_getElem? (i := 28) rfl))) (Or.inl (hw _ (List.mem_of_getElem? (i := 46) rfl))) (by decide) (t := (.array .byte)) (t' := .int) (by decide) (by decide)))
      replace F_right_a1 := F_right_a1.other W_h3 (Or.inr (slot_ne (Or.inl (hw _ (List.mem_of_getElem? (i := 43) rfl))) (Or.inl (hw _ (List.mem_of_getElem? (i := 46) rfl))) (by decide) (t := .int) (t' := .int) (by decide) (by decide)))
      replace F_left_a1 := Fn_
      replace E_a1 := En_
      replace A_za := A_za.keep K_h3 (ninS ne1 nin0)
      replace A_pa := A_pa.keep K_h3 (ninS ne2 nin0)
      replace A_ta := A_ta.keep K_h3 (ninS ne3 nin0)
      replace hz := Nat.le_trans hz K_h3.1
      replace KK := KK.trans K_h3 (allS (Or.inl (by simp)) all0)
      refine w_aloadN 89 C d8_88 rfl rfl rfl ?_
      refine w_iloadN 90 C d8_89 rfl rfl ?_
      refine w_iloadN 91 C d8_90 rfl rfl ?_
      refine w_iadd 92 C d8_91 rfl ?_
      refine w_putF (host := "") (ty := .int) 95 C F_right_a1 E_a1 g_a1 d8_92 rfl (Or.inl (hw _ (List.mem_of_getElem? (i := 41) rfl))) (Via.of (hw _ (List.mem_of_getElem? (i := 42) rfl))) (Or.inl (hw _ (List.mem_of_getElem? (i := 43) rfl))) (hw _ (List.mem_of_getElem? (i := 10) rfl)) (by decide) rfl rfl ?_
      intro h4 K_h4 W_h4 Fn_ En_
      replace F_z_a1 := F_z_a1.other W_h4 (Or.inr (slot_ne (Or.inr (hw _ (List.mem_of_getElem? (i := 24) rfl))) (Or.inl (hw _ (List.mem_of_getElem? (i := 43) rfl))) (by decide) (t := (.array .int)) (t' := .int) (by decide) (by decide)))
      replace F_pattern_a1 := F_pattern_a1.other W_h4 (Or.inr (slot_ne (Or.inr (hw _ (List.mem_of_getElem? (i := 26) rfl))) (Or.inl (hw _ (List.mem_of_getElem? (i := 43) rfl))) (by decide) (t := (.array .byte)) (t' := .int) (by decide) (by decide)))
      replace F_text_a1 := F_text_a1.other W_h4 (Or.inr (slot_ne (Or.inr (hw _ (List.mem_of_getElem? (i := 28) rfl))) (Or.inl (hw _ (List.mem_of_getElem? (i := 43) rfl))) (by decide) (t := (.array .byte)) (t' := .int) (by decide) (by decide)))
      replace F_left_a1 := F_left_a1.other W_h4 (Or.inr (slot_ne (Or.inl (hw _ (List.mem_of_getElem? (i := 46) rfl))) (Or.inl (hw _ (List.mem_of_getElem? (i := 43) rfl))) (by decide) (t := .int) (t' := .int) (by decide) (by decide)))
      replace F_right_a1 := Fn_
      replace E_a1 := En_
      replace A_za := A_za.keep K_h4 (ninS ne1 nin0)
      replace A_pa := A_pa.keep K_h4 (ninS ne2 nin0)
      replace A_ta := A_ta.keep K_h4 (ninS ne3 nin0)
      replace hz := Nat.le_trans hz K_h4.1
      replace KK := KK.trans K_h4 (allS (Or.inl (by simp)) all0)
      refine w_iloadN 96 C d8_95 rfl rfl ?_
      refine w_retI C d8_96 (by decide) (by decide) ?_
      exact ⟨⟨_, rfl, hk2⟩, KK, E_a1, i, _, ni, _, hi, hik2, ⟨by omega, by omega, by omega, fun e he => by rw [own_zl_eq nm ps (ts.drop ni) (by omega) (by simp; omega) e (by omega), List.getElem?_drop]⟩, Nat.le_refl _, F_z_a1, F_pattern_a1, F_text_a1, F_left_a1, F_right_a1⟩
  · refine w_iloadN 44 C d8_43 rfl rfl ?_
    refine w_retI C d8_44 (by decide) (by decide) ?_
    exact ⟨⟨_, rfl, by rw [hkr (by omega)]; exact hk⟩, KK, E_a1, le, ri, nl, nr, hle, hri, IV, hli, F_z_a1, F_pattern_a1, F_text_a1, F_left_a1, F_right_a1⟩
set_option maxRecDepth 65536 in
set_option maxHeartbeats 40000000 in
theorem rm_step (l : Launch) (Z : State) (a0 : Array Value) (hw : ∀ d ∈ tables_1, d.before a0 Z = true) (ws : List Jvm.Cond) (a1 za pa ta : Addr) (le ri i sk nq : Int32) (ps ts zs : List Int32) (h0 : Heap) (n0 : Nat) (hz : n0 ≤ h0.size) (E_a1 : Exa Z h0 a1 "com/example/zspan/zspan/PrefixWalk$Bytes") (g_a1 : n0 ≤ a1) (F_z_a1 : Fld Z h0 a1 "com/example/zspan/zspan/PrefixWalk" "z" "[I" (.ref za)) (F_pattern_a1 : Fld Z h0 a1 "com/example/zspan/zspan/PrefixWalk$Bytes" "pattern" "[B" (.ref pa)) (F_text_a1 : Fld Z h0 a1 "com/example/zspan/zspan/PrefixWalk$Bytes" "text" "[B" (.ref ta)) (F_left_a1 : Fld Z h0 a1 "com/example/zspan/zspan/PrefixWalk" "left" "I" (.int le)) (F_right_a1 : Fld Z h0 a1 "com/example/zspan/zspan/PrefixWalk" "right" "I" (.int ri)) (A_za : Ai Z h0 za .int zs) (A_pa : Ai Z h0 pa .byte ps) (A_ta : Ai Z h0 ta .byte ts) (ne1 : za ≠ a1) (ne2 : pa ≠ a1) (ne3 : ta ≠ a1) (n : Nat) (nl nr ni : Nat) (hle : le.toInt = (nl : Int)) (hri : ri.toInt = (nr : Int)) (hi : i.toInt = (ni : Int)) (IV : own_inv n ps ts nl nr) (hn : n ≤ ps.length) (hps : ps.length = 4) (hli : nl ≤ ni) (hit : ni < ts.length) (hts : ts.length = 7) (hzs : ∀ j, j < n → ∃ q : Int32, zs[j]? = some q ∧ q.toInt = ((own_zl (n - j) ps (ps.drop j) : Nat) : Int)) (hnn : nq.toInt = (n : Int)) :
    OwnMet l (⟨"com/example/zspan/zspan/BytesAtPinLaw", "step", "(Lcom/example/zspan/zspan/PrefixWalk$Bytes;[B[BIII)Z"⟩ : MethodName) method_4_code 7 (some .boolean) ws ({ frames := 2, cells := 0, slots := 0, locals := 34 } : Room) Z h0 n0 #[.ref a1, .ref pa, .ref ta, .int nq, .int i, .int sk] (fun v h => v = some (.int 1) ∧ Keep h0 h [a1] ∧ Exa Z h a1 "com/example/zspan/zspan/PrefixWalk$Bytes" ∧ (∃ (le2 ri2 : Int32) (nl2 nr2 : Nat), le2.toInt = (nl2 : Int) ∧ ri2.toInt = (nr2 : Int) ∧ own_inv n ps ts nl2 nr2 ∧ nl2 ≤ ni ∧ Fld Z h a1 "com/example/zspan/zspan/PrefixWalk" "z" "[I" (.ref za) ∧ Fld Z h a1 "com/example/zspan/zspan/PrefixWalk$Bytes" "pattern" "[B" (.ref pa) ∧ Fld Z h a1 "com/example/zspan/zspan/PrefixWalk$Bytes" "text" "[B" (.ref ta) ∧ Fld Z h a1 "com/example/zspan/zspan/PrefixWalk" "left" "I" (.int le2) ∧ Fld Z h a1 "com/example/zspan/zspan/PrefixWalk" "right" "I" (.int ri2))) := by
  refine OwnMet.of (own := "com/example/zspan/zspan/BytesAtPinLaw") (name := "step") (desc := "(Lcom/example/zspan/zspan/PrefixWalk$Bytes;[B[BIII)Z") (Ls := [.val (.ref a1), .val (.ref pa), .val (.ref ta), .val (.int nq), .val (.int i), .val (.int sk), .unset]) (plainFor_of_name pn_com_example_zspan_zspan_BytesAtPinLaw) (fun m => by first | (simp [entryFrame, mkF, argsToLocals, Value.category]; done) | rfl) ?_
  intro K hK C
  refine w_iload 2 C d6_0 rfl rfl ?_
  refine w_iload 4 C d6_2 rfl rfl ?_
  refine w_ishr 5 C d6_4 rfl ?_
  refine w_iconst 6 (1 : Int32) C d6_5 rfl rfl ?_
  refine w_iand 7 C d6_6 rfl ?_
  refine w_if 12 10 C d6_7 rfl rfl (fun (hc7 : ¬ (((sk >>> (i &&& 31)) &&& (1 : Int32)) = (0 : Int32))) => ?_) (fun (hc7 : ¬ (¬ (((sk >>> (i &&& 31)) &&& (1 : Int32)) = (0 : Int32)))) => ?_)
  · refine w_iloadN 13 C d6_12 rfl rfl ?_
    refine w_bipush 15 (7 : Int32) C d6_13 rfl rfl ?_
    refine w_iload 17 C d6_15 rfl rfl ?_
    refine w_isub 18 C d6_17 rfl ?_
    have hy : ((7 : Int32) - i).toInt = ((ts.length - ni : Nat) : Int) := by rw [own_isub, hi, show (7 : Int32).toInt = 7 from by decide]; omega
    refine w_callS (y := (⟨"java/lang/Math", "min", "(II)I"⟩ : MethodName)) 21 0 [.int nq, .int ((7 : Int32) - i)] C d6_18 rfl (hw _ (List.mem_of_getElem? (i := 32) rfl)) (hw _ (List.mem_of_getElem? (i := 33) rfl)) (hw _ (List.mem_of_getElem? (i := 34) rfl)) (hw _ (List.mem_of_getElem? (i := 35) rfl)) (by decide) (rm_min K.l Z a0 hw [] nq ((7 : Int32) - i) h0 n0 hz) pd_II_to_I rfl (rest := []) rfl rfl (Nat.le_of_eq rfl) (by decide) (by decide) (by decide) (by decide) ?_
    rintro v2 h1 ⟨⟨m, rfl, hm0⟩, rfl⟩
    show Go K h0 0 0 21 [.val (.ref a1), .val (.ref pa), .val (.ref ta), .val (.int nq), .val (.int i), .val (.int sk), .unset] [.int m]
    have hm : m.toInt = ((min n (ts.length - ni) : Nat) : Int) := by rw [hm0, hnn, hy]; omega
    refine w_istore 23 [.val (.ref a1), .val (.ref pa), .val (.ref ta), .val (.int nq), .val (.int i), .val (.int sk), .val (.int m)] C d6_21 rfl rfl ?_
    refine w_aloadN 24 C d6_23 rfl rfl rfl ?_
    refine w_iload 26 C d6_24 rfl rfl ?_
    refine w_iload 28 C d6_26 rfl rfl ?_
    refine w_callV (y := (⟨"com/example/zspan/zspan/PrefixWalk$Bytes", "at", "(II)I"⟩ : MethodName)) (a := a1) 31 0 [.int i, .int m] C E_a1 d6_28 rfl (hw _ (List.mem_of_getElem? (i := 36) rfl)) (hw _ (List.mem_of_getElem? (i := 37) rfl)) (hw _ (List.mem_of_getElem? (i := 39) rfl)) (hw _ (List.mem_of_getElem? (i := 38) rfl)) (hw _ (List.mem_of_getElem? (i := 11) rfl)) (hw _ (List.mem_of_getElem? (i := 40) rfl)) (by decide) (rm_at K.l Z a0 hw [] a1 za pa ta le ri i m ps ts zs h0 n0 hz E_a1 g_a1 F_z_a1 F_pattern_a1 F_text_a1 F_left_a1 F_right_a1 A_za A_pa A_ta ne1 ne2 ne3 n nl nr ni _ hle hri hi hm IV hn hli (by omega) rfl (by omega) hzs) pd_II_to_I rfl (rest := []) rfl rfl (Nat.le_of_eq rfl) (by decide) (by decide) (by decide) (by decide) ?_
    rintro v3 hD ⟨⟨k, rfl, hk⟩, K1, E_a1, le2, ri2, nl2, nr2, hle2, hri2, IV2, hli2, F_z_a1, F_pattern_a1, F_text_a1, F_left_a1, F_right_a1⟩
    show Go K hD 0 0 31 [.val (.ref a1), .val (.ref pa), .val (.ref ta), .val (.int nq), .val (.int i), .val (.int sk), .val (.int m)] [.int k]
    replace hz := Nat.le_trans hz K1.1
    replace A_pa := A_pa.keep K1 (ninS ne2 nin0)
    replace A_ta := A_ta.keep K1 (ninS ne3 nin0)
    refine w_aloadN 32 C d6_31 rfl rfl rfl ?_
    refine w_iconst 33 (0 : Int32) C d6_32 rfl rfl ?_
    refine w_aloadN 34 C d6_33 rfl rfl rfl ?_
    refine w_iload 36 C d6_34 rfl rfl ?_
    refine w_iload 38 C d6_36 rfl rfl ?_
    refine w_callS (y := (⟨"com/example/zspan/zspan/BytesAtPinLaw", "lcp", "([BI[BII)I"⟩ : MethodName)) 41 1 [.ref pa, .int (0 : Int32), .ref ta, .int i, .int m] C d6_38 rfl (hw _ (List.mem_of_getElem? (i := 6) rfl)) (hw _ (List.mem_of_getElem? (i := 7) rfl)) (hw _ (List.mem_of_getElem? (i := 3) rfl)) (hw _ (List.mem_of_getElem? (i := 8) rfl)) (by decide) (rm_lcp K.l Z a0 hw [] pa ta i m ps ts ni (min n (ts.length - ni)) hD n0 hz A_pa A_ta hi (by rw [hm]; exact Int.toNat_natCast _) (by omega) (by omega) (by omega) (by omega)) pd_aBIaBII_to_I rfl (rest := [.int k]) rfl rfl (Nat.le_of_eq rfl) (by decide) (by decide) (by decide) (by decide) ?_
    rintro v5 h4 ⟨⟨k2, rfl, hk2⟩, rfl⟩
    show Go K hD 0 0 41 [.val (.ref a1), .val (.ref pa), .val (.ref ta), .val (.int nq), .val (.int i), .val (.int sk), .val (.int m)] [.int k2, .int k]
    refine w_icmpN 44 C d6_41 rfl (show ¬ (¬ (k = k2)) from (fun q => q (own_eq (hk.trans hk2.symm)))) ?_
    refine w_iconst 45 (1 : Int32) C d6_44 rfl rfl ?_
    refine w_goto 49 C d6_45 rfl ?_
    refine w_retN C (by simp) d6_49 rfl (by decide) (by decide) ?_
    exact ⟨rfl, K1, E_a1, le2, ri2, nl2, nr2, hle2, hri2, IV2, hli2, F_z_a1, F_pattern_a1, F_text_a1, F_left_a1, F_right_a1⟩
  · refine w_iconst 11 (1 : Int32) C d6_10 rfl rfl ?_
    refine w_retN C (by simp) d6_11 rfl (by decide) (by decide) ?_
    exact ⟨rfl, Keep.refl _ _, E_a1, le, ri, nl, nr, hle, hri, IV, hli, F_z_a1, F_pattern_a1, F_text_a1, F_left_a1, F_right_a1⟩
set_option maxRecDepth 65536 in
set_option maxHeartbeats 40000000 in
theorem rm0 (l : Launch) (Z : State) (a0 : Array Value) (hw : ∀ d ∈ tables_1, d.before a0 Z = true) (ws : List Jvm.Cond) (p0 p1 p2 p3 : Int32) (h0 : Heap) (n0 : Nat) (hz : n0 ≤ h0.size) :
    OwnMet l x code maxLocals ret ws room_1 Z h0 n0 #[.int p0, .int p1, .int p2, .int p3] (fun v h => v = some (.int 1)) := by
  refine OwnMet.of (own := "com/example/zspan/zspan/BytesAtPinLaw") (name := "law") (desc := "(IIII)Z") (Ls := [.val (.int p0), .val (.int p1), .val (.int p2), .val (.int p3), .unset, .unset, .unset, .unset, .unset, .unset, .unset]) (plainFor_of_name pn_com_example_zspan_zspan_BytesAtPinLaw) (fun m => by first | (simp [entryFrame, mkF, argsToLocals, Value.category, maxLocals]; done) | rfl) ?_
  intro K hK C
  refine w_iloadN 1 C at_0 rfl rfl ?_
  refine w_i2b 2 C at_1 rfl ?_
  refine w_istore 4 [.val (.int p0), .val (.int p1), .val (.int p2), .val (.int p3), .val (.int (p3.toInt8.toInt32)), .unset, .unset, .unset, .unset, .unset, .unset] C at_2 rfl rfl ?_
  generalize hv_x1 : (p3.toInt8.toInt32) = x1
  refine w_iloadN 5 C at_4 rfl rfl ?_
  refine w_bipush 7 (8 : Int32) C at_5 rfl rfl ?_
  refine w_ishr 8 C at_7 rfl ?_
  refine w_i2b 9 C at_8 rfl ?_
  refine w_istore 11 [.val (.int p0), .val (.int p1), .val (.int p2), .val (.int p3), .val (.int x1), .val (.int ((p3 >>> ((8 : Int32) &&& 31)).toInt8.toInt32)), .unset, .unset, .unset, .unset, .unset] C at_9 rfl rfl ?_
  generalize hv_x2 : ((p3 >>> ((8 : Int32) &&& 31)).toInt8.toInt32) = x2
  refine w_iconst 12 (1 : Int32) C at_11 rfl rfl ?_
  refine w_iloadN 13 C at_12 rfl rfl ?_
  refine w_iconst 14 (4 : Int32) C at_13 rfl rfl ?_
  refine w_ishr 15 C at_14 rfl ?_
  refine w_iconst 16 (3 : Int32) C at_15 rfl rfl ?_
  refine w_iand 17 C at_16 rfl ?_
  refine w_iadd 18 C at_17 rfl ?_
  refine w_istore 20 [.val (.int p0), .val (.int p1), .val (.int p2), .val (.int p3), .val (.int x1), .val (.int x2), .val (.int ((1 : Int32) + ((p0 >>> ((4 : Int32) &&& 31)) &&& (3 : Int32)))), .unset, .unset, .unset, .unset] C at_18 rfl rfl ?_
  generalize hv_x3 : ((1 : Int32) + ((p0 >>> ((4 : Int32) &&& 31)) &&& (3 : Int32))) = x3
  refine w_iconst 21 (4 : Int32) C at_20 rfl rfl ?_
  refine w_newarr 23 4 4 C hz at_21 rfl (hw _ (List.mem_of_getElem? (i := 0) rfl)) rfl (by decide) (by decide) (by decide) (by decide) (by decide) ?_
  intro h4 b5 X_b5 g_b5 sz0_b5 A_b5 hz_
  replace hz := hz_
  replace A_b5 : Ai Z h4 b5 .byte [(0 : Int32), (0 : Int32), (0 : Int32), (0 : Int32)] := A_b5
  show Go K h4 1 4 23 [.val (.int p0), .val (.int p1), .val (.int p2), .val (.int p3), .val (.int x1), .val (.int x2), .val (.int x3), .unset, .unset, .unset, .unset] [.ref b5]
  refine w_astore 25 [.val (.int p0), .val (.int p1), .val (.int p2), .val (.int p3), .val (.int x1), .val (.int x2), .val (.int x3), .val (.ref b5), .unset, .unset, .unset] C at_23 rfl rfl rfl ?_
  refine w_aload 27 C at_25 rfl rfl rfl ?_
  refine w_iconst 28 (0 : Int32) C at_27 rfl rfl ?_
  refine w_iloadN 29 C at_28 rfl rfl ?_
  refine w_iconst 30 (0 : Int32) C at_29 rfl rfl ?_
  refine w_iload 32 C at_30 rfl rfl ?_
  refine w_iload 34 C at_32 rfl rfl ?_
  refine w_callS (y := (⟨"com/example/zspan/zspan/BytesAtPinLaw", "pick", "(IIBB)B"⟩ : MethodName)) 37 2 [.int p0, .int (0 : Int32), .int x1, .int x2] C at_34 rfl (hw _ (List.mem_of_getElem? (i := 1) rfl)) (hw _ (List.mem_of_getElem? (i := 2) rfl)) (hw _ (List.mem_of_getElem? (i := 3) rfl)) (hw _ (List.mem_of_getElem? (i := 4) rfl)) (by decide) (rm_sym K.l Z a0 hw [] p0 (0 : Int32) x1 x2 h4 n0 hz) pd_IIBB_to_B rfl (rest := [.int (0 : Int32), .ref b5]) rfl rfl (Nat.le_of_eq rfl) (by decide) (by decide) (by decide) (by decide) ?_
  rintro v8 h7 ⟨⟨s6, rfl⟩, rfl⟩
  show Go K h4 1 4 37 [.val (.int p0), .val (.int p1), .val (.int p2), .val (.int p3), .val (.int x1), .val (.int x2), .val (.int x3), .val (.ref b5), .unset, .unset, .unset] [.int s6, .int (0 : Int32), .ref b5]
  obtain ⟨y10, hv_y10⟩ : ∃ z : Int32, s6.toInt8.toInt32 = z := ⟨_, rfl⟩
  refine w_bastore 38 0 y10 C A_b5 g_b5 at_37 rfl (by decide) (Nat.le_of_ble_eq_true rfl) hv_y10 ?_
  intro h9 K_h9 A_b5'
  replace A_b5 : Ai Z h9 b5 .byte [y10, (0 : Int32), (0 : Int32), (0 : Int32)] := A_b5'
  replace hz := Nat.le_trans hz K_h9.1
  refine w_aload 40 C at_38 rfl rfl rfl ?_
  refine w_iconst 41 (1 : Int32) C at_40 rfl rfl ?_
  refine w_iloadN 42 C at_41 rfl rfl ?_
  refine w_iconst 43 (1 : Int32) C at_42 rfl rfl ?_
  refine w_iload 45 C at_43 rfl rfl ?_
  refine w_iload 47 C at_45 rfl rfl ?_
  refine w_callS (y := (⟨"com/example/zspan/zspan/BytesAtPinLaw", "pick", "(IIBB)B"⟩ : MethodName)) 50 2 [.int p0, .int (1 : Int32), .int x1, .int x2] C at_47 rfl (hw _ (List.mem_of_getElem? (i := 1) rfl)) (hw _ (List.mem_of_getElem? (i := 2) rfl)) (hw _ (List.mem_of_getElem? (i := 3) rfl)) (hw _ (List.mem_of_getElem? (i := 4) rfl)) (by decide) (rm_sym K.l Z a0 hw [] p0 (1 : Int32) x1 x2 h9 n0 hz) pd_IIBB_to_B rfl (rest := [.int (1 : Int32), .ref b5]) rfl rfl (Nat.le_of_eq rfl) (by decide) (by decide) (by decide) (by decide) ?_
  rintro v13 h12 ⟨⟨s11, rfl⟩, rfl⟩
  show Go K h9 1 4 50 [.val (.int p0), .val (.int p1), .val (.int p2), .val (.int p3), .val (.int x1), .val (.int x2), .val (.int x3), .val (.ref b5), .unset, .unset, .unset] [.int s11, .int (1 : Int32), .ref b5]
  obtain ⟨y15, hv_y15⟩ : ∃ z : Int32, s11.toInt8.toInt32 = z := ⟨_, rfl⟩
  refine w_bastore 51 1 y15 C A_b5 g_b5 at_50 rfl (by decide) (Nat.le_of_ble_eq_true rfl) hv_y15 ?_
  intro h14 K_h14 A_b5'
  replace A_b5 : Ai Z h14 b5 .byte [y10, y15, (0 : Int32), (0 : Int32)] := A_b5'
  replace hz := Nat.le_trans hz K_h14.1
  refine w_aload 53 C at_51 rfl rfl rfl ?_
  refine w_iconst 54 (2 : Int32) C at_53 rfl rfl ?_
  refine w_iloadN 55 C at_54 rfl rfl ?_
  refine w_iconst 56 (2 : Int32) C at_55 rfl rfl ?_
  refine w_iload 58 C at_56 rfl rfl ?_
  refine w_iload 60 C at_58 rfl rfl ?_
  refine w_callS (y := (⟨"com/example/zspan/zspan/BytesAtPinLaw", "pick", "(IIBB)B"⟩ : MethodName)) 63 2 [.int p0, .int (2 : Int32), .int x1, .int x2] C at_60 rfl (hw _ (List.mem_of_getElem? (i := 1) rfl)) (hw _ (List.mem_of_getElem? (i := 2) rfl)) (hw _ (List.mem_of_getElem? (i := 3) rfl)) (hw _ (List.mem_of_getElem? (i := 4) rfl)) (by decide) (rm_sym K.l Z a0 hw [] p0 (2 : Int32) x1 x2 h14 n0 hz) pd_IIBB_to_B rfl (rest := [.int (2 : Int32), .ref b5]) rfl rfl (Nat.le_of_eq rfl) (by decide) (by decide) (by decide) (by decide) ?_
  rintro v18 h17 ⟨⟨s16, rfl⟩, rfl⟩
  show Go K h14 1 4 63 [.val (.int p0), .val (.int p1), .val (.int p2), .val (.int p3), .val (.int x1), .val (.int x2), .val (.int x3), .val (.ref b5), .unset, .unset, .unset] [.int s16, .int (2 : Int32), .ref b5]
  obtain ⟨y20, hv_y20⟩ : ∃ z : Int32, s16.toInt8.toInt32 = z := ⟨_, rfl⟩
  refine w_bastore 64 2 y20 C A_b5 g_b5 at_63 rfl (by decide) (Nat.le_of_ble_eq_true rfl) hv_y20 ?_
  intro h19 K_h19 A_b5'
  replace A_b5 : Ai Z h19 b5 .byte [y10, y15, y20, (0 : Int32)] := A_b5'
  replace hz := Nat.le_trans hz K_h19.1
  refine w_aload 66 C at_64 rfl rfl rfl ?_
  refine w_iconst 67 (3 : Int32) C at_66 rfl rfl ?_
  refine w_iloadN 68 C at_67 rfl rfl ?_
  refine w_iconst 69 (3 : Int32) C at_68 rfl rfl ?_
  refine w_iload 71 C at_69 rfl rfl ?_
  refine w_iload 73 C at_71 rfl rfl ?_
  refine w_callS (y := (⟨"com/example/zspan/zspan/BytesAtPinLaw", "pick", "(IIBB)B"⟩ : MethodName)) 76 2 [.int p0, .int (3 : Int32), .int x1, .int x2] C at_73 rfl (hw _ (List.mem_of_getElem? (i := 1) rfl)) (hw _ (List.mem_of_getElem? (i := 2) rfl)) (hw _ (List.mem_of_getElem? (i := 3) rfl)) (hw _ (List.mem_of_getElem? (i := 4) rfl)) (by decide) (rm_sym K.l Z a0 hw [] p0 (3 : Int32) x1 x2 h19 n0 hz) pd_IIBB_to_B rfl (rest := [.int (3 : Int32), .ref b5]) rfl rfl (Nat.le_of_eq rfl) (by decide) (by decide) (by decide) (by decide) ?_
  rintro v23 h22 ⟨⟨s21, rfl⟩, rfl⟩
  show Go K h19 1 4 76 [.val (.int p0), .val (.int p1), .val (.int p2), .val (.int p3), .val (.int x1), .val (.int x2), .val (.int x3), .val (.ref b5), .unset, .unset, .unset] [.int s21, .int (3 : Int32), .ref b5]
  obtain ⟨y25, hv_y25⟩ : ∃ z : Int32, s21.toInt8.toInt32 = z := ⟨_, rfl⟩
  refine w_bastore 77 3 y25 C A_b5 g_b5 at_76 rfl (by decide) (Nat.le_of_ble_eq_true rfl) hv_y25 ?_
  intro h24 K_h24 A_b5'
  replace A_b5 : Ai Z h24 b5 .byte [y10, y15, y20, y25] := A_b5'
  replace hz := Nat.le_trans hz K_h24.1
  refine w_bipush 79 (7 : Int32) C at_77 rfl rfl ?_
  refine w_newarr 81 7 7 C hz at_79 rfl (hw _ (List.mem_of_getElem? (i := 0) rfl)) rfl (by decide) (by decide) (by decide) (by decide) (by decide) ?_
  intro h26 b27 X_b27 g_b27 sz0_b27 A_b27 hz_
  replace hz := hz_
  replace A_b27 : Ai Z h26 b27 .byte [(0 : Int32), (0 : Int32), (0 : Int32), (0 : Int32), (0 : Int32), (0 : Int32), (0 : Int32)] := A_b27
  have ne_b5_b27 : b5 ≠ b27 := Nat.ne_of_lt (Nat.lt_of_lt_of_le A_b5.lt sz0_b27)
  replace A_b5 := A_b5.ext X_b27
  show Go K h26 2 11 81 [.val (.int p0), .val (.int p1), .val (.int p2), .val (.int p3), .val (.int x1), .val (.int x2), .val (.int x3), .val (.ref b5), .unset, .unset, .unset] [.ref b27]
  refine w_astore 83 [.val (.int p0), .val (.int p1), .val (.int p2), .val (.int p3), .val (.int x1), .val (.int x2), .val (.int x3), .val (.ref b5), .val (.ref b27), .unset, .unset] C at_81 rfl rfl rfl ?_
  refine w_aload 85 C at_83 rfl rfl rfl ?_
  refine w_iconst 86 (0 : Int32) C at_85 rfl rfl ?_
  refine w_iloadN 87 C at_86 rfl rfl ?_
  refine w_iconst 88 (0 : Int32) C at_87 rfl rfl ?_
  refine w_iload 90 C at_88 rfl rfl ?_
  refine w_iload 92 C at_90 rfl rfl ?_
  refine w_callS (y := (⟨"com/example/zspan/zspan/BytesAtPinLaw", "pick", "(IIBB)B"⟩ : MethodName)) 95 2 [.int p1, .int (0 : Int32), .int x1, .int x2] C at_92 rfl (hw _ (List.mem_of_getElem? (i := 1) rfl)) (hw _ (List.mem_of_getElem? (i := 2) rfl)) (hw _ (List.mem_of_getElem? (i := 3) rfl)) (hw _ (List.mem_of_getElem? (i := 4) rfl)) (by decide) (rm_sym K.l Z a0 hw [] p1 (0 : Int32) x1 x2 h26 n0 hz) pd_IIBB_to_B rfl (rest := [.int (0 : Int32), .ref b27]) rfl rfl (Nat.le_of_eq rfl) (by decide) (by decide) (by decide) (by decide) ?_
  rintro v30 h29 ⟨⟨s28, rfl⟩, rfl⟩
  show Go K h26 2 11 95 [.val (.int p0), .val (.int p1), .val (.int p2), .val (.int p3), .val (.int x1), .val (.int x2), .val (.int x3), .val (.ref b5), .val (.ref b27), .unset, .unset] [.int s28, .int (0 : Int32), .ref b27]
  obtain ⟨y32, hv_y32⟩ : ∃ z : Int32, s28.toInt8.toInt32 = z := ⟨_, rfl⟩
  refine w_bastore 96 0 y32 C A_b27 g_b27 at_95 rfl (by decide) (Nat.le_of_ble_eq_true rfl) hv_y32 ?_
  intro h31 K_h31 A_b27'
  replace A_b27 : Ai Z h31 b27 .byte [y32, (0 : Int32), (0 : Int32), (0 : Int32), (0 : Int32), (0 : Int32), (0 : Int32)] := A_b27'
  replace A_b5 := A_b5.keep K_h31 (ninS ne_b5_b27 nin0)
  replace hz := Nat.le_trans hz K_h31.1
  refine w_aload 98 C at_96 rfl rfl rfl ?_
  refine w_iconst 99 (1 : Int32) C at_98 rfl rfl ?_
  refine w_iloadN 100 C at_99 rfl rfl ?_
  refine w_iconst 101 (1 : Int32) C at_100 rfl rfl ?_
  refine w_iload 103 C at_101 rfl rfl ?_
  refine w_iload 105 C at_103 rfl rfl ?_
  refine w_callS (y := (⟨"com/example/zspan/zspan/BytesAtPinLaw", "pick", "(IIBB)B"⟩ : MethodName)) 108 2 [.int p1, .int (1 : Int32), .int x1, .int x2] C at_105 rfl (hw _ (List.mem_of_getElem? (i := 1) rfl)) (hw _ (List.mem_of_getElem? (i := 2) rfl)) (hw _ (List.mem_of_getElem? (i := 3) rfl)) (hw _ (List.mem_of_getElem? (i := 4) rfl)) (by decide) (rm_sym K.l Z a0 hw [] p1 (1 : Int32) x1 x2 h31 n0 hz) pd_IIBB_to_B rfl (rest := [.int (1 : Int32), .ref b27]) rfl rfl (Nat.le_of_eq rfl) (by decide) (by decide) (by decide) (by decide) ?_
  rintro v35 h34 ⟨⟨s33, rfl⟩, rfl⟩
  show Go K h31 2 11 108 [.val (.int p0), .val (.int p1), .val (.int p2), .val (.int p3), .val (.int x1), .val (.int x2), .val (.int x3), .val (.ref b5), .val (.ref b27), .unset, .unset] [.int s33, .int (1 : Int32), .ref b27]
  obtain ⟨y37, hv_y37⟩ : ∃ z : Int32, s33.toInt8.toInt32 = z := ⟨_, rfl⟩
  refine w_bastore 109 1 y37 C A_b27 g_b27 at_108 rfl (by decide) (Nat.le_of_ble_eq_true rfl) hv_y37 ?_
  intro h36 K_h36 A_b27'
  replace A_b27 : Ai Z h36 b27 .byte [y32, y37, (0 : Int32), (0 : Int32), (0 : Int32), (0 : Int32), (0 : Int32)] := A_b27'
  replace A_b5 := A_b5.keep K_h36 (ninS ne_b5_b27 nin0)
  replace hz := Nat.le_trans hz K_h36.1
  refine w_aload 111 C at_109 rfl rfl rfl ?_
  refine w_iconst 112 (2 : Int32) C at_111 rfl rfl ?_
  refine w_iloadN 113 C at_112 rfl rfl ?_
  refine w_iconst 114 (2 : Int32) C at_113 rfl rfl ?_
  refine w_iload 116 C at_114 rfl rfl ?_
  refine w_iload 118 C at_116 rfl rfl ?_
  refine w_callS (y := (⟨"com/example/zspan/zspan/BytesAtPinLaw", "pick", "(IIBB)B"⟩ : MethodName)) 121 2 [.int p1, .int (2 : Int32), .int x1, .int x2] C at_118 rfl (hw _ (List.mem_of_getElem? (i := 1) rfl)) (hw _ (List.mem_of_getElem? (i := 2) rfl)) (hw _ (List.mem_of_getElem? (i := 3) rfl)) (hw _ (List.mem_of_getElem? (i := 4) rfl)) (by decide) (rm_sym K.l Z a0 hw [] p1 (2 : Int32) x1 x2 h36 n0 hz) pd_IIBB_to_B rfl (rest := [.int (2 : Int32), .ref b27]) rfl rfl (Nat.le_of_eq rfl) (by decide) (by decide) (by decide) (by decide) ?_
  rintro v40 h39 ⟨⟨s38, rfl⟩, rfl⟩
  show Go K h36 2 11 121 [.val (.int p0), .val (.int p1), .val (.int p2), .val (.int p3), .val (.int x1), .val (.int x2), .val (.int x3), .val (.ref b5), .val (.ref b27), .unset, .unset] [.int s38, .int (2 : Int32), .ref b27]
  obtain ⟨y42, hv_y42⟩ : ∃ z : Int32, s38.toInt8.toInt32 = z := ⟨_, rfl⟩
  refine w_bastore 122 2 y42 C A_b27 g_b27 at_121 rfl (by decide) (Nat.le_of_ble_eq_true rfl) hv_y42 ?_
  intro h41 K_h41 A_b27'
  replace A_b27 : Ai Z h41 b27 .byte [y32, y37, y42, (0 : Int32), (0 : Int32), (0 : Int32), (0 : Int32)] := A_b27'
  replace A_b5 := A_b5.keep K_h41 (ninS ne_b5_b27 nin0)
  replace hz := Nat.le_trans hz K_h41.1
  refine w_aload 124 C at_122 rfl rfl rfl ?_
  refine w_iconst 125 (3 : Int32) C at_124 rfl rfl ?_
  refine w_iloadN 126 C at_125 rfl rfl ?_
  refine w_iconst 127 (3 : Int32) C at_126 rfl rfl ?_
  refine w_iload 129 C at_127 rfl rfl ?_
  refine w_iload 131 C at_129 rfl rfl ?_
  refine w_callS (y := (⟨"com/example/zspan/zspan/BytesAtPinLaw", "pick", "(IIBB)B"⟩ : MethodName)) 134 2 [.int p1, .int (3 : Int32), .int x1, .int x2] C at_131 rfl (hw _ (List.mem_of_getElem? (i := 1) rfl)) (hw _ (List.mem_of_getElem? (i := 2) rfl)) (hw _ (List.mem_of_getElem? (i := 3) rfl)) (hw _ (List.mem_of_getElem? (i := 4) rfl)) (by decide) (rm_sym K.l Z a0 hw [] p1 (3 : Int32) x1 x2 h41 n0 hz) pd_IIBB_to_B rfl (rest := [.int (3 : Int32), .ref b27]) rfl rfl (Nat.le_of_eq rfl) (by decide) (by decide) (by decide) (by decide) ?_
  rintro v45 h44 ⟨⟨s43, rfl⟩, rfl⟩
  show Go K h41 2 11 134 [.val (.int p0), .val (.int p1), .val (.int p2), .val (.int p3), .val (.int x1), .val (.int x2), .val (.int x3), .val (.ref b5), .val (.ref b27), .unset, .unset] [.int s43, .int (3 : Int32), .ref b27]
  obtain ⟨y47, hv_y47⟩ : ∃ z : Int32, s43.toInt8.toInt32 = z := ⟨_, rfl⟩
  refine w_bastore 135 3 y47 C A_b27 g_b27 at_134 rfl (by decide) (Nat.le_of_ble_eq_true rfl) hv_y47 ?_
  intro h46 K_h46 A_b27'
  replace A_b27 : Ai Z h46 b27 .byte [y32, y37, y42, y47, (0 : Int32), (0 : Int32), (0 : Int32)] := A_b27'
  replace A_b5 := A_b5.keep K_h46 (ninS ne_b5_b27 nin0)
  replace hz := Nat.le_trans hz K_h46.1
  refine w_aload 137 C at_135 rfl rfl rfl ?_
  refine w_iconst 138 (4 : Int32) C at_137 rfl rfl ?_
  refine w_iloadN 139 C at_138 rfl rfl ?_
  refine w_iconst 140 (4 : Int32) C at_139 rfl rfl ?_
  refine w_iload 142 C at_140 rfl rfl ?_
  refine w_iload 144 C at_142 rfl rfl ?_
  refine w_callS (y := (⟨"com/example/zspan/zspan/BytesAtPinLaw", "pick", "(IIBB)B"⟩ : MethodName)) 147 2 [.int p1, .int (4 : Int32), .int x1, .int x2] C at_144 rfl (hw _ (List.mem_of_getElem? (i := 1) rfl)) (hw _ (List.mem_of_getElem? (i := 2) rfl)) (hw _ (List.mem_of_getElem? (i := 3) rfl)) (hw _ (List.mem_of_getElem? (i := 4) rfl)) (by decide) (rm_sym K.l Z a0 hw [] p1 (4 : Int32) x1 x2 h46 n0 hz) pd_IIBB_to_B rfl (rest := [.int (4 : Int32), .ref b27]) rfl rfl (Nat.le_of_eq rfl) (by decide) (by decide) (by decide) (by decide) ?_
  rintro v50 h49 ⟨⟨s48, rfl⟩, rfl⟩
  show Go K h46 2 11 147 [.val (.int p0), .val (.int p1), .val (.int p2), .val (.int p3), .val (.int x1), .val (.int x2), .val (.int x3), .val (.ref b5), .val (.ref b27), .unset, .unset] [.int s48, .int (4 : Int32), .ref b27]
  obtain ⟨y52, hv_y52⟩ : ∃ z : Int32, s48.toInt8.toInt32 = z := ⟨_, rfl⟩
  refine w_bastore 148 4 y52 C A_b27 g_b27 at_147 rfl (by decide) (Nat.le_of_ble_eq_true rfl) hv_y52 ?_
  intro h51 K_h51 A_b27'
  replace A_b27 : Ai Z h51 b27 .byte [y32, y37, y42, y47, y52, (0 : Int32), (0 : Int32)] := A_b27'
  replace A_b5 := A_b5.keep K_h51 (ninS ne_b5_b27 nin0)
  replace hz := Nat.le_trans hz K_h51.1
  refine w_aload 150 C at_148 rfl rfl rfl ?_
  refine w_iconst 151 (5 : Int32) C at_150 rfl rfl ?_
  refine w_iloadN 152 C at_151 rfl rfl ?_
  refine w_iconst 153 (5 : Int32) C at_152 rfl rfl ?_
  refine w_iload 155 C at_153 rfl rfl ?_
  refine w_iload 157 C at_155 rfl rfl ?_
  refine w_callS (y := (⟨"com/example/zspan/zspan/BytesAtPinLaw", "pick", "(IIBB)B"⟩ : MethodName)) 160 2 [.int p1, .int (5 : Int32), .int x1, .int x2] C at_157 rfl (hw _ (List.mem_of_getElem? (i := 1) rfl)) (hw _ (List.mem_of_getElem? (i := 2) rfl)) (hw _ (List.mem_of_getElem? (i := 3) rfl)) (hw _ (List.mem_of_getElem? (i := 4) rfl)) (by decide) (rm_sym K.l Z a0 hw [] p1 (5 : Int32) x1 x2 h51 n0 hz) pd_IIBB_to_B rfl (rest := [.int (5 : Int32), .ref b27]) rfl rfl (Nat.le_of_eq rfl) (by decide) (by decide) (by decide) (by decide) ?_
  rintro v55 h54 ⟨⟨s53, rfl⟩, rfl⟩
  show Go K h51 2 11 160 [.val (.int p0), .val (.int p1), .val (.int p2), .val (.int p3), .val (.int x1), .val (.int x2), .val (.int x3), .val (.ref b5), .val (.ref b27), .unset, .unset] [.int s53, .int (5 : Int32), .ref b27]
  obtain ⟨y57, hv_y57⟩ : ∃ z : Int32, s53.toInt8.toInt32 = z := ⟨_, rfl⟩
  refine w_bastore 161 5 y57 C A_b27 g_b27 at_160 rfl (by decide) (Nat.le_of_ble_eq_true rfl) hv_y57 ?_
  intro h56 K_h56 A_b27'
  replace A_b27 : Ai Z h56 b27 .byte [y32, y37, y42, y47, y52, y57, (0 : Int32)] := A_b27'
  replace A_b5 := A_b5.keep K_h56 (ninS ne_b5_b27 nin0)
  replace hz := Nat.le_trans hz K_h56.1
  refine w_aload 163 C at_161 rfl rfl rfl ?_
  refine w_bipush 165 (6 : Int32) C at_163 rfl rfl ?_
  refine w_iloadN 166 C at_165 rfl rfl ?_
  refine w_bipush 168 (6 : Int32) C at_166 rfl rfl ?_
  refine w_iload 170 C at_168 rfl rfl ?_
  refine w_iload 172 C at_170 rfl rfl ?_
  refine w_callS (y := (⟨"com/example/zspan/zspan/BytesAtPinLaw", "pick", "(IIBB)B"⟩ : MethodName)) 175 2 [.int p1, .int (6 : Int32), .int x1, .int x2] C at_172 rfl (hw _ (List.mem_of_getElem? (i := 1) rfl)) (hw _ (List.mem_of_getElem? (i := 2) rfl)) (hw _ (List.mem_of_getElem? (i := 3) rfl)) (hw _ (List.mem_of_getElem? (i := 4) rfl)) (by decide) (rm_sym K.l Z a0 hw [] p1 (6 : Int32) x1 x2 h56 n0 hz) pd_IIBB_to_B rfl (rest := [.int (6 : Int32), .ref b27]) rfl rfl (Nat.le_of_eq rfl) (by decide) (by decide) (by decide) (by decide) ?_
  rintro v60 h59 ⟨⟨s58, rfl⟩, rfl⟩
  show Go K h56 2 11 175 [.val (.int p0), .val (.int p1), .val (.int p2), .val (.int p3), .val (.int x1), .val (.int x2), .val (.int x3), .val (.ref b5), .val (.ref b27), .unset, .unset] [.int s58, .int (6 : Int32), .ref b27]
  obtain ⟨y62, hv_y62⟩ : ∃ z : Int32, s58.toInt8.toInt32 = z := ⟨_, rfl⟩
  refine w_bastore 176 6 y62 C A_b27 g_b27 at_175 rfl (by decide) (Nat.le_of_ble_eq_true rfl) hv_y62 ?_
  intro h61 K_h61 A_b27'
  replace A_b27 : Ai Z h61 b27 .byte [y32, y37, y42, y47, y52, y57, y62] := A_b27'
  replace A_b5 := A_b5.keep K_h61 (ninS ne_b5_b27 nin0)
  replace hz := Nat.le_trans hz K_h61.1
  refine w_iconst 177 (4 : Int32) C at_176 rfl rfl ?_
  refine w_newarr 179 4 4 C hz at_177 rfl (hw _ (List.mem_of_getElem? (i := 5) rfl)) rfl (by decide) (by decide) (by decide) (by decide) (by decide) ?_
  intro h63 b64 X_b64 g_b64 sz0_b64 A_b64 hz_
  replace hz := hz_
  replace A_b64 : Ai Z h63 b64 .int [(0 : Int32), (0 : Int32), (0 : Int32), (0 : Int32)] := A_b64
  have ne_b5_b64 : b5 ≠ b64 := Nat.ne_of_lt (Nat.lt_of_lt_of_le A_b5.lt sz0_b64)
  have ne_b27_b64 : b27 ≠ b64 := Nat.ne_of_lt (Nat.lt_of_lt_of_le A_b27.lt sz0_b64)
  replace A_b5 := A_b5.ext X_b64
  replace A_b27 := A_b27.ext X_b64
  show Go K h63 3 15 179 [.val (.int p0), .val (.int p1), .val (.int p2), .val (.int p3), .val (.int x1), .val (.int x2), .val (.int x3), .val (.ref b5), .val (.ref b27), .unset, .unset] [.ref b64]
  refine w_astore 181 [.val (.int p0), .val (.int p1), .val (.int p2), .val (.int p3), .val (.int x1), .val (.int x2), .val (.int x3), .val (.ref b5), .val (.ref b27), .val (.ref b64), .unset] C at_179 rfl rfl rfl ?_
  refine w_aload 183 C at_181 rfl rfl rfl ?_
  refine w_iconst 184 (0 : Int32) C at_183 rfl rfl ?_
  refine w_iload 186 C at_184 rfl rfl ?_
  refine w_iastore 187 0 C A_b64 g_b64 at_186 rfl (by decide) (Nat.le_of_ble_eq_true rfl) ?_
  intro h65 K_h65 A_b64'
  replace A_b64 : Ai Z h65 b64 .int [x3, (0 : Int32), (0 : Int32), (0 : Int32)] := A_b64'
  replace A_b5 := A_b5.keep K_h65 (ninS ne_b5_b64 nin0)
  replace A_b27 := A_b27.keep K_h65 (ninS ne_b27_b64 nin0)
  replace hz := Nat.le_trans hz K_h65.1
  refine w_aload 189 C at_187 rfl rfl rfl ?_
  refine w_iconst 190 (1 : Int32) C at_189 rfl rfl ?_
  refine w_aload 192 C at_190 rfl rfl rfl ?_
  refine w_iconst 193 (0 : Int32) C at_192 rfl rfl ?_
  refine w_aload 195 C at_193 rfl rfl rfl ?_
  refine w_iconst 196 (1 : Int32) C at_195 rfl rfl ?_
  refine w_iload 198 C at_196 rfl rfl ?_
  refine w_iconst 199 (1 : Int32) C at_198 rfl rfl ?_
  refine w_isub 200 C at_199 rfl ?_
  obtain ⟨n, hnn, hn14⟩ : ∃ n : Nat, x3.toInt = (n : Int) ∧ 1 ≤ n ∧ n ≤ 4 := by
    have q := own_mask (p0 >>> ((4 : Int32) &&& 31)) 3 2 (by decide) (by decide)
    refine ⟨x3.toInt.toNat, ?_⟩
    rw [← hv_x3, own_iadd, show (1 : Int32).toInt = 1 from by decide]; omega
  refine w_callS (y := (⟨"com/example/zspan/zspan/BytesAtPinLaw", "lcp", "([BI[BII)I"⟩ : MethodName)) 203 2 [.ref b5, .int (0 : Int32), .ref b5, .int (1 : Int32), .int (x3 - (1 : Int32))] C at_200 rfl (hw _ (List.mem_of_getElem? (i := 6) rfl)) (hw _ (List.mem_of_getElem? (i := 7) rfl)) (hw _ (List.mem_of_getElem? (i := 3) rfl)) (hw _ (List.mem_of_getElem? (i := 8) rfl)) (by decide) (rm_lcp K.l Z a0 hw [] b5 b5 (1 : Int32) (x3 - (1 : Int32)) [y10, y15, y20, y25] [y10, y15, y20, y25] 1 (n - 1) h65 n0 hz A_b5 A_b5 (by decide) (by rw [own_isub, hnn, show (1 : Int32).toInt = 1 from by decide]; omega) (by simp; omega) (by simp; omega) (by omega) (by decide)) pd_aBIaBII_to_I rfl (rest := [.int (1 : Int32), .ref b64]) rfl rfl (Nat.le_of_eq rfl) (by decide) (by decide) (by decide) (by decide) ?_
  rintro v67 h66 ⟨⟨z1, rfl, hz1⟩, rfl⟩
  show Go K h65 3 15 203 [.val (.int p0), .val (.int p1), .val (.int p2), .val (.int p3), .val (.int x1), .val (.int x2), .val (.int x3), .val (.ref b5), .val (.ref b27), .val (.ref b64), .unset] [.int z1, .int (1 : Int32), .ref b64]
  refine w_iastore 204 1 C A_b64 g_b64 at_203 rfl (by decide) (Nat.le_of_ble_eq_true rfl) ?_
  intro h68 K_h68 A_b64'
  replace A_b64 : Ai Z h68 b64 .int [x3, z1, (0 : Int32), (0 : Int32)] := A_b64'
  replace A_b5 := A_b5.keep K_h68 (ninS ne_b5_b64 nin0)
  replace A_b27 := A_b27.keep K_h68 (ninS ne_b27_b64 nin0)
  replace hz := Nat.le_trans hz K_h68.1
  refine w_aload 206 C at_204 rfl rfl rfl ?_
  refine w_iconst 207 (2 : Int32) C at_206 rfl rfl ?_
  refine w_aload 209 C at_207 rfl rfl rfl ?_
  refine w_iconst 210 (0 : Int32) C at_209 rfl rfl ?_
  refine w_aload 212 C at_210 rfl rfl rfl ?_
  refine w_iconst 213 (2 : Int32) C at_212 rfl rfl ?_
  refine w_iload 215 C at_213 rfl rfl ?_
  refine w_iconst 216 (2 : Int32) C at_215 rfl rfl ?_
  refine w_isub 217 C at_216 rfl ?_
  refine w_callS (y := (⟨"com/example/zspan/zspan/BytesAtPinLaw", "lcp", "([BI[BII)I"⟩ : MethodName)) 220 2 [.ref b5, .int (0 : Int32), .ref b5, .int (2 : Int32), .int (x3 - (2 : Int32))] C at_217 rfl (hw _ (List.mem_of_getElem? (i := 6) rfl)) (hw _ (List.mem_of_getElem? (i := 7) rfl)) (hw _ (List.mem_of_getElem? (i := 3) rfl)) (hw _ (List.mem_of_getElem? (i := 8) rfl)) (by decide) (rm_lcp K.l Z a0 hw [] b5 b5 (2 : Int32) (x3 - (2 : Int32)) [y10, y15, y20, y25] [y10, y15, y20, y25] 2 (n - 2) h68 n0 hz A_b5 A_b5 (by decide) (by rw [own_isub, hnn, show (2 : Int32).toInt = 2 from by decide]; omega) (by simp; omega) (by simp; omega) (by omega) (by decide)) pd_aBIaBII_to_I rfl (rest := [.int (2 : Int32), .ref b64]) rfl rfl (Nat.le_of_eq rfl) (by decide) (by decide) (by decide) (by decide) ?_
  rintro v70 h69 ⟨⟨z2, rfl, hz2⟩, rfl⟩
  show Go K h68 3 15 220 [.val (.int p0), .val (.int p1), .val (.int p2), .val (.int p3), .val (.int x1), .val (.int x2), .val (.int x3), .val (.ref b5), .val (.ref b27), .val (.ref b64), .unset] [.int z2, .int (2 : Int32), .ref b64]
  refine w_iastore 221 2 C A_b64 g_b64 at_220 rfl (by decide) (Nat.le_of_ble_eq_true rfl) ?_
  intro h71 K_h71 A_b64'
  replace A_b64 : Ai Z h71 b64 .int [x3, z1, z2, (0 : Int32)] := A_b64'
  replace A_b5 := A_b5.keep K_h71 (ninS ne_b5_b64 nin0)
  replace A_b27 := A_b27.keep K_h71 (ninS ne_b27_b64 nin0)
  replace hz := Nat.le_trans hz K_h71.1
  refine w_aload 223 C at_221 rfl rfl rfl ?_
  refine w_iconst 224 (3 : Int32) C at_223 rfl rfl ?_
  refine w_aload 226 C at_224 rfl rfl rfl ?_
  refine w_iconst 227 (0 : Int32) C at_226 rfl rfl ?_
  refine w_aload 229 C at_227 rfl rfl rfl ?_
  refine w_iconst 230 (3 : Int32) C at_229 rfl rfl ?_
  refine w_iload 232 C at_230 rfl rfl ?_
  refine w_iconst 233 (3 : Int32) C at_232 rfl rfl ?_
  refine w_isub 234 C at_233 rfl ?_
  refine w_callS (y := (⟨"com/example/zspan/zspan/BytesAtPinLaw", "lcp", "([BI[BII)I"⟩ : MethodName)) 237 2 [.ref b5, .int (0 : Int32), .ref b5, .int (3 : Int32), .int (x3 - (3 : Int32))] C at_234 rfl (hw _ (List.mem_of_getElem? (i := 6) rfl)) (hw _ (List.mem_of_getElem? (i := 7) rfl)) (hw _ (List.mem_of_getElem? (i := 3) rfl)) (hw _ (List.mem_of_getElem? (i := 8) rfl)) (by decide) (rm_lcp K.l Z a0 hw [] b5 b5 (3 : Int32) (x3 - (3 : Int32)) [y10, y15, y20, y25] [y10, y15, y20, y25] 3 (n - 3) h71 n0 hz A_b5 A_b5 (by decide) (by rw [own_isub, hnn, show (3 : Int32).toInt = 3 from by decide]; omega) (by simp; omega) (by simp; omega) (by omega) (by decide)) pd_aBIaBII_to_I rfl (rest := [.int (3 : Int32), .ref b64]) rfl rfl (Nat.le_of_eq rfl) (by decide) (by decide) (by decide) (by decide) ?_
  rintro v73 h72 ⟨⟨z3, rfl, hz3⟩, rfl⟩
  show Go K h71 3 15 237 [.val (.int p0), .val (.int p1), .val (.int p2), .val (.int p3), .val (.int x1), .val (.int x2), .val (.int x3), .val (.ref b5), .val (.ref b27), .val (.ref b64), .unset] [.int z3, .int (3 : Int32), .ref b64]
  refine w_iastore 238 3 C A_b64 g_b64 at_237 rfl (by decide) (Nat.le_of_ble_eq_true rfl) ?_
  intro h74 K_h74 A_b64'
  replace A_b64 : Ai Z h74 b64 .int [x3, z1, z2, z3] := A_b64'
  replace A_b5 := A_b5.keep K_h74 (ninS ne_b5_b64 nin0)
  replace A_b27 := A_b27.keep K_h74 (ninS ne_b27_b64 nin0)
  replace hz := Nat.le_trans hz K_h74.1
  refine w_new 241 C hz at_238 rfl (hw _ (List.mem_of_getElem? (i := 9) rfl)) (hw _ (List.mem_of_getElem? (i := 10) rfl)) (hw _ (List.mem_of_getElem? (i := 11) rfl)) (by decide) (by decide) ?_
  intro h75 b76 X_b76 g_b76 sz0_b76 E_b76 D_b76 hz_
  replace hz := hz_
  have ne_b5_b76 : b5 ≠ b76 := Nat.ne_of_lt (Nat.lt_of_lt_of_le A_b5.lt sz0_b76)
  have ne_b27_b76 : b27 ≠ b76 := Nat.ne_of_lt (Nat.lt_of_lt_of_le A_b27.lt sz0_b76)
  have ne_b64_b76 : b64 ≠ b76 := Nat.ne_of_lt (Nat.lt_of_lt_of_le A_b64.lt sz0_b76)
  replace A_b5 := A_b5.ext X_b76
  replace A_b27 := A_b27.ext X_b76
  replace A_b64 := A_b64.ext X_b76
  have F_z_b76 : Fld Z h75 b76 "com/example/zspan/zspan/PrefixWalk" "z" "[I" (.null) := D_b76 (Or.inr (hw _ (List.mem_of_getElem? (i := 24) rfl))) (ty := (.array .int)) (by decide)
  have F_pattern_b76 : Fld Z h75 b76 "com/example/zspan/zspan/PrefixWalk$Bytes" "pattern" "[B" (.null) := D_b76 (Or.inr (hw _ (List.mem_of_getElem? (i := 26) rfl))) (ty := (.array .byte)) (by decide)
  have F_text_b76 : Fld Z h75 b76 "com/example/zspan/zspan/PrefixWalk$Bytes" "text" "[B" (.null) := D_b76 (Or.inr (hw _ (List.mem_of_getElem? (i := 28) rfl))) (ty := (.array .byte)) (by decide)
  have F_right_b76 : Fld Z h75 b76 "com/example/zspan/zspan/PrefixWalk" "right" "I" (.int (0 : Int32)) := D_b76 (Or.inl (hw _ (List.mem_of_getElem? (i := 43) rfl))) (ty := .int) (by decide)
  have F_left_b76 : Fld Z h75 b76 "com/example/zspan/zspan/PrefixWalk" "left" "I" (.int (0 : Int32)) := D_b76 (Or.inl (hw _ (List.mem_of_getElem? (i := 46) rfl))) (ty := .int) (by decide)
  show Go K h75 4 20 241 [.val (.int p0), .val (.int p1), .val (.int p2), .val (.int p3), .val (.int x1), .val (.int x2), .val (.int x3), .val (.ref b5), .val (.ref b27), .val (.ref b64), .unset] [.ref b76]
  refine w_dup 242 C at_241 rfl rfl ?_
  refine w_aload 244 C at_242 rfl rfl rfl ?_
  refine w_aload 246 C at_244 rfl rfl rfl ?_
  refine w_aload 248 C at_246 rfl rfl rfl ?_
  refine w_callI (y := (⟨"com/example/zspan/zspan/PrefixWalk$Bytes", "<init>", "([I[B[B)V"⟩ : MethodName)) (a := b76) 251 1 [.ref b64, .ref b5, .ref b27] C at_248 rfl rfl (hw _ (List.mem_of_getElem? (i := 12) rfl)) (hw _ (List.mem_of_getElem? (i := 13) rfl)) (hw _ (List.mem_of_getElem? (i := 11) rfl)) (hw _ (List.mem_of_getElem? (i := 14) rfl)) (by decide) (rm_i2 K.l Z a0 hw [] b76 b64 b5 b27 .null .null .null (.int 0) (.int 0) h75 n0 hz E_b76 g_b76 F_z_b76 F_pattern_b76 F_text_b76 F_left_b76 F_right_b76) pd_aIaBaB_to_V rfl (rest := [.ref b76]) rfl rfl (Nat.le_of_eq rfl) (by decide) (by decide) (by decide) (by decide) ?_
  rintro v77 hE ⟨rfl, K1, E_b76, F_z_b76, F_pattern_b76, F_text_b76, F_left_b76, F_right_b76⟩
  show Go K hE 4 20 251 [.val (.int p0), .val (.int p1), .val (.int p2), .val (.int p3), .val (.int x1), .val (.int x2), .val (.int x3), .val (.ref b5), .val (.ref b27), .val (.ref b64), .unset] [.ref b76]
  replace hz := Nat.le_trans hz K1.1
  replace A_b5 := A_b5.keep K1 (ninS ne_b5_b76 nin0)
  replace A_b27 := A_b27.keep K1 (ninS ne_b27_b76 nin0)
  replace A_b64 := A_b64.keep K1 (ninS ne_b64_b76 nin0)
  have hzs : ∀ j, j < n → ∃ q : Int32, ([x3, z1, z2, z3] : List Int32)[j]? = some q ∧ q.toInt = ((own_zl (n - j) [y10, y15, y20, y25] (([y10, y15, y20, y25] : List Int32).drop j) : Nat) : Int) := by
    intro j hj
    match j, hj with
    | 0, _ => refine ⟨_, rfl, ?_⟩; rw [own_zl_uniq (n - 0) [y10, y15, y20, y25] (([y10, y15, y20, y25] : List Int32).drop 0) n (by simp; omega) (by simp; omega) (by omega) (fun e _ => rfl) (fun q => absurd q (by omega))]; exact hnn
    | 1, _ => exact ⟨_, rfl, hz1⟩
    | 2, _ => exact ⟨_, rfl, hz2⟩
    | 3, _ => exact ⟨_, rfl, hz3⟩
    | (j + 4), hj => exact absurd hj (by omega)
  obtain ⟨le, ri, nl, nr, hle, hri, IV, hli, F_left_b76, F_right_b76⟩ : ∃ (le ri : Int32) (nl nr : Nat), le.toInt = (nl : Int) ∧ ri.toInt = (nr : Int) ∧ own_inv n [y10, y15, y20, y25] [y32, y37, y42, y47, y52, y57, y62] nl nr ∧ nl ≤ 0 ∧ Fld Z hE b76 "com/example/zspan/zspan/PrefixWalk" "left" "I" (.int le) ∧ Fld Z hE b76 "com/example/zspan/zspan/PrefixWalk" "right" "I" (.int ri) := ⟨0, 0, 0, 0, by decide, by decide, ⟨by omega, by simp, by omega, fun e he => absurd he (by omega)⟩, by omega, F_left_b76, F_right_b76⟩
  refine w_astore 253 [.val (.int p0), .val (.int p1), .val (.int p2), .val (.int p3), .val (.int x1), .val (.int x2), .val (.int x3), .val (.ref b5), .val (.ref b27), .val (.ref b64), .val (.ref b76)] C at_251 rfl rfl rfl ?_
  refine w_aload 255 C at_253 rfl rfl rfl ?_
  refine w_aload 257 C at_255 rfl rfl rfl ?_
  refine w_aload 259 C at_257 rfl rfl rfl ?_
  refine w_iload 261 C at_259 rfl rfl ?_
  refine w_iconst 262 (0 : Int32) C at_261 rfl rfl ?_
  refine w_iloadN 263 C at_262 rfl rfl ?_
  refine w_callS (y := (⟨"com/example/zspan/zspan/BytesAtPinLaw", "step", "(Lcom/example/zspan/zspan/PrefixWalk$Bytes;[B[BIII)Z"⟩ : MethodName)) 266 0 [.ref b76, .ref b5, .ref b27, .int x3, .int (0 : Int32), .int p2] C at_263 rfl (hw _ (List.mem_of_getElem? (i := 29) rfl)) (hw _ (List.mem_of_getElem? (i := 30) rfl)) (hw _ (List.mem_of_getElem? (i := 3) rfl)) (hw _ (List.mem_of_getElem? (i := 31) rfl)) (by decide) (rm_step K.l Z a0 hw [] b76 b64 b5 b27 le ri (0 : Int32) p2 x3 [y10, y15, y20, y25] [y32, y37, y42, y47, y52, y57, y62] [x3, z1, z2, z3] hE n0 hz E_b76 g_b76 F_z_b76 F_pattern_b76 F_text_b76 F_left_b76 F_right_b76 A_b64 A_b5 A_b27 ne_b64_b76 ne_b5_b76 ne_b27_b76 n nl nr 0 hle hri (by decide) IV (by simp; omega) (by simp) hli (by simp) (by simp) hzs hnn) pd_Lcom_example_zspan_zspan_PrefixWalk_BytesaBaBIII_to_Z rfl (rest := []) rfl rfl (Nat.le_of_eq rfl) (by decide) (by decide) (by decide) (by decide) ?_
  rintro v78 hS0 ⟨rfl, K_0, E_b76, le, ri, nl, nr, hle, hri, IV, hli, F_z_b76, F_pattern_b76, F_text_b76, F_left_b76, F_right_b76⟩
  show Go K hS0 4 20 266 [.val (.int p0), .val (.int p1), .val (.int p2), .val (.int p3), .val (.int x1), .val (.int x2), .val (.int x3), .val (.ref b5), .val (.ref b27), .val (.ref b64), .val (.ref b76)] [.int (1 : Int32)]
  replace hz := Nat.le_trans hz K_0.1
  replace A_b5 := A_b5.keep K_0 (ninS ne_b5_b76 nin0)
  replace A_b27 := A_b27.keep K_0 (ninS ne_b27_b76 nin0)
  replace A_b64 := A_b64.keep K_0 (ninS ne_b64_b76 nin0)
  refine w_aload 268 C at_266 rfl rfl rfl ?_
  refine w_aload 270 C at_268 rfl rfl rfl ?_
  refine w_aload 272 C at_270 rfl rfl rfl ?_
  refine w_iload 274 C at_272 rfl rfl ?_
  refine w_iconst 275 (1 : Int32) C at_274 rfl rfl ?_
  refine w_iloadN 276 C at_275 rfl rfl ?_
  replace hli : nl ≤ 1 := by omega
  refine w_callS (y := (⟨"com/example/zspan/zspan/BytesAtPinLaw", "step", "(Lcom/example/zspan/zspan/PrefixWalk$Bytes;[B[BIII)Z"⟩ : MethodName)) 279 1 [.ref b76, .ref b5, .ref b27, .int x3, .int (1 : Int32), .int p2] C at_276 rfl (hw _ (List.mem_of_getElem? (i := 29) rfl)) (hw _ (List.mem_of_getElem? (i := 30) rfl)) (hw _ (List.mem_of_getElem? (i := 3) rfl)) (hw _ (List.mem_of_getElem? (i := 31) rfl)) (by decide) (rm_step K.l Z a0 hw [] b76 b64 b5 b27 le ri (1 : Int32) p2 x3 [y10, y15, y20, y25] [y32, y37, y42, y47, y52, y57, y62] [x3, z1, z2, z3] hS0 n0 hz E_b76 g_b76 F_z_b76 F_pattern_b76 F_text_b76 F_left_b76 F_right_b76 A_b64 A_b5 A_b27 ne_b64_b76 ne_b5_b76 ne_b27_b76 n nl nr 1 hle hri (by decide) IV (by simp; omega) (by simp) hli (by simp) (by simp) hzs hnn) pd_Lcom_example_zspan_zspan_PrefixWalk_BytesaBaBIII_to_Z rfl (rest := [.int (1 : Int32)]) rfl rfl (Nat.le_of_eq rfl) (by decide) (by decide) (by decide) (by decide) ?_
  rintro v79 hS1 ⟨rfl, K_1, E_b76, le, ri, nl, nr, hle, hri, IV, hli, F_z_b76, F_pattern_b76, F_text_b76, F_left_b76, F_right_b76⟩
  show Go K hS1 4 20 279 [.val (.int p0), .val (.int p1), .val (.int p2), .val (.int p3), .val (.int x1), .val (.int x2), .val (.int x3), .val (.ref b5), .val (.ref b27), .val (.ref b64), .val (.ref b76)] [.int (1 : Int32), .int (1 : Int32)]
  replace hz := Nat.le_trans hz K_1.1
  replace A_b5 := A_b5.keep K_1 (ninS ne_b5_b76 nin0)
  replace A_b27 := A_b27.keep K_1 (ninS ne_b27_b76 nin0)
  replace A_b64 := A_b64.keep K_1 (ninS ne_b64_b76 nin0)
  refine w_iand 280 C at_279 rfl ?_
  refine w_aload 282 C at_280 rfl rfl rfl ?_
  refine w_aload 284 C at_282 rfl rfl rfl ?_
  refine w_aload 286 C at_284 rfl rfl rfl ?_
  refine w_iload 288 C at_286 rfl rfl ?_
  refine w_iconst 289 (2 : Int32) C at_288 rfl rfl ?_
  refine w_iloadN 290 C at_289 rfl rfl ?_
  replace hli : nl ≤ 2 := by omega
  refine w_callS (y := (⟨"com/example/zspan/zspan/BytesAtPinLaw", "step", "(Lcom/example/zspan/zspan/PrefixWalk$Bytes;[B[BIII)Z"⟩ : MethodName)) 293 1 [.ref b76, .ref b5, .ref b27, .int x3, .int (2 : Int32), .int p2] C at_290 rfl (hw _ (List.mem_of_getElem? (i := 29) rfl)) (hw _ (List.mem_of_getElem? (i := 30) rfl)) (hw _ (List.mem_of_getElem? (i := 3) rfl)) (hw _ (List.mem_of_getElem? (i := 31) rfl)) (by decide) (rm_step K.l Z a0 hw [] b76 b64 b5 b27 le ri (2 : Int32) p2 x3 [y10, y15, y20, y25] [y32, y37, y42, y47, y52, y57, y62] [x3, z1, z2, z3] hS1 n0 hz E_b76 g_b76 F_z_b76 F_pattern_b76 F_text_b76 F_left_b76 F_right_b76 A_b64 A_b5 A_b27 ne_b64_b76 ne_b5_b76 ne_b27_b76 n nl nr 2 hle hri (by decide) IV (by simp; omega) (by simp) hli (by simp) (by simp) hzs hnn) pd_Lcom_example_zspan_zspan_PrefixWalk_BytesaBaBIII_to_Z rfl (rest := [.int ((1 : Int32) &&& (1 : Int32))]) rfl rfl (Nat.le_of_eq rfl) (by decide) (by decide) (by decide) (by decide) ?_
  rintro v80 hS2 ⟨rfl, K_2, E_b76, le, ri, nl, nr, hle, hri, IV, hli, F_z_b76, F_pattern_b76, F_text_b76, F_left_b76, F_right_b76⟩
  show Go K hS2 4 20 293 [.val (.int p0), .val (.int p1), .val (.int p2), .val (.int p3), .val (.int x1), .val (.int x2), .val (.int x3), .val (.ref b5), .val (.ref b27), .val (.ref b64), .val (.ref b76)] [.int (1 : Int32), .int ((1 : Int32) &&& (1 : Int32))]
  replace hz := Nat.le_trans hz K_2.1
  replace A_b5 := A_b5.keep K_2 (ninS ne_b5_b76 nin0)
  replace A_b27 := A_b27.keep K_2 (ninS ne_b27_b76 nin0)
  replace A_b64 := A_b64.keep K_2 (ninS ne_b64_b76 nin0)
  refine w_iand 294 C at_293 rfl ?_
  refine w_aload 296 C at_294 rfl rfl rfl ?_
  refine w_aload 298 C at_296 rfl rfl rfl ?_
  refine w_aload 300 C at_298 rfl rfl rfl ?_
  refine w_iload 302 C at_300 rfl rfl ?_
  refine w_iconst 303 (3 : Int32) C at_302 rfl rfl ?_
  refine w_iloadN 304 C at_303 rfl rfl ?_
  replace hli : nl ≤ 3 := by omega
  refine w_callS (y := (⟨"com/example/zspan/zspan/BytesAtPinLaw", "step", "(Lcom/example/zspan/zspan/PrefixWalk$Bytes;[B[BIII)Z"⟩ : MethodName)) 307 1 [.ref b76, .ref b5, .ref b27, .int x3, .int (3 : Int32), .int p2] C at_304 rfl (hw _ (List.mem_of_getElem? (i := 29) rfl)) (hw _ (List.mem_of_getElem? (i := 30) rfl)) (hw _ (List.mem_of_getElem? (i := 3) rfl)) (hw _ (List.mem_of_getElem? (i := 31) rfl)) (by decide) (rm_step K.l Z a0 hw [] b76 b64 b5 b27 le ri (3 : Int32) p2 x3 [y10, y15, y20, y25] [y32, y37, y42, y47, y52, y57, y62] [x3, z1, z2, z3] hS2 n0 hz E_b76 g_b76 F_z_b76 F_pattern_b76 F_text_b76 F_left_b76 F_right_b76 A_b64 A_b5 A_b27 ne_b64_b76 ne_b5_b76 ne_b27_b76 n nl nr 3 hle hri (by decide) IV (by simp; omega) (by simp) hli (by simp) (by simp) hzs hnn) pd_Lcom_example_zspan_zspan_PrefixWalk_BytesaBaBIII_to_Z rfl (rest := [.int (((1 : Int32) &&& (1 : Int32)) &&& (1 : Int32))]) rfl rfl (Nat.le_of_eq rfl) (by decide) (by decide) (by decide) (by decide) ?_
  rintro v81 hS3 ⟨rfl, K_3, E_b76, le, ri, nl, nr, hle, hri, IV, hli, F_z_b76, F_pattern_b76, F_text_b76, F_left_b76, F_right_b76⟩
  show Go K hS3 4 20 307 [.val (.int p0), .val (.int p1), .val (.int p2), .val (.int p3), .val (.int x1), .val (.int x2), .val (.int x3), .val (.ref b5), .val (.ref b27), .val (.ref b64), .val (.ref b76)] [.int (1 : Int32), .int (((1 : Int32) &&& (1 : Int32)) &&& (1 : Int32))]
  replace hz := Nat.le_trans hz K_3.1
  replace A_b5 := A_b5.keep K_3 (ninS ne_b5_b76 nin0)
  replace A_b27 := A_b27.keep K_3 (ninS ne_b27_b76 nin0)
  replace A_b64 := A_b64.keep K_3 (ninS ne_b64_b76 nin0)
  refine w_iand 308 C at_307 rfl ?_
  refine w_aload 310 C at_308 rfl rfl rfl ?_
  refine w_aload 312 C at_310 rfl rfl rfl ?_
  refine w_aload 314 C at_312 rfl rfl rfl ?_
  refine w_iload 316 C at_314 rfl rfl ?_
  refine w_iconst 317 (4 : Int32) C at_316 rfl rfl ?_
  refine w_iloadN 318 C at_317 rfl rfl ?_
  replace hli : nl ≤ 4 := by omega
  refine w_callS (y := (⟨"com/example/zspan/zspan/BytesAtPinLaw", "step", "(Lcom/example/zspan/zspan/PrefixWalk$Bytes;[B[BIII)Z"⟩ : MethodName)) 321 1 [.ref b76, .ref b5, .ref b27, .int x3, .int (4 : Int32), .int p2] C at_318 rfl (hw _ (List.mem_of_getElem? (i := 29) rfl)) (hw _ (List.mem_of_getElem? (i := 30) rfl)) (hw _ (List.mem_of_getElem? (i := 3) rfl)) (hw _ (List.mem_of_getElem? (i := 31) rfl)) (by decide) (rm_step K.l Z a0 hw [] b76 b64 b5 b27 le ri (4 : Int32) p2 x3 [y10, y15, y20, y25] [y32, y37, y42, y47, y52, y57, y62] [x3, z1, z2, z3] hS3 n0 hz E_b76 g_b76 F_z_b76 F_pattern_b76 F_text_b76 F_left_b76 F_right_b76 A_b64 A_b5 A_b27 ne_b64_b76 ne_b5_b76 ne_b27_b76 n nl nr 4 hle hri (by decide) IV (by simp; omega) (by simp) hli (by simp) (by simp) hzs hnn) pd_Lcom_example_zspan_zspan_PrefixWalk_BytesaBaBIII_to_Z rfl (rest := [.int ((((1 : Int32) &&& (1 : Int32)) &&& (1 : Int32)) &&& (1 : Int32))]) rfl rfl (Nat.le_of_eq rfl) (by decide) (by decide) (by decide) (by decide) ?_
  rintro v82 hS4 ⟨rfl, K_4, E_b76, le, ri, nl, nr, hle, hri, IV, hli, F_z_b76, F_pattern_b76, F_text_b76, F_left_b76, F_right_b76⟩
  show Go K hS4 4 20 321 [.val (.int p0), .val (.int p1), .val (.int p2), .val (.int p3), .val (.int x1), .val (.int x2), .val (.int x3), .val (.ref b5), .val (.ref b27), .val (.ref b64), .val (.ref b76)] [.int (1 : Int32), .int ((((1 : Int32) &&& (1 : Int32)) &&& (1 : Int32)) &&& (1 : Int32))]
  replace hz := Nat.le_trans hz K_4.1
  replace A_b5 := A_b5.keep K_4 (ninS ne_b5_b76 nin0)
  replace A_b27 := A_b27.keep K_4 (ninS ne_b27_b76 nin0)
  replace A_b64 := A_b64.keep K_4 (ninS ne_b64_b76 nin0)
  refine w_iand 322 C at_321 rfl ?_
  refine w_aload 324 C at_322 rfl rfl rfl ?_
  refine w_aload 326 C at_324 rfl rfl rfl ?_
  refine w_aload 328 C at_326 rfl rfl rfl ?_
  refine w_iload 330 C at_328 rfl rfl ?_
  refine w_iconst 331 (5 : Int32) C at_330 rfl rfl ?_
  refine w_iloadN 332 C at_331 rfl rfl ?_
  replace hli : nl ≤ 5 := by omega
  refine w_callS (y := (⟨"com/example/zspan/zspan/BytesAtPinLaw", "step", "(Lcom/example/zspan/zspan/PrefixWalk$Bytes;[B[BIII)Z"⟩ : MethodName)) 335 1 [.ref b76, .ref b5, .ref b27, .int x3, .int (5 : Int32), .int p2] C at_332 rfl (hw _ (List.mem_of_getElem? (i := 29) rfl)) (hw _ (List.mem_of_getElem? (i := 30) rfl)) (hw _ (List.mem_of_getElem? (i := 3) rfl)) (hw _ (List.mem_of_getElem? (i := 31) rfl)) (by decide) (rm_step K.l Z a0 hw [] b76 b64 b5 b27 le ri (5 : Int32) p2 x3 [y10, y15, y20, y25] [y32, y37, y42, y47, y52, y57, y62] [x3, z1, z2, z3] hS4 n0 hz E_b76 g_b76 F_z_b76 F_pattern_b76 F_text_b76 F_left_b76 F_right_b76 A_b64 A_b5 A_b27 ne_b64_b76 ne_b5_b76 ne_b27_b76 n nl nr 5 hle hri (by decide) IV (by simp; omega) (by simp) hli (by simp) (by simp) hzs hnn) pd_Lcom_example_zspan_zspan_PrefixWalk_BytesaBaBIII_to_Z rfl (rest := [.int (((((1 : Int32) &&& (1 : Int32)) &&& (1 : Int32)) &&& (1 : Int32)) &&& (1 : Int32))]) rfl rfl (Nat.le_of_eq rfl) (by decide) (by decide) (by decide) (by decide) ?_
  rintro v83 hS5 ⟨rfl, K_5, E_b76, le, ri, nl, nr, hle, hri, IV, hli, F_z_b76, F_pattern_b76, F_text_b76, F_left_b76, F_right_b76⟩
  show Go K hS5 4 20 335 [.val (.int p0), .val (.int p1), .val (.int p2), .val (.int p3), .val (.int x1), .val (.int x2), .val (.int x3), .val (.ref b5), .val (.ref b27), .val (.ref b64), .val (.ref b76)] [.int (1 : Int32), .int (((((1 : Int32) &&& (1 : Int32)) &&& (1 : Int32)) &&& (1 : Int32)) &&& (1 : Int32))]
  replace hz := Nat.le_trans hz K_5.1
  replace A_b5 := A_b5.keep K_5 (ninS ne_b5_b76 nin0)
  replace A_b27 := A_b27.keep K_5 (ninS ne_b27_b76 nin0)
  replace A_b64 := A_b64.keep K_5 (ninS ne_b64_b76 nin0)
  refine w_iand 336 C at_335 rfl ?_
  refine w_aload 338 C at_336 rfl rfl rfl ?_
  refine w_aload 340 C at_338 rfl rfl rfl ?_
  refine w_aload 342 C at_340 rfl rfl rfl ?_
  refine w_iload 344 C at_342 rfl rfl ?_
  refine w_bipush 346 (6 : Int32) C at_344 rfl rfl ?_
  refine w_iloadN 347 C at_346 rfl rfl ?_
  replace hli : nl ≤ 6 := by omega
  refine w_callS (y := (⟨"com/example/zspan/zspan/BytesAtPinLaw", "step", "(Lcom/example/zspan/zspan/PrefixWalk$Bytes;[B[BIII)Z"⟩ : MethodName)) 350 1 [.ref b76, .ref b5, .ref b27, .int x3, .int (6 : Int32), .int p2] C at_347 rfl (hw _ (List.mem_of_getElem? (i := 29) rfl)) (hw _ (List.mem_of_getElem? (i := 30) rfl)) (hw _ (List.mem_of_getElem? (i := 3) rfl)) (hw _ (List.mem_of_getElem? (i := 31) rfl)) (by decide) (rm_step K.l Z a0 hw [] b76 b64 b5 b27 le ri (6 : Int32) p2 x3 [y10, y15, y20, y25] [y32, y37, y42, y47, y52, y57, y62] [x3, z1, z2, z3] hS5 n0 hz E_b76 g_b76 F_z_b76 F_pattern_b76 F_text_b76 F_left_b76 F_right_b76 A_b64 A_b5 A_b27 ne_b64_b76 ne_b5_b76 ne_b27_b76 n nl nr 6 hle hri (by decide) IV (by simp; omega) (by simp) hli (by simp) (by simp) hzs hnn) pd_Lcom_example_zspan_zspan_PrefixWalk_BytesaBaBIII_to_Z rfl (rest := [.int ((((((1 : Int32) &&& (1 : Int32)) &&& (1 : Int32)) &&& (1 : Int32)) &&& (1 : Int32)) &&& (1 : Int32))]) rfl rfl (Nat.le_of_eq rfl) (by decide) (by decide) (by decide) (by decide) ?_
  rintro v84 hS6 ⟨rfl, K_6, E_b76, le, ri, nl, nr, hle, hri, IV, hli, F_z_b76, F_pattern_b76, F_text_b76, F_left_b76, F_right_b76⟩
  show Go K hS6 4 20 350 [.val (.int p0), .val (.int p1), .val (.int p2), .val (.int p3), .val (.int x1), .val (.int x2), .val (.int x3), .val (.ref b5), .val (.ref b27), .val (.ref b64), .val (.ref b76)] [.int (1 : Int32), .int ((((((1 : Int32) &&& (1 : Int32)) &&& (1 : Int32)) &&& (1 : Int32)) &&& (1 : Int32)) &&& (1 : Int32))]
  replace hz := Nat.le_trans hz K_6.1
  replace A_b5 := A_b5.keep K_6 (ninS ne_b5_b76 nin0)
  replace A_b27 := A_b27.keep K_6 (ninS ne_b27_b76 nin0)
  replace A_b64 := A_b64.keep K_6 (ninS ne_b64_b76 nin0)
  refine w_iand 351 C at_350 rfl ?_
  refine w_retN C (by simp) at_351 rfl (by decide) (by decide) ?_
  exact rfl
set_option maxRecDepth 65536 in
set_option maxHeartbeats 40000000 in
theorem comes_1 {Post : Tables → Env → Array Value → State → Outcome → State → Prop} (hpost : ∀ tb e args s v u, (limb_1_1.after args s (.returned v) u = true ∧ limb_1_2.after args s (.returned v) u = true ∧ True) → FrameEnd s (.returned v) u (Jvm.fieldLocs frame_1_writes args s ++ Jvm.arrayLocs frame_1_arrays args s ++ Jvm.staticLocs frame_1_statics s) 16 128 → Post tb e args s (.returned v) u) :
    ArmFor flags0 classFile x code maxLocals ret World_1 tables_1 room_1 Calls_1 rest_1 Pre_1 Post := by
  intro l hfl _ _ p e ha hc hk s m args below hf hA hF happ hP
  obtain ⟨hcalls, hrest, hpre⟩ := hP
  obtain ⟨-, -, -, hnamed, -, -, -, hat⟩ := (Spec.applies_iff hf).mp happ
  obtain ⟨hg, hn⟩ := and_e (Cond.before_iff.mp (show (Jvm.Cond.and given_1 narrow_1).before args s = true from hpre))
  obtain ⟨gc, r0⟩ := and_e hg
  obtain ⟨g0, r1⟩ := and_e r0
  obtain ⟨g1, r2⟩ := and_e r1
  obtain ⟨g2, r3⟩ := and_e r2
  obtain ⟨w0, w1, w2, w3, rfl⟩ : ∃ w0 w1 w2 w3 : Value, args = #[w0, w1, w2, w3] := by
    have hs : args.size = 4 := by simpa [Cond.value, given_1] using gc
    obtain ⟨L⟩ := args
    match L, hs with
    | [w0, w1, w2, w3], _ => exact ⟨w0, w1, w2, w3, rfl⟩
  have hw := fun d (hd : d ∈ tables_1) => atoms_spec (ws := Jvm.Cond.code x code maxLocals ret :: tables_1) hat d (List.mem_cons_of_mem _ hd)
  obtain ⟨i0, ei0⟩ := is_v g0
  obtain rfl : w0 = (.int i0) := Option.some.inj ei0
  obtain ⟨i1, ei1⟩ := is_v g1
  obtain rfl : w1 = (.int i1) := Option.some.inj ei1
  obtain ⟨i2, ei2⟩ := is_v g2
  obtain rfl : w2 = (.int i2) := Option.some.inj ei2
  obtain ⟨i3, ei3⟩ := is_v r3
  obtain rfl : w3 = (.int i3) := Option.some.inj ei3
  obtain ⟨n, o, h1, h2, h3, _, L, rfl, ⟨N, rfl⟩, hq⟩ := rm0 l s _ hw tables_1 i0 i1 i2 i3 s.heap s.heap.size (Nat.le_refl _) p e ha hc hk s m _ below hf ((Spec.applies_iff_loose hf).mp happ).1 ⟨rfl, State.Warmed39.refl s, rfl⟩ trivial
  refine ⟨n, _, h1, h2, h3, hpost _ _ _ _ _ _ ⟨Cond.after_iff.mpr rfl, Cond.after_iff.mpr (eq_i res_at (Term.int_eval (1)) rfl), trivial⟩ ⟨hq.1, hq.2.1, (hq.2.2.sift fun y hy => Or.inr (N y hy)).mono (by decide) (by decide)⟩⟩
theorem main_1_1 : Claimed_1_1 := comes_1 fun _ _ _ _ _ _ h hF => ⟨h.1, hF⟩
theorem main_1_2 : Claimed_1_2 := comes_1 fun _ _ _ _ _ _ h hF => ⟨h.2.1, hF⟩
end Jvm.Pilot.@@N@@
namespace Jvm.Pilot.@@N@@
open Jvm Jvm.ClassFile Sem Op Lib Jvm.Free Jvm.Stand Jvm.Pilot.@@N@@.Jvm.D
/-! MADE BY PROGRAM (witnessworld.py) out of the Statement's table words and the real class files: 11 classes; the members and pool entries that the words name. The judged class is class 1, her method 4. -/
namespace start1
open Jvm.ClassFile
def u (s : String) : CpInfo := .utf8 (stringToUtf16 s)
/-- a pool by its gaps: so many unusable entries, then the entry; so many at the end -/
def gap : Nat → List CpInfo → List CpInfo
  | 0, r => r
  | n + 1, r => .unusable :: gap n r
def poolList (es : List (Nat × CpInfo)) (last : Nat) : List CpInfo := es.foldr (fun e r => gap e.1 (e.2 :: r)) (gap last [])
def pool (es : List (Nat × CpInfo)) (last : Nat) : Array CpInfo := ⟨poolList es last⟩
def fileOf (pool : Array CpInfo) (this : Nat) (attrs : Array Attribute := #[]) (ms : Array MethodInfo := #[]) (fl : Nat := 33) (sup : Nat := 0) (ifs : Array Nat := #[]) (fds : Array FieldInfo := #[]) : ClassFile where
  minorVersion := 0
  majorVersion := 65
  constantPool := pool
  accessFlags := fl
  thisClass := this
  superClass := sup
  interfaces := ifs
  fields := fds
  methods := ms
  attributes := attrs
def plain (name : String) (sup : Option ClassId) : Class where
  name := name
  kind := .ordinary
  loader := none
  accessFlags := 33
  super := sup
  interfaces := #[]
  cf := none
  fields := #[]
  methods := #[]
  instanceTypes := #[]
  staticTypes := #[]
  resolved := #[]
  callSites := []
  init := .initialized
  statics := none
  mirror := none

def pool0 : Array CpInfo := pool [(5, u "<init>"), (0, u "()V"), (1, .class_ 10), (1, u "java/lang/Object")] 113

def k0c0 : Code := { maxStack := 0, maxLocals := 1, code := object_method_1_code, exceptionTable := #[], attributes := #[] }
def k0m0 : Method := { name := "<init>", desc := "()V", sig := { parameters := [], returnType := none }, accessFlags := 1, code := some k0c0 }
/-- java/lang/Object -/
def k0 : Class := { plain "java/lang/Object" none with
  accessFlags := 33
  interfaces := #[]
  cf := some (fileOf pool0 8 #[] #[{ accessFlags := 1, nameIndex := 5, descriptorIndex := 6, attributes := #[] }] 33 0 #[] #[])
  fields := #[]
  methods := #[k0m0]
  instanceTypes := #[]
  staticTypes := #[]
  resolved := Array.replicate 124 none
  statics := none }

def pool1 : Array CpInfo := pool [(2, .class_ 4), (1, u "java/lang/Object"), (0, u "<init>"), (0, u "()V"), (0, .methodref 8 9), (0, .class_ 10), (0, .nameAndType 11 12), (0, u "java/lang/Math"), (0, u "min"), (0, u "(II)I"), (0, .methodref 14 15), (0, .class_ 16), (0, .nameAndType 17 12), (0, u "com/example/zspan/zspan/PrefixWalk$Bytes"), (0, u "at"), (0, .methodref 19 20), (0, .class_ 21), (0, .nameAndType 22 23), (0, u "com/example/zspan/zspan/BytesAtPinLaw"), (0, u "lcp"), (0, u "([BI[BII)I"), (0, .methodref 19 25), (0, .nameAndType 26 27), (0, u "pick"), (0, u "(IIBB)B"), (0, .methodref 14 29), (0, .nameAndType 5 30), (0, u "([I[B[B)V"), (0, .methodref 19 32), (0, .nameAndType 33 34), (0, u "step"), (0, u "(Lcom/example/zspan/zspan/PrefixWalk$Bytes;[B[BIII)Z"), (3, u "law"), (0, u "(IIII)Z")] 6

def k1m0 : Method := { name := "<init>", desc := "()V", sig := { parameters := [], returnType := none }, accessFlags := 2, code := none }
def k1c1 : Code := { maxStack := 2, maxLocals := 4, code := method_2_code, exceptionTable := #[], attributes := #[] }
def k1m1 : Method := { name := "pick", desc := "(IIBB)B", sig := { parameters := [.int, .int, .byte, .byte], returnType := some .byte }, accessFlags := 10, code := some k1c1 }
def k1c2 : Code := { maxStack := 4, maxLocals := 5, code := method_3_code, exceptionTable := #[], attributes := #[] }
def k1m2 : Method := { name := "lcp", desc := "([BI[BII)I", sig := { parameters := [(.array .byte), .int, (.array .byte), .int, .int], returnType := some .int }, accessFlags := 10, code := some k1c2 }
def k1c3 : Code := { maxStack := 6, maxLocals := 7, code := method_4_code, exceptionTable := #[], attributes := #[] }
def k1m3 : Method := { name := "step", desc := "(Lcom/example/zspan/zspan/PrefixWalk$Bytes;[B[BIII)Z", sig := { parameters := [(.object "com/example/zspan/zspan/PrefixWalk$Bytes"), (.array .byte), (.array .byte), .int, .int, .int], returnType := some .boolean }, accessFlags := 10, code := some k1c3 }
def k1c4 : Code := { maxStack := 8, maxLocals := 11, code := code, exceptionTable := #[], attributes := #[] }
def k1m4 : Method := { name := "law", desc := "(IIII)Z", sig := { parameters := [.int, .int, .int, .int], returnType := some .boolean }, accessFlags := 9, code := some k1c4 }
/-- com/example/zspan/zspan/BytesAtPinLaw -/
def k1 : Class := { plain "com/example/zspan/zspan/BytesAtPinLaw" (some 0) with
  accessFlags := 49
  interfaces := #[]
  cf := some (fileOf pool1 19 #[] #[{ accessFlags := 2, nameIndex := 5, descriptorIndex := 6, attributes := #[] }, { accessFlags := 10, nameIndex := 26, descriptorIndex := 27, attributes := #[] }, { accessFlags := 10, nameIndex := 22, descriptorIndex := 23, attributes := #[] }, { accessFlags := 10, nameIndex := 33, descriptorIndex := 34, attributes := #[] }, { accessFlags := 9, nameIndex := 38, descriptorIndex := 39, attributes := #[] }] 49 2 #[] #[])
  fields := #[]
  methods := #[k1m0, k1m1, k1m2, k1m3, k1m4]
  instanceTypes := #[]
  staticTypes := #[]
  resolved := Array.replicate 46 none
  statics := none }

def pool2 : Array CpInfo := pool [(1, .methodref 2 3), (0, .class_ 4), (0, .nameAndType 5 6), (0, u "java/lang/Object"), (0, u "<init>"), (0, u "()V"), (0, .fieldref 8 9), (0, .class_ 10), (0, .nameAndType 11 12), (0, u "com/example/zspan/zspan/PrefixWalk"), (0, u "z"), (0, u "[I"), (2, u "right"), (0, u "I"), (2, u "left"), (0, u "([I)V"), (11, .class_ 33), (0, u "com/example/zspan/zspan/PrefixWalk$Ints"), (0, .class_ 35), (0, u "com/example/zspan/zspan/PrefixWalk$SearchedChars"), (0, .class_ 37), (0, u "com/example/zspan/zspan/PrefixWalk$Chars"), (0, .class_ 39), (0, u "com/example/zspan/zspan/PrefixWalk$SearchedBytes"), (0, .class_ 41), (0, u "com/example/zspan/zspan/PrefixWalk$Bytes")] 6

def k2c0 : Code := { maxStack := 2, maxLocals := 2, code := prog_5_method_1_code, exceptionTable := #[], attributes := #[] }
def k2m0 : Method := { name := "<init>", desc := "([I)V", sig := { parameters := [(.array .int)], returnType := none }, accessFlags := 2, code := some k2c0 }
/-- com/example/zspan/zspan/PrefixWalk -/
def k2 : Class := { plain "com/example/zspan/zspan/PrefixWalk" (some 0) with
  accessFlags := 1056
  interfaces := #[]
  cf := some (fileOf pool2 8 #[.nestMembers #[32, 34, 36, 38, 40]] #[{ accessFlags := 2, nameIndex := 5, descriptorIndex := 20, attributes := #[] }] 1056 2 #[] #[{ accessFlags := 16, nameIndex := 11, descriptorIndex := 12, attributes := #[] }, { accessFlags := 0, nameIndex := 19, descriptorIndex := 16, attributes := #[] }, { accessFlags := 0, nameIndex := 15, descriptorIndex := 16, attributes := #[] }])
  fields := #[{ name := "z", type := (.array .int), accessFlags := 16, slot := 0, constantValue := 0 }, { name := "left", type := .int, accessFlags := 0, slot := 1, constantValue := 0 }, { name := "right", type := .int, accessFlags := 0, slot := 2, constantValue := 0 }]
  methods := #[k2m0]
  instanceTypes := #[(.array .int), .int, .int]
  staticTypes := #[]
  resolved := Array.replicate 48 none
  statics := none }

def pool3 : Array CpInfo := pool [(1, .methodref 2 3), (0, .class_ 4), (0, .nameAndType 5 6), (0, u "com/example/zspan/zspan/PrefixWalk"), (0, u "<init>"), (0, u "([I)V"), (0, .fieldref 8 9), (0, .class_ 10), (0, .nameAndType 11 12), (0, u "com/example/zspan/zspan/PrefixWalk$Bytes"), (0, u "pattern"), (0, u "[B"), (0, .fieldref 8 14), (0, .nameAndType 15 12), (0, u "text"), (0, .fieldref 8 17), (0, .nameAndType 18 19), (0, u "right"), (0, u "I"), (0, .fieldref 8 21), (0, .nameAndType 22 23), (0, u "z"), (0, u "[I"), (0, .fieldref 8 25), (0, .nameAndType 26 19), (0, u "left"), (0, .methodref 28 29), (0, .class_ 30), (0, .nameAndType 31 32), (0, u "java/lang/Math"), (0, u "min"), (0, u "(II)I"), (0, u "([I[B[B)V"), (2, u "at")] 6

def k3c0 : Code := { maxStack := 2, maxLocals := 4, code := prog_6_method_1_code, exceptionTable := #[], attributes := #[] }
def k3m0 : Method := { name := "<init>", desc := "([I[B[B)V", sig := { parameters := [(.array .int), (.array .byte), (.array .byte)], returnType := none }, accessFlags := 0, code := some k3c0 }
def k3c1 : Code := { maxStack := 4, maxLocals := 4, code := prog_6_method_2_code, exceptionTable := #[], attributes := #[] }
def k3m1 : Method := { name := "at", desc := "(II)I", sig := { parameters := [.int, .int], returnType := some .int }, accessFlags := 0, code := some k3c1 }
/-- com/example/zspan/zspan/PrefixWalk$Bytes -/
def k3 : Class := { plain "com/example/zspan/zspan/PrefixWalk$Bytes" (some 2) with
  accessFlags := 48
  interfaces := #[]
  cf := some (fileOf pool3 8 #[.nestHost 2] #[{ accessFlags := 0, nameIndex := 5, descriptorIndex := 33, attributes := #[] }, { accessFlags := 0, nameIndex := 36, descriptorIndex := 32, attributes := #[] }] 48 2 #[] #[{ accessFlags := 18, nameIndex := 11, descriptorIndex := 12, attributes := #[] }, { accessFlags := 18, nameIndex := 15, descriptorIndex := 12, attributes := #[] }])
  fields := #[{ name := "pattern", type := (.array .byte), accessFlags := 18, slot := 3, constantValue := 0 }, { name := "text", type := (.array .byte), accessFlags := 18, slot := 4, constantValue := 0 }]
  methods := #[k3m0, k3m1]
  instanceTypes := #[(.array .int), .int, .int, (.array .byte), (.array .byte)]
  staticTypes := #[]
  resolved := Array.replicate 43 none
  statics := none }

def pool4 : Array CpInfo := pool [(1, .class_ 2), (0, u "java/lang/Math"), (1, .class_ 6), (1, u "java/lang/Object"), (0, u "<init>"), (0, u "()V"), (89, .class_ 100), (1, u "java/lang/Math$RandomNumberGeneratorHolder"), (71, u "negativeZeroFloatBits"), (0, u "J"), (2, u "negativeZeroDoubleBits"), (24, u "min"), (43, u "$assertionsDisabled"), (0, u "Z"), (88, u "(II)I"), (2, u "twoToTheDoubleScaleDown"), (0, u "D"), (4, u "twoToTheDoubleScaleUp"), (9, u "E"), (3, u "PI"), (2, u "TAU"), (2, u "DEGREES_TO_RADIANS"), (0, u "RADIANS_TO_DEGREES")] 94

def k4m0 : Method := { name := "<init>", desc := "()V", sig := { parameters := [], returnType := none }, accessFlags := 2, code := none }
def k4c1 : Code := { maxStack := 2, maxLocals := 2, code := jdk_29_method_69_code, exceptionTable := #[], attributes := #[] }
def k4m1 : Method := { name := "min", desc := "(II)I", sig := { parameters := [.int, .int], returnType := some .int }, accessFlags := 9, code := some k4c1 }
/-- java/lang/Math -/
def k4 : Class := { plain "java/lang/Math" (some 0) with
  accessFlags := 49
  interfaces := #[]
  cf := some (fileOf pool4 1 #[.nestMembers #[98]] #[{ accessFlags := 2, nameIndex := 7, descriptorIndex := 8, attributes := #[] }, { accessFlags := 9, nameIndex := 201, descriptorIndex := 335, attributes := #[] }] 49 4 #[] #[{ accessFlags := 25, nameIndex := 354, descriptorIndex := 339, attributes := #[] }, { accessFlags := 25, nameIndex := 358, descriptorIndex := 339, attributes := #[] }, { accessFlags := 25, nameIndex := 361, descriptorIndex := 339, attributes := #[] }, { accessFlags := 26, nameIndex := 364, descriptorIndex := 339, attributes := #[] }, { accessFlags := 26, nameIndex := 365, descriptorIndex := 339, attributes := #[] }, { accessFlags := 26, nameIndex := 172, descriptorIndex := 173, attributes := #[] }, { accessFlags := 26, nameIndex := 176, descriptorIndex := 173, attributes := #[] }, { accessFlags := 8, nameIndex := 344, descriptorIndex := 339, attributes := #[] }, { accessFlags := 8, nameIndex := 338, descriptorIndex := 339, attributes := #[] }, { accessFlags := 4120, nameIndex := 245, descriptorIndex := 246, attributes := #[] }])
  fields := #[{ name := "E", type := .double, accessFlags := 25, slot := 0, constantValue := 0 }, { name := "PI", type := .double, accessFlags := 25, slot := 1, constantValue := 0 }, { name := "TAU", type := .double, accessFlags := 25, slot := 2, constantValue := 0 }, { name := "DEGREES_TO_RADIANS", type := .double, accessFlags := 26, slot := 3, constantValue := 0 }, { name := "RADIANS_TO_DEGREES", type := .double, accessFlags := 26, slot := 4, constantValue := 0 }, { name := "negativeZeroFloatBits", type := .long, accessFlags := 26, slot := 5, constantValue := 0 }, { name := "negativeZeroDoubleBits", type := .long, accessFlags := 26, slot := 6, constantValue := 0 }, { name := "twoToTheDoubleScaleUp", type := .double, accessFlags := 8, slot := 7, constantValue := 0 }, { name := "twoToTheDoubleScaleDown", type := .double, accessFlags := 8, slot := 8, constantValue := 0 }, { name := "$assertionsDisabled", type := .boolean, accessFlags := 4120, slot := 9, constantValue := 0 }]
  methods := #[k4m0, k4m1]
  instanceTypes := #[]
  staticTypes := #[.double, .double, .double, .double, .double, .long, .long, .double, .double, .boolean]
  resolved := Array.replicate 460 none
  statics := none }

def pool5 : Array CpInfo := pool [(1, u "java/lang/Cloneable"), (0, .class_ 1), (0, u "java/lang/Object"), (0, .class_ 3)] 3

/-- java/lang/Cloneable -/
def k5 : Class := { plain "java/lang/Cloneable" (some 0) with
  accessFlags := 1537
  interfaces := #[]
  cf := some (fileOf pool5 2 #[] #[] 1537 4 #[] #[])
  fields := #[]
  methods := #[]
  instanceTypes := #[]
  staticTypes := #[]
  resolved := Array.replicate 8 none
  statics := none }

def pool6 : Array CpInfo := pool [(1, u "java/io/Serializable"), (0, .class_ 1), (0, u "java/lang/Object"), (0, .class_ 3)] 3

/-- java/io/Serializable -/
def k6 : Class := { plain "java/io/Serializable" (some 0) with
  accessFlags := 1537
  interfaces := #[]
  cf := some (fileOf pool6 2 #[] #[] 1537 4 #[] #[])
  fields := #[]
  methods := #[]
  instanceTypes := #[]
  staticTypes := #[]
  resolved := Array.replicate 8 none
  statics := none }

/-- the primitive byte -/
def k7 : Class := { plain "byte" none with kind := .primitive 'B', accessFlags := 0x411 }
/-- [B -/
def k8 : Class := { plain "[B" (some 0) with kind := .array 7 .byte, interfaces := #[5, 6], accessFlags := 1041 }

/-- the primitive int -/
def k9 : Class := { plain "int" none with kind := .primitive 'I', accessFlags := 0x411 }
/-- [I -/
def k10 : Class := { plain "[I" (some 0) with kind := .array 9 .int, interfaces := #[5, 6], accessFlags := 1041 }

def heap : Heap := #[]
def classes : Array Class := #[k0, k1, k2, k3, k4, k5, k6, k7, k8, k9, k10]
def interned : List (Array UInt16 × Addr) := []
def slotsUsed : Nat := 0
def theMethod : MethodId := ⟨1, 4⟩
def args0 : Array Value := #[.int 5, .int 1, .int 3, .int 7]
def aboutOver (below : List Frame) : State where
  vm := { classes := classes, interned := interned.toArray }
  heap := heap
  slotsUsed := slotsUsed
  threads := #[{ frames := .invoking theMethod args0 :: below }]
def below0 : List Frame := [.native { method := ⟨0, 0⟩, args := #[] }]
def about1 : State := aboutOver below0
def p0 : Program := .bare "" "" ""
def e0 : Env := launch0.env 0 0 0
theorem w_frames : about1.frames = Frame.invoking theMethod args0 :: below0 := rfl
set_option maxRecDepth 65536 in
theorem w_args : argsFit about1.vm theMethod args0 = true := by decide +kernel
set_option maxRecDepth 65536 in
theorem w_heap : heapFits about1 = true := by decide +kernel
set_option maxRecDepth 65536 in
theorem w_runnable : about1.curStatus? = some .runnable := by decide +kernel
set_option maxRecDepth 65536 in
theorem w_alone : about1.alone = true := by decide +kernel
set_option maxRecDepth 65536 in
theorem w_named : about1.methodNamed? x = some theMethod := by decide +kernel
set_option maxRecDepth 65536 in
theorem w_hears : about1.hears theMethod below0 = true := by decide +kernel
set_option maxRecDepth 65536 in
theorem w_ripe : about1.ripe theMethod args0 below0 = true := by decide +kernel
theorem w_running : about1.status = .running := rfl
set_option maxRecDepth 65536 in
theorem w_room : about1.hasRoom e0.platform room_1 = true :=
  launch0.hasRoom_least _ room_1 (by decide +kernel) (by decide +kernel) (by decide +kernel) (by decide +kernel) (by decide +kernel) (by decide +kernel)
theorem allAtoms_all (ts : List Jvm.Cond) (a : Array Jvm.Value) (st : Jvm.State) : (allAtoms ts).before a st = ts.all (fun c => c.before a st) := by
  induction ts with
  | nil => rfl
  | cons c t ih =>
    show (Jvm.Cond.and c (allAtoms t)).before a st = _
    rw [Jvm.Cond.before_and, ih, List.all_cons]
def words1 : List Jvm.Cond := Jvm.Cond.code x code maxLocals ret :: tables_1
/-- a 'code' word, met by the world's own term for the bytes: nothing is compared byte by byte -/
theorem code_word {y : MethodName} {bytes : ByteArray} {mx : Nat} {rt : Option FieldType} {a : Array Value} {s : State} {m : MethodId} {meth : Method} {c : Code} (h1 : s.methodNamed? y = some m) (h2 : s.vm.method? m = some meth) (h3 : meth.code = some c) (h4 : c.code = bytes)
    (h5 : (c.maxLocals == mx && c.exceptionTable.isEmpty && decide (c.maxStack ≤ mostOperands) && decide (meth.sig.returnType = rt) && !meth.locks && decide (parseMethodDescriptor y.desc = some meth.sig)) = true) : (Jvm.Cond.code y bytes mx rt).before a s = true := by
  simp only [Bool.and_eq_true, beq_iff_eq, Bool.not_eq_true', decide_eq_true_eq] at h5
  obtain ⟨⟨⟨⟨⟨g1, g2⟩, g3⟩, g4⟩, g5⟩, g6⟩ := h5
  simp [Cond.before, Cond.holds, Cond.value, h1, h2, h3, h4, g1, g2, g3, g4, g5, g6]
def isCode : Jvm.Cond → Bool
  | .code _ _ _ _ => true
  | _ => false
theorem all_split {L : List Jvm.Cond} {P : Jvm.Cond → Bool} (h1 : L.all (fun c => isCode c || P c) = true) (h2 : ∀ c ∈ L.filter isCode, P c = true) : L.all P = true := by
  refine List.all_eq_true.mpr fun c hc => ?_
  have h := List.all_eq_true.mp h1 c hc
  rcases Bool.eq_false_or_eq_true (isCode c) with hi | hi
  · exact h2 c (List.mem_filter.mpr ⟨hc, hi⟩)
  · simpa [hi] using h
set_option maxRecDepth 65536 in
theorem w_c0 : (Jvm.Cond.code x code maxLocals ret).before args0 about1 = true := code_word (m := ⟨1, 4⟩) (meth := k1m4) (c := k1c4) (by decide +kernel) rfl rfl rfl (by decide +kernel)
set_option maxRecDepth 65536 in
theorem w_c1 : (Jvm.Cond.code ({ cls := "com/example/zspan/zspan/BytesAtPinLaw", name := "pick", desc := "(IIBB)B" } : Jvm.MethodName) method_2_code (4 : Nat) (Option.some Jvm.ClassFile.FieldType.byte)).before args0 about1 = true := code_word (m := ⟨1, 1⟩) (meth := k1m1) (c := k1c1) (by decide +kernel) rfl rfl rfl (by decide +kernel)
set_option maxRecDepth 65536 in
theorem w_c2 : (Jvm.Cond.code ({ cls := "com/example/zspan/zspan/BytesAtPinLaw", name := "lcp", desc := "([BI[BII)I" } : Jvm.MethodName) method_3_code (5 : Nat) (Option.some Jvm.ClassFile.FieldType.int)).before args0 about1 = true := code_word (m := ⟨1, 2⟩) (meth := k1m2) (c := k1c2) (by decide +kernel) rfl rfl rfl (by decide +kernel)
set_option maxRecDepth 65536 in
theorem w_c3 : (Jvm.Cond.code ({ cls := "com/example/zspan/zspan/PrefixWalk$Bytes", name := "<init>", desc := "([I[B[B)V" } : Jvm.MethodName) prog_6_method_1_code (4 : Nat) (Option.none : Option Jvm.ClassFile.FieldType)).before args0 about1 = true := code_word (m := ⟨3, 0⟩) (meth := k3m0) (c := k3c0) (by decide +kernel) rfl rfl rfl (by decide +kernel)
set_option maxRecDepth 65536 in
theorem w_c4 : (Jvm.Cond.code ({ cls := "com/example/zspan/zspan/PrefixWalk", name := "<init>", desc := "([I)V" } : Jvm.MethodName) prog_5_method_1_code (2 : Nat) (Option.none : Option Jvm.ClassFile.FieldType)).before args0 about1 = true := code_word (m := ⟨2, 0⟩) (meth := k2m0) (c := k2c0) (by decide +kernel) rfl rfl rfl (by decide +kernel)
set_option maxRecDepth 65536 in
theorem w_c5 : (Jvm.Cond.code ({ cls := "java/lang/Object", name := "<init>", desc := "()V" } : Jvm.MethodName) object_method_1_code (1 : Nat) (Option.none : Option Jvm.ClassFile.FieldType)).before args0 about1 = true := code_word (m := ⟨0, 0⟩) (meth := k0m0) (c := k0c0) (by decide +kernel) rfl rfl rfl (by decide +kernel)
set_option maxRecDepth 65536 in
theorem w_c6 : (Jvm.Cond.code ({ cls := "com/example/zspan/zspan/BytesAtPinLaw", name := "step", desc := "(Lcom/example/zspan/zspan/PrefixWalk$Bytes;[B[BIII)Z" } : Jvm.MethodName) method_4_code (7 : Nat) (Option.some Jvm.ClassFile.FieldType.boolean)).before args0 about1 = true := code_word (m := ⟨1, 3⟩) (meth := k1m3) (c := k1c3) (by decide +kernel) rfl rfl rfl (by decide +kernel)
set_option maxRecDepth 65536 in
theorem w_c7 : (Jvm.Cond.code ({ cls := "java/lang/Math", name := "min", desc := "(II)I" } : Jvm.MethodName) jdk_29_method_69_code (2 : Nat) (Option.some Jvm.ClassFile.FieldType.int)).before args0 about1 = true := code_word (m := ⟨4, 1⟩) (meth := k4m1) (c := k4c1) (by decide +kernel) rfl rfl rfl (by decide +kernel)
set_option maxRecDepth 65536 in
theorem w_c8 : (Jvm.Cond.code ({ cls := "com/example/zspan/zspan/PrefixWalk$Bytes", name := "at", desc := "(II)I" } : Jvm.MethodName) prog_6_method_2_code (4 : Nat) (Option.some Jvm.ClassFile.FieldType.int)).before args0 about1 = true := code_word (m := ⟨3, 1⟩) (meth := k3m1) (c := k3c1) (by decide +kernel) rfl rfl rfl (by decide +kernel)
def codes1 : List Jvm.Cond := [Jvm.Cond.code x code maxLocals ret, Jvm.Cond.code ({ cls := "com/example/zspan/zspan/BytesAtPinLaw", name := "pick", desc := "(IIBB)B" } : Jvm.MethodName) method_2_code (4 : Nat) (Option.some Jvm.ClassFile.FieldType.byte), Jvm.Cond.code ({ cls := "com/example/zspan/zspan/BytesAtPinLaw", name := "lcp", desc := "([BI[BII)I" } : Jvm.MethodName) method_3_code (5 : Nat) (Option.some Jvm.ClassFile.FieldType.int), Jvm.Cond.code ({ cls := "com/example/zspan/zspan/PrefixWalk$Bytes", name := "<init>", desc := "([I[B[B)V" } : Jvm.MethodName) prog_6_method_1_code (4 : Nat) (Option.none : Option Jvm.ClassFile.FieldType), Jvm.Cond.code ({ cls := "com/example/zspan/zspan/PrefixWalk", name := "<init>", desc := "([I)V" } : Jvm.MethodName) prog_5_method_1_code (2 : Nat) (Option.none : Option Jvm.ClassFile.FieldType), Jvm.Cond.code ({ cls := "java/lang/Object", name := "<init>", desc := "()V" } : Jvm.MethodName) object_method_1_code (1 : Nat) (Option.none : Option Jvm.ClassFile.FieldType), Jvm.Cond.code ({ cls := "com/example/zspan/zspan/BytesAtPinLaw", name := "step", desc := "(Lcom/example/zspan/zspan/PrefixWalk$Bytes;[B[BIII)Z" } : Jvm.MethodName) method_4_code (7 : Nat) (Option.some Jvm.ClassFile.FieldType.boolean), Jvm.Cond.code ({ cls := "java/lang/Math", name := "min", desc := "(II)I" } : Jvm.MethodName) jdk_29_method_69_code (2 : Nat) (Option.some Jvm.ClassFile.FieldType.int), Jvm.Cond.code ({ cls := "com/example/zspan/zspan/PrefixWalk$Bytes", name := "at", desc := "(II)I" } : Jvm.MethodName) prog_6_method_2_code (4 : Nat) (Option.some Jvm.ClassFile.FieldType.int)]
set_option maxRecDepth 65536 in
theorem codes_eq : words1.filter isCode = codes1 := rfl
theorem w_codes : ∀ c ∈ words1.filter isCode, c.before args0 about1 = true := by
  rw [codes_eq]
  intro c hc
  simp only [codes1, List.mem_cons, List.not_mem_nil, or_false] at hc
  rcases hc with rfl | rfl | rfl | rfl | rfl | rfl | rfl | rfl | rfl
  · exact w_c0
  · exact w_c1
  · exact w_c2
  · exact w_c3
  · exact w_c4
  · exact w_c5
  · exact w_c6
  · exact w_c7
  · exact w_c8
set_option maxRecDepth 65536 in
theorem w_t1 : (words1.take 24).all (fun c => isCode c || c.before args0 about1) = true := by decide +kernel
set_option maxRecDepth 65536 in
theorem w_t2 : ((words1.drop 24).take 24).all (fun c => isCode c || c.before args0 about1) = true := by decide +kernel
set_option maxRecDepth 65536 in
theorem w_t3 : ((words1.drop 24).drop 24).all (fun c => isCode c || c.before args0 about1) = true := by decide +kernel
theorem w_tables : (allAtoms (Jvm.Cond.code x code maxLocals ret :: tables_1)).before args0 about1 = true := by
  rw [allAtoms_all]
  show words1.all (fun c => c.before args0 about1) = true
  refine all_split ?_ w_codes
  rw [← List.take_append_drop 24 words1, List.all_append, w_t1, ← List.take_append_drop 24 (words1.drop 24), List.all_append, w_t2, w_t3]
  rfl
set_option maxRecDepth 65536 in
theorem w_case : (Jvm.Cond.and given_1 narrow_1).before args0 about1 = true := by decide +kernel
theorem w_applies : (headSpec (Jvm.Cond.code x code maxLocals ret :: tables_1) room_1).applies x e0.platform about1 = true :=
  (Spec.applies_iff w_frames).mpr ⟨w_running, w_runnable, w_alone, w_named, w_hears, w_ripe, w_room, w_tables⟩
theorem atStart : AtStart classFile x code maxLocals ret World_1 tables_1 room_1 Calls_1 rest_1 Pre_1 launch0 p0 e0 about1 theMethod args0 below0 :=
  ⟨lists_1, trivial, launch0.admits_env _ _ _, launch0.least_env, fairChoices_fair.cas, fairChoices_fair.clock, w_frames, w_args, w_heap, w_applies, trivial, trivial, w_case⟩
end start1
theorem witness_1 : WitnessClaimed_1 := ⟨start1.p0, start1.e0, start1.about1, start1.theMethod, start1.args0, start1.below0, start1.atStart⟩
end Jvm.Pilot.@@N@@
