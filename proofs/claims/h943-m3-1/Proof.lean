import JvmDerived
import JvmDerived.Pilot.@@N@@Statement
import JvmDerived.Pilot.@@N@@Code
set_option linter.unusedVariables false
set_option linter.unusedSimpArgs false
@@BLOCK:NumsL.lean.txt@@
namespace Jvm.Pilot.@@N@@
open Jvm Jvm.ClassFile Sem Op Lib Jvm.Free Jvm.Stand Jvm.LawKit Jvm.RoadKit Bundle Jvm.Pilot.@@N@@.Jvm.D
/-! OWN LAYER (one text for all claims of this seat): a walk's goal with its state hidden ('Go'), one rule an instruction. -/
/-- all that a walk through one body holds fixed -/
abbrev OwnK : Type := Program × Launch × Env × Room × State × MethodId × Array Value × List Frame × Method × Code × Nat × (Option Value → Heap → Prop)
namespace OwnK
abbrev p (K : OwnK) : Program := K.1
abbrev l (K : OwnK) : Launch := K.2.1
abbrev e (K : OwnK) : Env := K.2.2.1
abbrev R (K : OwnK) : Room := K.2.2.2.1
abbrev s (K : OwnK) : State := K.2.2.2.2.1
abbrev m (K : OwnK) : MethodId := K.2.2.2.2.2.1
abbrev args (K : OwnK) : Array Value := K.2.2.2.2.2.2.1
abbrev below (K : OwnK) : List Frame := K.2.2.2.2.2.2.2.1
abbrev meth (K : OwnK) : Method := K.2.2.2.2.2.2.2.2.1
abbrev c (K : OwnK) : Code := K.2.2.2.2.2.2.2.2.2.1
abbrev n0 (K : OwnK) : Nat := K.2.2.2.2.2.2.2.2.2.2.1
abbrev Post (K : OwnK) : Option Value → Heap → Prop := K.2.2.2.2.2.2.2.2.2.2.2
end OwnK
/-- a place of the walk -/
abbrev OwnSt (K : OwnK) (T : State) (locs : List Loc) (cells slots : Nat) : Prop := Stand K.p K.l K.e K.R K.s K.m K.args K.below K.meth K.c T locs cells slots
/-- from this state the run ends as the contract says -/
def OwnDone (K : OwnK) (t : State) : Prop :=
  ∃ s₂ o, Steps K.p.tables K.e K.below t s₂ ∧ s₂.status = .running ∧ Ended s₂ K.below o ∧ ∃ v L, o = .returned v ∧ (Fr K.n0 L ∧ K.Post v s₂.heap) ∧ FrameEnd K.s o s₂ L K.R.cells K.R.slots
/-- from every state at this pc, with these locals, this stack and this heap the run ends as the contract says -/
def Go (K : OwnK) (h : Heap) (cells slots pc : Nat) (Ls : List Slot) (st : List Value) : Prop :=
  ∀ T locs, OwnSt K T locs cells slots → T.heap = h → Fr K.n0 locs → OwnDone K (T.setTop (mkF K.m pc Ls.toArray st))
/-- what the walk through one body may lean on -/
def Cx (K : OwnK) (Z : State) (own name : String) (code : ByteArray) (maxL : Nat) (ret : Option FieldType) (R : Room) (n0 : Nat) (Post : Option Value → Heap → Prop) : Prop :=
  K.p.tables.exec = Jvm.exec ∧ K.c.code = code ∧ K.c.maxLocals = maxL ∧ K.s.vm.findClass own = some K.m.cls ∧ K.meth.name = name ∧ K.meth.sig.returnType = ret ∧ K.meth.locks = false ∧ Z.Warmed39 K.s.vm ∧ K.R = R ∧ K.n0 = n0 ∧ K.Post = Post
/-- a body's contract -/
def OwnMet (l : Launch) (y : MethodName) (bytes : ByteArray) (maxL : Nat) (ret : Option FieldType) (ws : List Jvm.Cond) (rm : Room) (Z : State) (h : Heap) (n0 : Nat) (as : Array Value) (P : Option Value → Heap → Prop) : Prop :=
  MetFree l y (head1 (Jvm.Cond.code y bytes maxL ret :: ws) rm) (fun a U => a = as ∧ Z.Warmed39 U.vm ∧ U.heap = h) (fun _ _ _ _ _ => True) (fun _ U o U' => ∃ v L, o = .returned v ∧ (Fr n0 L ∧ P v U'.heap) ∧ FrameEnd U o U' L rm.cells rm.slots)
theorem own_clamp (n : Int32) : n.toNatClampNeg = n.toInt.toNat := rfl
theorem own_newA (cA : ClassId) (ty : FieldType) (n : Int32) : (newA cA ty n).slots = Array.replicate n.toNatClampNeg (defaultValue ty) := rfl
theorem own_setSlot (c : Cell) (i : Nat) (v : Value) : (c.setSlot i v).slots = c.slots.setIfInBounds i v := rfl
theorem own_dnull (C : String) : defaultValue (.object C) = .null := rfl
section OwnLaws
variable {K : OwnK} {Z : State} {own name : String} {code : ByteArray} {maxL : Nat} {ret : Option FieldType} {R : Room} {n0 : Nat} {Post : Option Value → Heap → Prop} {h : Heap} {cells slots pc : Nat} {Ls Ls' : List Slot} {st rest : List Value} {a0 : Array Value}
theorem OwnDone.of {t t' : State} (k : ∀ target, Steps K.p.tables K.e K.below t' target → Steps K.p.tables K.e K.below t target) (d : OwnDone K t') : OwnDone K t := by
  obtain ⟨s₂, o, h1, r⟩ := d
  exact ⟨s₂, o, k _ h1, r⟩
theorem OwnMet.of {l : Launch} {desc : String} {bytes : ByteArray} {ws : List Jvm.Cond} {as : Array Value} (hp : plainFor (⟨own, name, desc⟩ : MethodName) = true) (ef : ∀ m, entryFrame m as maxL = mkF m 0 Ls.toArray [])
    (go : ∀ K : OwnK, K.l = l → Cx K Z own name bytes maxL ret R n0 Post → Go K h 0 0 0 Ls []) : OwnMet l ⟨own, name, desc⟩ bytes maxL ret ws R Z h n0 as Post := by
  refine MetFree.of_bodySF hp hisR ?_
  intro p e s m args below meth c s₁ Bd hml0 hP hK
  obtain ⟨rfl, hZ, hh⟩ := hP
  have g := go (p, l, e, R, s, m, args, below, meth, c, n0, Post) rfl ⟨Bd.exec, Bd.bytes, hml0, findClass_of_methodNamed Bd.named, (name_of_methodNamed Bd.named Bd.method).1, Bd.returns, Bd.notSynchronized, hZ, rfl, rfl, rfl⟩
  have d := g s₁ [] (Stand.of_body Bd) (by rw [← hh, Bd.state]; rfl) (Fr.nil n0)
  rw [ef m]
  exact d
theorem own_cut0 {A : Prop} (G : Prop) (h1 : G → A) (h2 : G) : A := h1 h2
theorem own_cut1 {α : Type} {A : Prop} (P G : α → Prop) (h1 : (∀ z, P z → G z) → A) (h2 : ∀ z, P z → G z) : A := h1 h2
theorem own_cut2 {α β : Type} {A : Prop} (P G : α → β → Prop) (h1 : (∀ z w, P z w → G z w) → A) (h2 : ∀ z w, P z w → G z w) : A := h1 h2
theorem own_cut3 {α β γ : Type} {A : Prop} (P G : α → β → γ → Prop) (h1 : (∀ z w u, P z w u → G z w u) → A) (h2 : ∀ z w u, P z w u → G z w u) : A := h1 h2
theorem Go.step {pc' : Nat} {st' : List Value} (g : Go K h cells slots pc' Ls' st') (f : ∀ T locs, OwnSt K T locs cells slots → ∀ target, Steps K.p.tables K.e K.below (T.setTop (mkF K.m pc' Ls'.toArray st')) target → Steps K.p.tables K.e K.below (T.setTop (mkF K.m pc Ls.toArray st)) target) : Go K h cells slots pc Ls st :=
  fun T locs X e N => OwnDone.of (f T locs X) (g T locs X e N)
/-! 1. loads, constants, stores -/
theorem w_iload (pc' : Nat) (C : Cx K Z own name code maxL ret R n0 Post) {k : Nat} {v : Int32} (hd : decode code pc = .ok (.iload k, 2)) (hp : pc + 2 = pc') (hl : Ls[k]? = some (.val (.int v))) (g : Go K h cells slots pc' Ls (.int v :: st)) : Go K h cells slots pc Ls st := by
  subst hp; exact g.step fun T locs X t q => XS.iload X.here C.1 rfl (hb C.2.1 hd) (by simpa using hl) q
theorem w_iloadN (pc' : Nat) (C : Cx K Z own name code maxL ret R n0 Post) {k : Fin 4} {v : Int32} (hd : decode code pc = .ok (.iload_n k, 1)) (hp : pc + 1 = pc') (hl : Ls[k.val]? = some (.val (.int v))) (g : Go K h cells slots pc' Ls (.int v :: st)) : Go K h cells slots pc Ls st := by
  subst hp; exact g.step fun T locs X t q => XS.iloadN X.here C.1 rfl (hb C.2.1 hd) (by simpa using hl) q
theorem w_lload (pc' : Nat) (C : Cx K Z own name code maxL ret R n0 Post) {k : Nat} {v : Int64} (hd : decode code pc = .ok (.lload k, 2)) (hp : pc + 2 = pc') (hl : Ls[k]? = some (.val (.long v))) (g : Go K h cells slots pc' Ls (.long v :: st)) : Go K h cells slots pc Ls st := by
  subst hp; exact g.step fun T locs X t q => XS.lload X.here C.1 rfl (hb C.2.1 hd) (by simpa using hl) q
theorem w_lloadN (pc' : Nat) (C : Cx K Z own name code maxL ret R n0 Post) {k : Fin 4} {v : Int64} (hd : decode code pc = .ok (.lload_n k, 1)) (hp : pc + 1 = pc') (hl : Ls[k.val]? = some (.val (.long v))) (g : Go K h cells slots pc' Ls (.long v :: st)) : Go K h cells slots pc Ls st := by
  subst hp; exact g.step fun T locs X t q => XS.lloadN X.here C.1 rfl (hb C.2.1 hd) (by simpa using hl) q
theorem w_aload (pc' : Nat) (C : Cx K Z own name code maxL ret R n0 Post) {k : Nat} {v : Value} (hd : decode code pc = .ok (.aload k, 2)) (hp : pc + 2 = pc') (hl : Ls[k]? = some (.val v)) (hv : v.isRef = true) (g : Go K h cells slots pc' Ls (v :: st)) : Go K h cells slots pc Ls st := by
  subst hp; exact g.step fun T locs X t q => XS.aload X.here C.1 rfl (hb C.2.1 hd) (by simpa using hl) hv q
theorem w_aloadN (pc' : Nat) (C : Cx K Z own name code maxL ret R n0 Post) {k : Fin 4} {v : Value} (hd : decode code pc = .ok (.aload_n k, 1)) (hp : pc + 1 = pc') (hl : Ls[k.val]? = some (.val v)) (hv : v.isRef = true) (g : Go K h cells slots pc' Ls (v :: st)) : Go K h cells slots pc Ls st := by
  subst hp; exact g.step fun T locs X t q => XS.aloadN X.here C.1 rfl (hb C.2.1 hd) (by simpa using hl) hv q
theorem w_iconst (pc' : Nat) (n : Int32) (C : Cx K Z own name code maxL ret R n0 Post) {i : Int} (hd : decode code pc = .ok (.iconst i, 1)) (hp : pc + 1 = pc') (hn : Int32.ofInt i = n) (g : Go K h cells slots pc' Ls (.int n :: st)) : Go K h cells slots pc Ls st := by
  subst hp hn; exact g.step fun T locs X t q => XS.iconst X.here C.1 rfl (hb C.2.1 hd) q
theorem w_bipush (pc' : Nat) (n : Int32) (C : Cx K Z own name code maxL ret R n0 Post) {i : Int} (hd : decode code pc = .ok (.bipush i, 2)) (hp : pc + 2 = pc') (hn : (Int8.ofInt i).toInt32 = n) (g : Go K h cells slots pc' Ls (.int n :: st)) : Go K h cells slots pc Ls st := by
  subst hp hn; exact g.step fun T locs X t q => XS.bipush X.here C.1 rfl (hb C.2.1 hd) q
theorem w_sipush (pc' : Nat) (n : Int32) (C : Cx K Z own name code maxL ret R n0 Post) {i : Int} (hd : decode code pc = .ok (.sipush i, 3)) (hp : pc + 3 = pc') (hn : (Int16.ofInt i).toInt32 = n) (g : Go K h cells slots pc' Ls (.int n :: st)) : Go K h cells slots pc Ls st := by
  subst hp hn; exact g.step fun T locs X t q => XS.sipush X.here C.1 rfl (hb C.2.1 hd) q
theorem w_lconst (pc' : Nat) (n : Int64) (C : Cx K Z own name code maxL ret R n0 Post) {k : Fin 2} (hd : decode code pc = .ok (.lconst k, 1)) (hp : pc + 1 = pc') (hn : Int64.ofNat k = n) (g : Go K h cells slots pc' Ls (.long n :: st)) : Go K h cells slots pc Ls st := by
  subst hp hn; exact g.step fun T locs X t q => XS.lconst X.here C.1 rfl (hb C.2.1 hd) q
theorem w_null (pc' : Nat) (C : Cx K Z own name code maxL ret R n0 Post) (hd : decode code pc = .ok (.aconst_null, 1)) (hp : pc + 1 = pc') (g : Go K h cells slots pc' Ls (.null :: st)) : Go K h cells slots pc Ls st := by
  subst hp; exact g.step fun T locs X t q => XS.aconstNull X.here C.1 rfl (hb C.2.1 hd) q
theorem w_ldc (pc' : Nat) (C : Cx K Z own name code maxL ret R n0 Post) {i : Nat} {v : Int32} (hd : decode code pc = .ok (.ldc i, 2)) (hp : pc + 2 = pc') (w : (Cond.constant own i v).before a0 Z = true) (g : Go K h cells slots pc' Ls (.int v :: st)) : Go K h cells slots pc Ls st := by
  subst hp; exact g.step fun T locs X t q => X.ldcInt C.1 C.2.2.2.1 (mvT C.2.2.2.2.2.2.2.1 w) (g := mkF K.m pc Ls.toArray st) rfl (hb C.2.1 hd) _ q
theorem w_ldcw (pc' : Nat) (C : Cx K Z own name code maxL ret R n0 Post) {i : Nat} {v : Int32} (hd : decode code pc = .ok (.ldc_w i, 3)) (hp : pc + 3 = pc') (w : (Cond.constant own i v).before a0 Z = true) (g : Go K h cells slots pc' Ls (.int v :: st)) : Go K h cells slots pc Ls st := by
  subst hp; exact g.step fun T locs X t q => X.ldcwInt C.1 C.2.2.2.1 (mvT C.2.2.2.2.2.2.2.1 w) (g := mkF K.m pc Ls.toArray st) rfl (hb C.2.1 hd) _ q
theorem w_ldc2 (pc' : Nat) (C : Cx K Z own name code maxL ret R n0 Post) {i : Nat} {v : Int64} (hd : decode code pc = .ok (.ldc2_w i, 3)) (hp : pc + 3 = pc') (w : (Cond.constantLong own i v).before a0 Z = true) (g : Go K h cells slots pc' Ls (.long v :: st)) : Go K h cells slots pc Ls st := by
  subst hp; exact g.step fun T locs X t q => X.ldc2Long C.1 C.2.2.2.1 (mvT C.2.2.2.2.2.2.2.1 w) (g := mkF K.m pc Ls.toArray st) rfl (hb C.2.1 hd) _ q
theorem w_istore (pc' : Nat) (Ls' : List Slot) (C : Cx K Z own name code maxL ret R n0 Post) {k : Nat} {x : Int32} (hd : decode code pc = .ok (.istore k, 2)) (hp : pc + 2 = pc') (hl : storeLocals Ls.toArray k (.int x) = some Ls'.toArray) (g : Go K h cells slots pc' Ls' st) : Go K h cells slots pc Ls (.int x :: st) := by
  subst hp; exact g.step fun T locs X t q => XS.istore X.here C.1 rfl (hb C.2.1 hd) rfl hl q
theorem w_istoreN (pc' : Nat) (Ls' : List Slot) (C : Cx K Z own name code maxL ret R n0 Post) {k : Fin 4} {x : Int32} (hd : decode code pc = .ok (.istore_n k, 1)) (hp : pc + 1 = pc') (hl : storeLocals Ls.toArray k.val (.int x) = some Ls'.toArray) (g : Go K h cells slots pc' Ls' st) : Go K h cells slots pc Ls (.int x :: st) := by
  subst hp; exact g.step fun T locs X t q => XS.istoreN X.here C.1 rfl (hb C.2.1 hd) rfl hl q
theorem w_lstore (pc' : Nat) (Ls' : List Slot) (C : Cx K Z own name code maxL ret R n0 Post) {k : Nat} {x : Int64} (hd : decode code pc = .ok (.lstore k, 2)) (hp : pc + 2 = pc') (hl : storeLocals Ls.toArray k (.long x) = some Ls'.toArray) (g : Go K h cells slots pc' Ls' st) : Go K h cells slots pc Ls (.long x :: st) := by
  subst hp; exact g.step fun T locs X t q => XS.lstore X.here C.1 rfl (hb C.2.1 hd) rfl hl q
theorem w_lstoreN (pc' : Nat) (Ls' : List Slot) (C : Cx K Z own name code maxL ret R n0 Post) {k : Fin 4} {x : Int64} (hd : decode code pc = .ok (.lstore_n k, 1)) (hp : pc + 1 = pc') (hl : storeLocals Ls.toArray k.val (.long x) = some Ls'.toArray) (g : Go K h cells slots pc' Ls' st) : Go K h cells slots pc Ls (.long x :: st) := by
  subst hp; exact g.step fun T locs X t q => XS.lstoreN X.here C.1 rfl (hb C.2.1 hd) rfl hl q
theorem w_astore (pc' : Nat) (Ls' : List Slot) (C : Cx K Z own name code maxL ret R n0 Post) {k : Nat} {x : Value} (hd : decode code pc = .ok (.astore k, 2)) (hp : pc + 2 = pc') (hv : x.isRef = true) (hl : storeLocals Ls.toArray k x = some Ls'.toArray) (g : Go K h cells slots pc' Ls' st) : Go K h cells slots pc Ls (x :: st) := by
  subst hp; exact g.step fun T locs X t q => XS.astore X.here C.1 rfl (hb C.2.1 hd) rfl hv hl q
theorem w_astoreN (pc' : Nat) (Ls' : List Slot) (C : Cx K Z own name code maxL ret R n0 Post) {k : Fin 4} {x : Value} (hd : decode code pc = .ok (.astore_n k, 1)) (hp : pc + 1 = pc') (hv : x.isRef = true) (hl : storeLocals Ls.toArray k.val x = some Ls'.toArray) (g : Go K h cells slots pc' Ls' st) : Go K h cells slots pc Ls (x :: st) := by
  subst hp; exact g.step fun T locs X t q => XS.astoreN X.here C.1 rfl (hb C.2.1 hd) rfl hv hl q
theorem w_iinc (pc' : Nat) (Ls' : List Slot) (C : Cx K Z own name code maxL ret R n0 Post) {k : Nat} {cst : Int} {x z : Int32} (hd : decode code pc = .ok (.iinc k cst, 3)) (hp : pc + 3 = pc') (hl : Ls[k]? = some (.val (.int x))) (hz : x + Int32.ofInt cst = z) (hs : storeLocals Ls.toArray k (.int z) = some Ls'.toArray) (g : Go K h cells slots pc' Ls' st) : Go K h cells slots pc Ls st := by
  subst hp hz; exact g.step fun T locs X t q => XS.iinc X.here C.1 rfl (hb C.2.1 hd) (by simpa using hl) hs q
/-! 2. arithmetic -/
theorem w_iadd (pc' : Nat) (C : Cx K Z own name code maxL ret R n0 Post) {x y : Int32} (hd : decode code pc = .ok (.iadd, 1)) (hp : pc + 1 = pc') (g : Go K h cells slots pc' Ls (.int (x + y) :: st)) : Go K h cells slots pc Ls (.int y :: .int x :: st) := by
  subst hp; exact g.step fun T locs X t q => XS.iadd X.here C.1 rfl (hb C.2.1 hd) rfl q
theorem w_isub (pc' : Nat) (C : Cx K Z own name code maxL ret R n0 Post) {x y : Int32} (hd : decode code pc = .ok (.isub, 1)) (hp : pc + 1 = pc') (g : Go K h cells slots pc' Ls (.int (x - y) :: st)) : Go K h cells slots pc Ls (.int y :: .int x :: st) := by
  subst hp; exact g.step fun T locs X t q => XS.isub X.here C.1 rfl (hb C.2.1 hd) rfl q
theorem w_imul (pc' : Nat) (C : Cx K Z own name code maxL ret R n0 Post) {x y : Int32} (hd : decode code pc = .ok (.imul, 1)) (hp : pc + 1 = pc') (g : Go K h cells slots pc' Ls (.int (x * y) :: st)) : Go K h cells slots pc Ls (.int y :: .int x :: st) := by
  subst hp; exact g.step fun T locs X t q => XS.imul X.here C.1 rfl (hb C.2.1 hd) rfl q
theorem w_iand (pc' : Nat) (C : Cx K Z own name code maxL ret R n0 Post) {x y : Int32} (hd : decode code pc = .ok (.iand, 1)) (hp : pc + 1 = pc') (g : Go K h cells slots pc' Ls (.int (x &&& y) :: st)) : Go K h cells slots pc Ls (.int y :: .int x :: st) := by
  subst hp; exact g.step fun T locs X t q => XS.iand X.here C.1 rfl (hb C.2.1 hd) rfl q
theorem w_ior (pc' : Nat) (C : Cx K Z own name code maxL ret R n0 Post) {x y : Int32} (hd : decode code pc = .ok (.ior, 1)) (hp : pc + 1 = pc') (g : Go K h cells slots pc' Ls (.int (x ||| y) :: st)) : Go K h cells slots pc Ls (.int y :: .int x :: st) := by
  subst hp; exact g.step fun T locs X t q => XS.ior X.here C.1 rfl (hb C.2.1 hd) rfl q
theorem w_ixor (pc' : Nat) (C : Cx K Z own name code maxL ret R n0 Post) {x y : Int32} (hd : decode code pc = .ok (.ixor, 1)) (hp : pc + 1 = pc') (g : Go K h cells slots pc' Ls (.int (x ^^^ y) :: st)) : Go K h cells slots pc Ls (.int y :: .int x :: st) := by
  subst hp; exact g.step fun T locs X t q => XS.ixor X.here C.1 rfl (hb C.2.1 hd) rfl q
theorem w_ishl (pc' : Nat) (C : Cx K Z own name code maxL ret R n0 Post) {x y : Int32} (hd : decode code pc = .ok (.ishl, 1)) (hp : pc + 1 = pc') (g : Go K h cells slots pc' Ls (.int (x <<< (y &&& 31)) :: st)) : Go K h cells slots pc Ls (.int y :: .int x :: st) := by
  subst hp; exact g.step fun T locs X t q => XS.ishl X.here C.1 rfl (hb C.2.1 hd) rfl q
theorem w_ishr (pc' : Nat) (C : Cx K Z own name code maxL ret R n0 Post) {x y : Int32} (hd : decode code pc = .ok (.ishr, 1)) (hp : pc + 1 = pc') (g : Go K h cells slots pc' Ls (.int (x >>> (y &&& 31)) :: st)) : Go K h cells slots pc Ls (.int y :: .int x :: st) := by
  subst hp; exact g.step fun T locs X t q => XS.ishr X.here C.1 rfl (hb C.2.1 hd) rfl q
theorem w_iushr (pc' : Nat) (C : Cx K Z own name code maxL ret R n0 Post) {x y : Int32} (hd : decode code pc = .ok (.iushr, 1)) (hp : pc + 1 = pc') (g : Go K h cells slots pc' Ls (.int ((x.toUInt32 >>> (y &&& 31).toUInt32).toInt32) :: st)) : Go K h cells slots pc Ls (.int y :: .int x :: st) := by
  subst hp; exact g.step fun T locs X t q => XS.iushr X.here C.1 rfl (hb C.2.1 hd) rfl q
theorem w_ladd (pc' : Nat) (C : Cx K Z own name code maxL ret R n0 Post) {x y : Int64} (hd : decode code pc = .ok (.ladd, 1)) (hp : pc + 1 = pc') (g : Go K h cells slots pc' Ls (.long (x + y) :: st)) : Go K h cells slots pc Ls (.long y :: .long x :: st) := by
  subst hp; exact g.step fun T locs X t q => XS.ladd X.here C.1 rfl (hb C.2.1 hd) rfl q
theorem w_lsub (pc' : Nat) (C : Cx K Z own name code maxL ret R n0 Post) {x y : Int64} (hd : decode code pc = .ok (.lsub, 1)) (hp : pc + 1 = pc') (g : Go K h cells slots pc' Ls (.long (x - y) :: st)) : Go K h cells slots pc Ls (.long y :: .long x :: st) := by
  subst hp; exact g.step fun T locs X t q => XS.lsub X.here C.1 rfl (hb C.2.1 hd) rfl q
theorem w_lmul (pc' : Nat) (C : Cx K Z own name code maxL ret R n0 Post) {x y : Int64} (hd : decode code pc = .ok (.lmul, 1)) (hp : pc + 1 = pc') (g : Go K h cells slots pc' Ls (.long (x * y) :: st)) : Go K h cells slots pc Ls (.long y :: .long x :: st) := by
  subst hp; exact g.step fun T locs X t q => XS.lmul X.here C.1 rfl (hb C.2.1 hd) rfl q
theorem w_land (pc' : Nat) (C : Cx K Z own name code maxL ret R n0 Post) {x y : Int64} (hd : decode code pc = .ok (.land, 1)) (hp : pc + 1 = pc') (g : Go K h cells slots pc' Ls (.long (x &&& y) :: st)) : Go K h cells slots pc Ls (.long y :: .long x :: st) := by
  subst hp; exact g.step fun T locs X t q => XS.land X.here C.1 rfl (hb C.2.1 hd) rfl q
theorem w_lor (pc' : Nat) (C : Cx K Z own name code maxL ret R n0 Post) {x y : Int64} (hd : decode code pc = .ok (.lor, 1)) (hp : pc + 1 = pc') (g : Go K h cells slots pc' Ls (.long (x ||| y) :: st)) : Go K h cells slots pc Ls (.long y :: .long x :: st) := by
  subst hp; exact g.step fun T locs X t q => XS.lor X.here C.1 rfl (hb C.2.1 hd) rfl q
theorem w_lxor (pc' : Nat) (C : Cx K Z own name code maxL ret R n0 Post) {x y : Int64} (hd : decode code pc = .ok (.lxor, 1)) (hp : pc + 1 = pc') (g : Go K h cells slots pc' Ls (.long (x ^^^ y) :: st)) : Go K h cells slots pc Ls (.long y :: .long x :: st) := by
  subst hp; exact g.step fun T locs X t q => XS.lxor X.here C.1 rfl (hb C.2.1 hd) rfl q
theorem w_lshl (pc' : Nat) (C : Cx K Z own name code maxL ret R n0 Post) {x : Int64} {y : Int32} (hd : decode code pc = .ok (.lshl, 1)) (hp : pc + 1 = pc') (g : Go K h cells slots pc' Ls (.long (x <<< (y &&& 0x3f).toInt64) :: st)) : Go K h cells slots pc Ls (.int y :: .long x :: st) := by
  subst hp; exact g.step fun T locs X t q => XS.lshl X.here C.1 rfl (hb C.2.1 hd) rfl q
theorem w_lshr (pc' : Nat) (C : Cx K Z own name code maxL ret R n0 Post) {x : Int64} {y : Int32} (hd : decode code pc = .ok (.lshr, 1)) (hp : pc + 1 = pc') (g : Go K h cells slots pc' Ls (.long (x >>> (y &&& 0x3f).toInt64) :: st)) : Go K h cells slots pc Ls (.int y :: .long x :: st) := by
  subst hp; exact g.step fun T locs X t q => XS.lshr X.here C.1 rfl (hb C.2.1 hd) rfl q
theorem w_lushr (pc' : Nat) (C : Cx K Z own name code maxL ret R n0 Post) {x : Int64} {y : Int32} (hd : decode code pc = .ok (.lushr, 1)) (hp : pc + 1 = pc') (g : Go K h cells slots pc' Ls (.long ((x.toUInt64 >>> (y &&& 0x3f).toInt64.toUInt64).toInt64) :: st)) : Go K h cells slots pc Ls (.int y :: .long x :: st) := by
  subst hp; exact g.step fun T locs X t q => XS.lushr X.here C.1 rfl (hb C.2.1 hd) rfl q
theorem w_ineg (pc' : Nat) (C : Cx K Z own name code maxL ret R n0 Post) {x : Int32} (hd : decode code pc = .ok (.ineg, 1)) (hp : pc + 1 = pc') (g : Go K h cells slots pc' Ls (.int (-x) :: st)) : Go K h cells slots pc Ls (.int x :: st) := by
  subst hp; exact g.step fun T locs X t q => XS.ineg X.here C.1 rfl (hb C.2.1 hd) rfl q
theorem w_lneg (pc' : Nat) (C : Cx K Z own name code maxL ret R n0 Post) {x : Int64} (hd : decode code pc = .ok (.lneg, 1)) (hp : pc + 1 = pc') (g : Go K h cells slots pc' Ls (.long (-x) :: st)) : Go K h cells slots pc Ls (.long x :: st) := by
  subst hp; exact g.step fun T locs X t q => XS.lneg X.here C.1 rfl (hb C.2.1 hd) rfl q
theorem w_i2l (pc' : Nat) (C : Cx K Z own name code maxL ret R n0 Post) {x : Int32} (hd : decode code pc = .ok (.i2l, 1)) (hp : pc + 1 = pc') (g : Go K h cells slots pc' Ls (.long (x.toInt64) :: st)) : Go K h cells slots pc Ls (.int x :: st) := by
  subst hp; exact g.step fun T locs X t q => XS.i2l X.here C.1 rfl (hb C.2.1 hd) rfl q
theorem w_l2i (pc' : Nat) (C : Cx K Z own name code maxL ret R n0 Post) {x : Int64} (hd : decode code pc = .ok (.l2i, 1)) (hp : pc + 1 = pc') (g : Go K h cells slots pc' Ls (.int (x.toInt32) :: st)) : Go K h cells slots pc Ls (.long x :: st) := by
  subst hp; exact g.step fun T locs X t q => XS.l2i X.here C.1 rfl (hb C.2.1 hd) rfl q
theorem w_i2b (pc' : Nat) (C : Cx K Z own name code maxL ret R n0 Post) {x : Int32} (hd : decode code pc = .ok (.i2b, 1)) (hp : pc + 1 = pc') (g : Go K h cells slots pc' Ls (.int (x.toInt8.toInt32) :: st)) : Go K h cells slots pc Ls (.int x :: st) := by
  subst hp; exact g.step fun T locs X t q => XS.i2b X.here C.1 rfl (hb C.2.1 hd) rfl q
theorem w_i2s (pc' : Nat) (C : Cx K Z own name code maxL ret R n0 Post) {x : Int32} (hd : decode code pc = .ok (.i2s, 1)) (hp : pc + 1 = pc') (g : Go K h cells slots pc' Ls (.int (x.toInt16.toInt32) :: st)) : Go K h cells slots pc Ls (.int x :: st) := by
  subst hp; exact g.step fun T locs X t q => XS.i2s X.here C.1 rfl (hb C.2.1 hd) rfl q
theorem w_i2c (pc' : Nat) (C : Cx K Z own name code maxL ret R n0 Post) {x : Int32} (hd : decode code pc = .ok (.i2c, 1)) (hp : pc + 1 = pc') (g : Go K h cells slots pc' Ls (.int (x.toUInt32.toUInt16.toUInt32.toInt32) :: st)) : Go K h cells slots pc Ls (.int x :: st) := by
  subst hp; exact g.step fun T locs X t q => XS.i2c X.here C.1 rfl (hb C.2.1 hd) rfl q
theorem w_idiv (pc' : Nat) (C : Cx K Z own name code maxL ret R n0 Post) {x y : Int32} (hd : decode code pc = .ok (.idiv, 1)) (hp : pc + 1 = pc') (hy : y ≠ 0) (g : Go K h cells slots pc' Ls (.int (x / y) :: st)) : Go K h cells slots pc Ls (.int y :: .int x :: st) := by
  subst hp; exact g.step fun T locs X t q => XS.idiv X.here C.1 rfl (hb C.2.1 hd) rfl hy q
theorem w_ldiv (pc' : Nat) (C : Cx K Z own name code maxL ret R n0 Post) {x y : Int64} (hd : decode code pc = .ok (.ldiv, 1)) (hp : pc + 1 = pc') (hy : y ≠ 0) (g : Go K h cells slots pc' Ls (.long (x / y) :: st)) : Go K h cells slots pc Ls (.long y :: .long x :: st) := by
  subst hp; exact g.step fun T locs X t q => XS.ldiv X.here C.1 rfl (hb C.2.1 hd) rfl hy q
theorem w_irem (pc' : Nat) (C : Cx K Z own name code maxL ret R n0 Post) {x y : Int32} (hd : decode code pc = .ok (.irem, 1)) (hp : pc + 1 = pc') (hy : y ≠ 0) (g : Go K h cells slots pc' Ls (.int (x % y) :: st)) : Go K h cells slots pc Ls (.int y :: .int x :: st) := by
  subst hp; exact g.step fun T locs X t q => iremM (g := mkF K.m pc Ls.toArray (.int y :: .int x :: st)) X C.1 rfl (hb C.2.1 hd) rfl hy q
theorem own_lrem (x y : Int64) : x - x / y * y = x % y := by
  apply Int64.toInt_inj.mp
  rw [Int64.toInt_sub, Int64.toInt_mul, Int64.toInt_div, Int64.toInt_mod, Int.tmod_def]
  have h1 := x.le_toInt; have h2 := x.toInt_lt
  have q : ((x.toInt.tdiv y.toInt).bmod (2 ^ 64) * y.toInt).bmod (2 ^ 64) = (x.toInt.tdiv y.toInt * y.toInt).bmod (2 ^ 64) := by rw [Int.bmod_mul_bmod]
  rw [q, Int.sub_bmod_bmod]
  rw [show x.toInt - x.toInt.tdiv y.toInt * y.toInt = x.toInt - y.toInt * x.toInt.tdiv y.toInt from by rw [Int.mul_comm], ← Int.tmod_def]
  have h3 : (x.toInt.tmod y.toInt).natAbs ≤ x.toInt.natAbs := by rw [Int.natAbs_tmod]; exact Nat.mod_le _ _
  have h4 := Int.tmod_nonneg (a := x.toInt) y.toInt
  have h5 := Int.tmod_nonneg (a := -x.toInt) y.toInt
  rw [Int.neg_tmod] at h5
  apply Int.bmod_eq_of_le <;> omega
theorem w_lrem (pc' : Nat) (C : Cx K Z own name code maxL ret R n0 Post) {x y : Int64} (hd : decode code pc = .ok (.lrem, 1)) (hp : pc + 1 = pc') (hy : y ≠ 0) (g : Go K h cells slots pc' Ls (.long (x % y) :: st)) : Go K h cells slots pc Ls (.long y :: .long x :: st) := by
  subst hp; exact g.step fun T locs X t q => XS.lrem X.here C.1 rfl (hb C.2.1 hd) rfl hy (by rw [own_lrem]; exact q)
theorem w_dup (pc' : Nat) (C : Cx K Z own name code maxL ret R n0 Post) {x : Value} (hd : decode code pc = .ok (.dup, 1)) (hp : pc + 1 = pc') (hc : x.category = 1) (g : Go K h cells slots pc' Ls (x :: x :: st)) : Go K h cells slots pc Ls (x :: st) := by
  subst hp; exact g.step fun T locs X t q => XS.dup X.here C.1 rfl (hb C.2.1 hd) rfl hc q
theorem w_pop (pc' : Nat) (C : Cx K Z own name code maxL ret R n0 Post) {x : Value} (hd : decode code pc = .ok (.pop, 1)) (hp : pc + 1 = pc') (hc : x.category = 1) (g : Go K h cells slots pc' Ls st) : Go K h cells slots pc Ls (x :: st) := by
  subst hp; exact g.step fun T locs X t q => XS.pop X.here C.1 rfl (hb C.2.1 hd) rfl hc q
theorem w_dupX1 (pc' : Nat) (C : Cx K Z own name code maxL ret R n0 Post) {x y : Value} (hd : decode code pc = .ok (.dup_x1, 1)) (hp : pc + 1 = pc') (hc : x.category = 1) (hc' : y.category = 1) (g : Go K h cells slots pc' Ls (x :: y :: x :: st)) : Go K h cells slots pc Ls (x :: y :: st) := by
  subst hp; exact g.step fun T locs X t q => XS.dupX1 X.here C.1 rfl (hb C.2.1 hd) rfl hc hc' q
/-! 3. jumps -/
theorem w_goto (pc' : Nat) (C : Cx K Z own name code maxL ret R n0 Post) {o : Int} (hd : decode code pc = .ok (.goto o, 3)) (hp : (pc : Int) + o = (pc' : Nat)) (g : Go K h cells slots pc' Ls st) : Go K h cells slots pc Ls st :=
  g.step fun T locs X t q => XS.goto X.here C.1 rfl (pc0 := pc) (pc' := pc') rfl (hb C.2.1 hd) (by omega) (by omega) q
/-- what a comparison asks, in plain words -/
def cP : ClassFile.Cond → Int32 → Int32 → Prop
  | .eq, x, y => x = y
  | .ne, x, y => ¬ (x = y)
  | .lt, x, y => x.toInt < y.toInt
  | .ge, x, y => y.toInt ≤ x.toInt
  | .gt, x, y => y.toInt < x.toInt
  | .le, x, y => x.toInt ≤ y.toInt
theorem own_icmpT {cd : ClassFile.Cond} {x y : Int32} (q : cP cd x y) : if_icmp.holds cd x y = true := by
  cases cd <;> simp only [cP] at q <;> simp [if_icmp.holds, Int32.lt_iff_toInt_lt, Int32.le_iff_toInt_le] <;> first | exact q | omega
theorem own_icmpF {cd : ClassFile.Cond} {x y : Int32} (q : ¬ cP cd x y) : if_icmp.holds cd x y = false := by
  cases cd <;> simp only [cP] at q <;> simp [if_icmp.holds, Int32.lt_iff_toInt_lt, Int32.le_iff_toInt_le] <;> first | exact q | omega | (simpa using q)
theorem w_icmpY (pc' : Nat) (C : Cx K Z own name code maxL ret R n0 Post) {cd : ClassFile.Cond} {x y : Int32} {o : Int} (hd : decode code pc = .ok (.if_icmp cd o, 3)) (hp : (pc : Int) + o = (pc' : Nat)) (q : cP cd x y) (g : Go K h cells slots pc' Ls st) : Go K h cells slots pc Ls (.int y :: .int x :: st) :=
  g.step fun T locs X t k => XS.icmpYes X.here C.1 rfl (pc0 := pc) (pc' := pc') rfl (hb C.2.1 hd) rfl (own_icmpT q) (by omega) (by omega) k
theorem w_icmpN (pc' : Nat) (C : Cx K Z own name code maxL ret R n0 Post) {cd : ClassFile.Cond} {x y : Int32} {o : Int} (hd : decode code pc = .ok (.if_icmp cd o, 3)) (hp : pc + 3 = pc') (q : ¬ cP cd x y) (g : Go K h cells slots pc' Ls st) : Go K h cells slots pc Ls (.int y :: .int x :: st) := by
  subst hp; exact g.step fun T locs X t k => XS.icmpNo X.here C.1 rfl (hb C.2.1 hd) rfl (own_icmpF q) k
theorem w_icmp (pcY pcN : Nat) (C : Cx K Z own name code maxL ret R n0 Post) {cd : ClassFile.Cond} {x y : Int32} {o : Int} (hd : decode code pc = .ok (.if_icmp cd o, 3)) (hp : (pc : Int) + o = (pcY : Nat)) (hn : pc + 3 = pcN) (gY : cP cd x y → Go K h cells slots pcY Ls st) (gN : ¬ cP cd x y → Go K h cells slots pcN Ls st) : Go K h cells slots pc Ls (.int y :: .int x :: st) := by
  by_cases q : cP cd x y
  · exact w_icmpY pcY C hd hp q (gY q)
  · exact w_icmpN pcN C hd hn q (gN q)
theorem w_ifY (pc' : Nat) (C : Cx K Z own name code maxL ret R n0 Post) {cd : ClassFile.Cond} {x : Int32} {o : Int} (hd : decode code pc = .ok (.ifCond cd o, 3)) (hp : (pc : Int) + o = (pc' : Nat)) (q : cP cd x 0) (g : Go K h cells slots pc' Ls st) : Go K h cells slots pc Ls (.int x :: st) :=
  g.step fun T locs X t k => XS.ifYes X.here C.1 rfl (pc0 := pc) (pc' := pc') rfl (hb C.2.1 hd) rfl ((if0 _ _).trans (own_icmpT q)) (by omega) (by omega) k
theorem w_ifN (pc' : Nat) (C : Cx K Z own name code maxL ret R n0 Post) {cd : ClassFile.Cond} {x : Int32} {o : Int} (hd : decode code pc = .ok (.ifCond cd o, 3)) (hp : pc + 3 = pc') (q : ¬ cP cd x 0) (g : Go K h cells slots pc' Ls st) : Go K h cells slots pc Ls (.int x :: st) := by
  subst hp; exact g.step fun T locs X t k => XS.ifNo X.here C.1 rfl (hb C.2.1 hd) rfl ((if0 _ _).trans (own_icmpF q)) k
theorem w_if (pcY pcN : Nat) (C : Cx K Z own name code maxL ret R n0 Post) {cd : ClassFile.Cond} {x : Int32} {o : Int} (hd : decode code pc = .ok (.ifCond cd o, 3)) (hp : (pc : Int) + o = (pcY : Nat)) (hn : pc + 3 = pcN) (gY : cP cd x 0 → Go K h cells slots pcY Ls st) (gN : ¬ cP cd x 0 → Go K h cells slots pcN Ls st) : Go K h cells slots pc Ls (.int x :: st) := by
  by_cases q : cP cd x 0
  · exact w_ifY pcY C hd hp q (gY q)
  · exact w_ifN pcN C hd hn q (gN q)
/-- lcmp and the branch behind it -/
def cL : ClassFile.Cond → Int64 → Int64 → Prop
  | .eq, x, y => x = y
  | .ne, x, y => ¬ (x = y)
  | .lt, x, y => x.toInt < y.toInt
  | .ge, x, y => y.toInt ≤ x.toInt
  | .gt, x, y => y.toInt < x.toInt
  | .le, x, y => x.toInt ≤ y.toInt
theorem own_lc (cd : ClassFile.Cond) (x y : Int64) : cP cd (lcmpW x y) 0 ↔ cL cd x y := by
  have h1 := lw_lt x y; have h2 := lw_gt x y; have h3 := lw_eq x y
  rw [Int32.lt_iff_toInt_lt, Int64.lt_iff_toInt_lt] at h1 h2
  cases cd <;> simp only [cP, cL]
  · exact h3
  · exact not_congr h3
  · exact h1
  · constructor <;> intro q <;> omega
  · exact h2
  · constructor <;> intro q <;> omega
theorem w_lcmp (pc' : Nat) (C : Cx K Z own name code maxL ret R n0 Post) {x y : Int64} (hd : decode code pc = .ok (.lcmp, 1)) (hp : pc + 1 = pc') (g : Go K h cells slots pc' Ls (.int (lcmpW x y) :: st)) : Go K h cells slots pc Ls (.long y :: .long x :: st) := by
  subst hp; exact g.step fun T locs X t q => XS.lcmp X.here C.1 rfl (hb C.2.1 hd) rfl q
theorem w_lifY (pc1 pc' : Nat) (C : Cx K Z own name code maxL ret R n0 Post) {cd : ClassFile.Cond} {x y : Int64} {o : Int} (hd0 : decode code pc = .ok (.lcmp, 1)) (hp0 : pc + 1 = pc1) (hd : decode code pc1 = .ok (.ifCond cd o, 3)) (hp : (pc1 : Int) + o = (pc' : Nat)) (q : cL cd x y) (g : Go K h cells slots pc' Ls st) : Go K h cells slots pc Ls (.long y :: .long x :: st) :=
  w_lcmp pc1 C hd0 hp0 (w_ifY pc' C hd hp ((own_lc cd x y).mpr q) g)
theorem w_lifN (pc1 pc' : Nat) (C : Cx K Z own name code maxL ret R n0 Post) {cd : ClassFile.Cond} {x y : Int64} {o : Int} (hd0 : decode code pc = .ok (.lcmp, 1)) (hp0 : pc + 1 = pc1) (hd : decode code pc1 = .ok (.ifCond cd o, 3)) (hp : pc1 + 3 = pc') (q : ¬ cL cd x y) (g : Go K h cells slots pc' Ls st) : Go K h cells slots pc Ls (.long y :: .long x :: st) :=
  w_lcmp pc1 C hd0 hp0 (w_ifN pc' C hd hp (fun z => q ((own_lc cd x y).mp z)) g)
theorem w_lif (pc1 pcY pcN : Nat) (C : Cx K Z own name code maxL ret R n0 Post) {cd : ClassFile.Cond} {x y : Int64} {o : Int} (hd0 : decode code pc = .ok (.lcmp, 1)) (hp0 : pc + 1 = pc1) (hd : decode code pc1 = .ok (.ifCond cd o, 3)) (hp : (pc1 : Int) + o = (pcY : Nat)) (hn : pc1 + 3 = pcN) (gY : cL cd x y → Go K h cells slots pcY Ls st) (gN : ¬ cL cd x y → Go K h cells slots pcN Ls st) : Go K h cells slots pc Ls (.long y :: .long x :: st) := by
  by_cases q : cL cd x y
  · exact w_lifY pc1 pcY C hd0 hp0 hd hp q (gY q)
  · exact w_lifN pc1 pcN C hd0 hp0 hd hn q (gN q)
theorem w_nullN (pc' : Nat) (C : Cx K Z own name code maxL ret R n0 Post) {b : Addr} {o : Int} (hd : decode code pc = .ok (.ifnull o, 3)) (hp : pc + 3 = pc') (g : Go K h cells slots pc' Ls st) : Go K h cells slots pc Ls (.ref b :: st) := by
  subst hp; exact g.step fun T locs X t k => XS.ifnullNo X.here C.1 rfl (hb C.2.1 hd) rfl k
theorem w_nonnullY (pc' : Nat) (C : Cx K Z own name code maxL ret R n0 Post) {b : Addr} {o : Int} (hd : decode code pc = .ok (.ifnonnull o, 3)) (hp : (pc : Int) + o = (pc' : Nat)) (g : Go K h cells slots pc' Ls st) : Go K h cells slots pc Ls (.ref b :: st) :=
  g.step fun T locs X t k => XS.ifnonnullYes X.here C.1 rfl (pc0 := pc) (pc' := pc') rfl (hb C.2.1 hd) rfl (by omega) (by omega) k
/-! 4. the end -/
theorem own_ret (C : Cx K Z own name code maxL ret R n0 Post) {v : Option Value} (hv : ret = none → v = none) (hc : cells ≤ R.cells) (hs : slots ≤ R.slots) (hq : Post v h)
    (hend : ∀ T locs, OwnSt K T locs cells slots → ∀ fs, (∀ (f : JFrame) (acts : List Action), f.method = K.m → f.locked = none → f.entered = [] → (doReturn K.e (T.setTop f) acts v).1 = T.setFrames fs) → Steps K.p.tables K.e K.below (T.setTop (mkF K.m pc Ls.toArray st)) (T.setFrames fs)) : Go K h cells slots pc Ls st := by
  obtain ⟨hx, hby, hml, hown, hnm, hret, hlk, hZ, hR, hn0, hPost⟩ := C
  intro T locs X eT N
  obtain ⟨fs, hr, hrun, hended, hW, hsame⟩ := X.leave (v := v) (fun q => hv (hret ▸ q)) hlk
  refine ⟨_, _, hend T locs X fs hr, hrun, hended, v, locs, rfl, ⟨N, ?_⟩, ⟨_, rfl⟩, hW, hsame.mono (by rw [hR]; exact hc) (by rw [hR]; exact hs)⟩
  rw [hPost]
  show Post v T.heap
  rw [eT]; exact hq
theorem w_retN {t : FieldType} (C : Cx K Z own name code maxL (some t) R n0 Post) (ht : t = .boolean ∨ t = .byte ∨ t = .char ∨ t = .short) {z z' : Int32} (hd : decode code pc = .ok (.ireturn, 1)) (hz : nar t z = z') (hc : cells ≤ R.cells) (hs : slots ≤ R.slots) (hq : Post (some (.int z')) h) : Go K h cells slots pc Ls (.int z :: st) := by
  subst hz
  exact own_ret C (fun q => by cases q) hc hs hq fun T locs X fs hr => retN X C.1 C.2.2.2.2.2.1 ht (hb C.2.1 hd) hr
theorem w_retI (C : Cx K Z own name code maxL (some .int) R n0 Post) {z : Int32} (hd : decode code pc = .ok (.ireturn, 1)) (hc : cells ≤ R.cells) (hs : slots ≤ R.slots) (hq : Post (some (.int z)) h) : Go K h cells slots pc Ls (.int z :: st) :=
  own_ret C (fun q => by cases q) hc hs hq fun T locs X fs hr => retOut X C.1 C.2.2.2.2.2.1 rfl (Or.inl ⟨rfl, Or.inl rfl, z, rfl⟩) (hb C.2.1 hd) hr
theorem w_retL (C : Cx K Z own name code maxL (some .long) R n0 Post) {z : Int64} (hd : decode code pc = .ok (.lreturn, 1)) (hc : cells ≤ R.cells) (hs : slots ≤ R.slots) (hq : Post (some (.long z)) h) : Go K h cells slots pc Ls (.long z :: st) :=
  own_ret C (fun q => by cases q) hc hs hq fun T locs X fs hr => retOut X C.1 C.2.2.2.2.2.1 rfl (Or.inr (Or.inl ⟨rfl, rfl, z, rfl⟩)) (hb C.2.1 hd) hr
theorem w_retA {t : FieldType} (C : Cx K Z own name code maxL (some t) R n0 Post) (ht : t.isReference = true) {z : Value} (hz : z.isRef = true) (hn : narrow t z = z) (hd : decode code pc = .ok (.areturn, 1)) (hc : cells ≤ R.cells) (hs : slots ≤ R.slots) (hq : Post (some z) h) : Go K h cells slots pc Ls (z :: st) :=
  own_ret C (fun q => by cases q) hc hs hq fun T locs X fs hr => retOut X C.1 C.2.2.2.2.2.1 hn (Or.inr (Or.inr (Or.inr (Or.inr ⟨rfl, ht, hz⟩)))) (hb C.2.1 hd) hr
theorem w_ret (C : Cx K Z own name code maxL none R n0 Post) (hd : decode code pc = .ok (.return_, 1)) (hc : cells ≤ R.cells) (hs : slots ≤ R.slots) (hq : Post none h) : Go K h cells slots pc Ls [] :=
  own_ret C (fun _ => rfl) hc hs hq fun T locs X fs hr => X.returnOut C.1 C.2.2.2.2.2.1 (hb C.2.1 hd) hr
/-! 5. arrays of ints, bytes .. -/
/-- the array at a holds these ints -/
def Ai (Z : State) (h : Heap) (a : Addr) (ty : FieldType) (vs : List Int32) : Prop := ∃ c : Cell, Arr Z h a c ty ∧ c.slots = (vs.map Value.int).toArray
theorem Ai.lt {a : Addr} {ty : FieldType} {vs : List Int32} (A : Ai Z h a ty vs) : a < h.size := by obtain ⟨c, A, -⟩ := A; exact A.lt
theorem Ai.keep {h' : Heap} {a : Addr} {ty : FieldType} {vs : List Int32} {ws : List Addr} (A : Ai Z h a ty vs) (K : Keep h h' ws) (q : a ∉ ws) : Ai Z h' a ty vs := by
  obtain ⟨c, A, r⟩ := A; exact ⟨c, ⟨K.2.1 a c A.1 q, A.2⟩, r⟩
theorem Ai.ext {h' : Heap} {a : Addr} {ty : FieldType} {vs : List Int32} (A : Ai Z h a ty vs) (E : Ext h h') : Ai Z h' a ty vs := by
  obtain ⟨c, A, r⟩ := A; exact ⟨c, A.ext E, r⟩
theorem own_idx {j : Int32} {i n : Nat} (hj : j.toInt = (i : Int)) (hi : i < n) : ¬ (j < 0 ∨ n ≤ j.toNatClampNeg) ∧ j.toNatClampNeg = i := by
  have q : j.toNatClampNeg = i := by rw [own_clamp, hj]; simp
  refine ⟨?_, q⟩
  rw [q, Int32.lt_iff_toInt_lt, hj]
  simp only [Int32.reduceToInt]
  omega
theorem w_newarr (pc' : Nat) (cap : Nat) (k : Nat) (C : Cx K Z own name code maxL ret R n0 Post) (hn0 : n0 ≤ h.size) {aty : ArrayType} {n : Int32} (hd : decode code pc = .ok (.newarray aty, 2)) (hp : pc + 2 = pc') (w : (Cond.arrayClass (newarray.typeOf aty)).before a0 Z = true) (hdef : defaultValue (newarray.typeOf aty) = .int 0) (hk : n.toInt = (k : Int)) (hcap : k ≤ cap) (hb0 : cap * 8 ≤ 536870912) (hc : cells + 1 ≤ R.cells) (hs : slots + cap ≤ R.slots)
    (g : ∀ h' a, Ext h h' → n0 ≤ a → h.size ≤ a → Ai Z h' a (newarray.typeOf aty) (List.replicate k 0) → n0 ≤ h'.size → Go K h' (cells + 1) (slots + cap) pc' Ls (.ref a :: st)) : Go K h cells slots pc Ls (.int n :: st) := by
  obtain ⟨hx, hby, hml, hown, hnm, hret, hlk, hZ, hR, hn, hPost⟩ := C
  subst hp
  intro T locs X eT N
  have hnn : ¬ n < 0 := by rw [Int32.lt_iff_toInt_lt, hk]; simp only [Int32.reduceToInt]; omega
  have hkn : n.toNatClampNeg = k := by rw [own_clamp, hk]; simp
  obtain ⟨T', h', cA, X', e', E, A, st'⟩ := newP X hx hZ w eT (g := mkF K.m pc Ls.toArray (.int n :: st)) rfl (hb hby hd) rfl hnn (cap := cap) (by omega) hb0 (by rw [hR]; exact hc) (by rw [hR]; exact hs)
  refine OwnDone.of (st' ·) (g h' h.size E hn0 (Nat.le_refl _) ⟨_, A, ?_⟩ (Nat.le_trans hn0 E.1) T' locs X' e' N)
  rw [own_newA, hkn, hdef]
  simp
theorem w_len (pc' : Nat) (z : Int32) (C : Cx K Z own name code maxL ret R n0 Post) {a : Addr} {ty : FieldType} {vs : List Int32} (A : Ai Z h a ty vs) (hd : decode code pc = .ok (.arraylength, 1)) (hp : pc + 1 = pc') (hz : vs.length.toInt32 = z) (g : Go K h cells slots pc' Ls (.int z :: st)) : Go K h cells slots pc Ls (.ref a :: st) := by
  obtain ⟨c, A, hc⟩ := A
  have hn : c.slots.size = vs.length := by rw [hc]; simp
  subst hp hz
  intro T locs X eT N
  refine OwnDone.of (fun t q => X.arraylength C.1 (by rw [eT]; exact A.1) (State.isArrayOf_alike C.2.2.2.2.2.2.2.1.alike A.2.1) (g := mkF K.m pc Ls.toArray (.ref a :: st)) rfl rfl (hb C.2.1 hd) t (by rw [hn]; exact q)) (g T locs X eT N)
theorem w_iaload (pc' : Nat) (i : Nat) (v : Int32) (C : Cx K Z own name code maxL ret R n0 Post) {a : Addr} {vs : List Int32} {j : Int32} (A : Ai Z h a .int vs) (hd : decode code pc = .ok (.iaload, 1)) (hp : pc + 1 = pc') (hj : j.toInt = (i : Int)) (hv : vs[i]? = some v) (g : Go K h cells slots pc' Ls (.int v :: st)) : Go K h cells slots pc Ls (.int j :: .ref a :: st) := by
  obtain ⟨c, A, hc⟩ := A
  have hi : i < vs.length := (List.getElem?_eq_some_iff.mp hv).1
  have hn : c.slots.size = vs.length := by rw [hc]; simp
  obtain ⟨q1, q2⟩ := own_idx (n := c.slots.size) hj (by rw [hn]; exact hi)
  have hat : c.slots[j.toNatClampNeg]? = some (.int v) := by rw [hc, q2]; simp [hv]
  subst hp
  intro T locs X eT N
  exact OwnDone.of (fun t q => X.iaload C.1 (by rw [eT]; exact A.1) (State.isArrayOf_alike C.2.2.2.2.2.2.2.1.alike A.2.1) A.2.2 q1 hat (g := mkF K.m pc Ls.toArray (.int j :: .ref a :: st)) rfl rfl (hb C.2.1 hd) t q) (g T locs X eT N)
theorem w_baload (pc' : Nat) (i : Nat) (v : Int32) (C : Cx K Z own name code maxL ret R n0 Post) {a : Addr} {vs : List Int32} {j : Int32} (A : Ai Z h a .byte vs) (hd : decode code pc = .ok (.baload, 1)) (hp : pc + 1 = pc') (hj : j.toInt = (i : Int)) (hv : vs[i]? = some v) (g : Go K h cells slots pc' Ls (.int v :: st)) : Go K h cells slots pc Ls (.int j :: .ref a :: st) := by
  obtain ⟨c, A, hc⟩ := A
  have hi : i < vs.length := (List.getElem?_eq_some_iff.mp hv).1
  have hn : c.slots.size = vs.length := by rw [hc]; simp
  obtain ⟨q1, q2⟩ := own_idx (n := c.slots.size) hj (by rw [hn]; exact hi)
  have hat : c.slots[j.toNatClampNeg]? = some (.int v) := by rw [hc, q2]; simp [hv]
  subst hp
  intro T locs X eT N
  exact OwnDone.of (fun t q => X.baloadBytes C.1 (by rw [eT]; exact A.1) (State.isArrayOf_alike C.2.2.2.2.2.2.2.1.alike A.2.1) A.2.2 q1 hat (g := mkF K.m pc Ls.toArray (.int j :: .ref a :: st)) rfl rfl (hb C.2.1 hd) t q) (g T locs X eT N)
theorem own_set {h' : Heap} {a : Addr} {ty : FieldType} {vs : List Int32} {c : Cell} {i : Nat} {x : Int32} (A : Arr Z h a c ty) (hc : c.slots = (vs.map Value.int).toArray) (W : Wr h h' a i (.int x)) : Ai Z h' a ty (vs.set i x) :=
  ⟨_, A.same W, by rw [own_setSlot, hc]; simp [List.map_set]⟩
theorem w_iastore (pc' : Nat) (i : Nat) (C : Cx K Z own name code maxL ret R n0 Post) {a : Addr} {vs : List Int32} {j x : Int32} (A : Ai Z h a .int vs) (ha : n0 ≤ a) (hd : decode code pc = .ok (.iastore, 1)) (hp : pc + 1 = pc') (hj : j.toInt = (i : Int)) (hi : i < vs.length)
    (g : ∀ h', Keep h h' [a] → Ai Z h' a .int (vs.set i x) → Go K h' cells slots pc' Ls st) : Go K h cells slots pc Ls (.int x :: .int j :: .ref a :: st) := by
  obtain ⟨c, A, hc⟩ := A
  have hn : c.slots.size = vs.length := by rw [hc]; simp
  obtain ⟨q1, q2⟩ := own_idx (n := c.slots.size) hj (by rw [hn]; exact hi)
  subst hp
  intro T locs X eT N
  obtain ⟨T', h', X', e', W, st'⟩ := stI X C.1 C.2.2.2.2.2.2.2.1 eT A (j := j) (x := x) q1 (g := mkF K.m pc Ls.toArray (.int x :: .int j :: .ref a :: st)) rfl rfl (hb C.2.1 hd)
  rw [q2] at X' W
  exact OwnDone.of (st' ·) (g h' (Keep.of_wr W) (own_set A hc W) T' _ X' e' (Fr.snoc X' N (by rw [C.2.2.2.2.2.2.2.2.2.1]; exact ha)))
theorem w_bastore (pc' : Nat) (i : Nat) (x' : Int32) (C : Cx K Z own name code maxL ret R n0 Post) {a : Addr} {vs : List Int32} {j x : Int32} (A : Ai Z h a .byte vs) (ha : n0 ≤ a) (hd : decode code pc = .ok (.bastore, 1)) (hp : pc + 1 = pc') (hj : j.toInt = (i : Int)) (hi : i < vs.length) (hx' : x.toInt8.toInt32 = x')
    (g : ∀ h', Keep h h' [a] → Ai Z h' a .byte (vs.set i x') → Go K h' cells slots pc' Ls st) : Go K h cells slots pc Ls (.int x :: .int j :: .ref a :: st) := by
  obtain ⟨c, A, hc⟩ := A
  have hn : c.slots.size = vs.length := by rw [hc]; simp
  obtain ⟨q1, q2⟩ := own_idx (n := c.slots.size) hj (by rw [hn]; exact hi)
  subst hp hx'
  intro T locs X eT N
  obtain ⟨T', h', X', e', W, st'⟩ := stB X C.1 C.2.2.2.2.2.2.2.1 eT A (j := j) (x := x) q1 (g := mkF K.m pc Ls.toArray (.int x :: .int j :: .ref a :: st)) rfl rfl (hb C.2.1 hd)
  rw [q2] at X' W
  exact OwnDone.of (st' ·) (g h' (Keep.of_wr W) (own_set A hc W) T' _ X' e' (Fr.snoc X' N (by rw [C.2.2.2.2.2.2.2.2.2.1]; exact ha)))
/-! 6. objects -/
theorem w_new (pc' : Nat) {Cn : String} {n i : Nat} (C : Cx K Z own name code maxL ret R n0 Post) (hn0 : n0 ≤ h.size) (hd : decode code pc = .ok (.new i, 3)) (hp : pc + 3 = pc') (w1 : (Cond.classLink own i Cn).before a0 Z = true) (w2 : (Cond.instantiable Cn n).before a0 Z = true) (w3 : (Cond.initialized Cn).before a0 Z = true) (hc : cells + 1 ≤ R.cells) (hs : slots + n ≤ R.slots)
    (g : ∀ h' a, Ext h h' → n0 ≤ a → h.size ≤ a → Exa Z h' a Cn → (∀ {O nm d : String} {ty : FieldType}, Laid Z a0 Cn O nm d → parseFieldDescriptor d = some ty → Fld Z h' a O nm d (defaultValue ty)) → n0 ≤ h'.size → Go K h' (cells + 1) (slots + n) pc' Ls (.ref a :: st)) : Go K h cells slots pc Ls st := by
  obtain ⟨hx, hby, hml, hown, hnm, hret, hlk, hZ, hR, hn, hPost⟩ := C
  subst hp
  intro T locs X eT N
  obtain ⟨T', h', X', e', E, A, D, -, st'⟩ := newO X hx hZ hown w1 w2 w3 eT (g := mkF K.m pc Ls.toArray st) rfl (hb hby hd) (by rw [hR]; exact hc) (by rw [hR]; exact hs)
  exact OwnDone.of (st' ·) (g h' h.size E hn0 (Nat.le_refl _) A D (Nat.le_trans hn0 E.1) T' locs X' e' N)
theorem w_getF (pc' : Nat) {R0 O n d host : String} {i : Nat} (C : Cx K Z own name code maxL ret R n0 Post) {a : Addr} {v : Value} (F : Fld Z h a O n d v) (hd : decode code pc = .ok (.getfield i, 3)) (hp : pc + 3 = pc') (w : (Cond.fieldLink own i R0 n d).before a0 Z = true ∨ (Cond.fieldLinkNest own i R0 n d host).before a0 Z = true) (via : Via Z R0 O n d) (g : Go K h cells slots pc' Ls (v :: st)) : Go K h cells slots pc Ls (.ref a :: st) := by
  subst hp
  intro T locs X eT N
  obtain ⟨T', X', e', st'⟩ := getF X C.1 C.2.2.2.2.2.2.2.1 C.2.2.2.1 w via eT F (g := mkF K.m pc Ls.toArray (.ref a :: st)) rfl rfl (hb C.2.1 hd)
  exact OwnDone.of (st' ·) (g T' locs X' e' N)
theorem w_putF (pc' : Nat) {R0 O n d host Cn : String} {i kk : Nat} {ty : FieldType} (C : Cx K Z own name code maxL ret R n0 Post) {a : Addr} {v old : Value} (F : Fld Z h a O n d old) (E : Exa Z h a Cn) (ha : n0 ≤ a) (hd : decode code pc = .ok (.putfield i, 3)) (hp : pc + 3 = pc') (w : (Cond.fieldLink own i R0 n d).before a0 Z = true ∨ (Cond.fieldLinkNest own i R0 n d host).before a0 Z = true) (via : Via Z R0 O n d)
    (L : (Cond.lays Cn O n d).before a0 Z = true ∨ ((Cond.laysFinal Cn O n d).before a0 Z = true ∧ own = O ∧ name = "<init>")) (wi : (Cond.instantiable Cn kk).before a0 Z = true) (hty : parseFieldDescriptor d = some ty) (hn : narrow ty v = v) (hf : fits ty v = true)
    (g : ∀ h', Keep h h' [a] → Wr h h' a (Jvm.RoadKit.slotOf Z O n d) v → Fld Z h' a O n d v → Exa Z h' a Cn → Go K h' cells slots pc' Ls st) : Go K h cells slots pc Ls (v :: .ref a :: st) := by
  subst hp
  intro T locs X eT N
  obtain ⟨T', h', X', e', W, st'⟩ := putF X C.1 C.2.2.2.2.2.2.2.1 C.2.2.2.1 w via eT F E (L.imp id fun q => ⟨q.1, q.2.1, C.2.2.2.2.1.trans q.2.2⟩) wi hty hn hf (g := mkF K.m pc Ls.toArray (v :: .ref a :: st)) rfl rfl (hb C.2.1 hd)
  exact OwnDone.of (st' ·) (g h' (Keep.of_wr W) W (F.same W) (E.wr W) T' _ X' e' (Fr.snoc X' N (by rw [C.2.2.2.2.2.2.2.2.2.1]; exact ha)))
theorem w_initO (pc' W : Nat) {i : Nat} (C : Cx K Z own name code maxL ret R n0 Post) {a : Addr} (hd : decode code pc = .ok (.invokespecial i, 3)) (hp : pc + 3 = pc') (w1 : (Cond.methodLink own i Lib.objectInit).before a0 Z = true) (w2 : (Cond.instanceMethod Lib.objectInit).before a0 Z = true) (w3 : (Cond.code Lib.objectInit ⟨#[0xb1]⟩ 1 none).before a0 Z = true)
    (hsz : Ls.length = maxL) (hf : 1 ≤ R.frames) (hW : (st.map fun v => v.category).sum ≤ W) (hl : W + 12 ≤ R.locals) (g : Go K h cells slots pc' Ls st) : Go K h cells slots pc Ls (.ref a :: st) := by
  obtain ⟨hx, hby, hml, hown, hnm, hret, hlk, hZ, hR, hn, hPost⟩ := C
  subst hp
  intro T locs X eT N
  obtain ⟨T', X', e', st'⟩ := initO X hx hZ hown w1 w2 w3 eT (g := mkF K.m pc Ls.toArray (.ref a :: st)) rfl (by rw [hml]; simpa using hsz) rfl (hb hby hd) (by rw [hR]; exact hf) (W := W) (by show 2 * 0 + _ ≤ _; simpa using hW) (by rw [hR]; exact hl)
  exact OwnDone.of (st' ·) (g T' locs X' e' N)
/-! 7. calls -/
theorem w_callS (pc' W : Nat) {y : MethodName} {bytes : ByteArray} {mL i : Nat} {rt : Option FieldType} {rm : Room} {P : Option Value → Heap → Prop} (argsL : List Value) (C : Cx K Z own name code maxL ret R n0 Post) (hd : decode code pc = .ok (.invokestatic i, 3)) (hp : pc + 3 = pc')
    (w1 : (Cond.methodLink own i y).before a0 Z = true) (w2 : (Cond.static y).before a0 Z = true) (w3 : (Cond.initialized y.cls).before a0 Z = true) (w4 : (Cond.code y bytes mL rt).before a0 Z = true) (hy : y.cls ≠ "java/lang/invoke/MethodHandle" ∧ y.cls ≠ "java/lang/invoke/VarHandle")
    (hM : OwnMet K.l y bytes mL rt [] rm Z h n0 argsL.toArray P) {ps : List FieldType} {r : Option FieldType} (hpd : parseMethodDescriptor y.desc = some ⟨ps, r⟩) (hlen : argsL.length = ps.length)
    (hst : st = argsL.reverse ++ rest) (hsz : Ls.length = maxL) (hW : (rest.map fun v => v.category).sum ≤ W) (hf : rm.frames + 1 ≤ R.frames) (hl : W + (mL + 11) + rm.locals ≤ R.locals) (hc : cells + rm.cells ≤ R.cells) (hs : slots + rm.slots ≤ R.slots)
    (g : ∀ v h', P v h' → Go K h' (cells + rm.cells) (slots + rm.slots) pc' Ls (v.toList ++ rest)) : Go K h cells slots pc Ls st := by
  obtain ⟨hx, hby, hml, hown, hnm, hret, hlk, hZ, hR, hn, hPost⟩ := C
  subst hp hst
  intro T locs X eT N
  obtain ⟨v, vm₁, ⟨T', L', k', n'⟩, -, X', ⟨Lc, hQ, l1, y1, z1⟩, st'⟩ := Jvm.LawKit.callS X hx (y := y) hown (mvT hZ w1) (mvT hZ w2) (mvT hZ w3) (mvT hZ w4) hy (backOf (W := W) (Q := fun v h L => Fr n0 L ∧ P v h) hM hZ w4 w3 (by rw [hR]; exact hf) (by rw [hR]; exact hl)) (g := mkF K.m pc Ls.toArray (argsL.reverse ++ rest)) rfl (by rw [hml]; simpa using hsz) (argsL := argsL) (rest := rest) (lenOf hpd hlen) rfl (by show 2 * 0 + _ ≤ _; simpa using hW) (hb hby hd) (fun _ _ => ⟨rfl, eT, by rw [hR]; exact hc, by rw [hR]; exact hs⟩)
  dsimp only [Pt.U, Pt.locs, Pt.cells, Pt.slots] at X' l1 y1 z1 st' hQ
  subst l1 y1 z1
  exact OwnDone.of (st' ·) (g v T'.heap hQ.2 T' _ X' rfl (Fr.app N (by rw [hn]; exact hQ.1)))
theorem w_callI (pc' W : Nat) {y : MethodName} {bytes : ByteArray} {mL i : Nat} {rm : Room} {P : Option Value → Heap → Prop} (argsL : List Value) (C : Cx K Z own name code maxL ret R n0 Post) {a : Addr} (hd : decode code pc = .ok (.invokespecial i, 3)) (hp : pc + 3 = pc') (hy1 : y.name = "<init>")
    (w1 : (Cond.methodLink own i y).before a0 Z = true) (w2 : (Cond.instanceMethod y).before a0 Z = true) (w3 : (Cond.initialized y.cls).before a0 Z = true) (w4 : (Cond.code y bytes mL none).before a0 Z = true) (hy : y.cls ≠ "java/lang/invoke/MethodHandle" ∧ y.cls ≠ "java/lang/invoke/VarHandle")
    (hM : OwnMet K.l y bytes mL none [] rm Z h n0 (.ref a :: argsL).toArray P) {ps : List FieldType} {r : Option FieldType} (hpd : parseMethodDescriptor y.desc = some ⟨ps, r⟩) (hlen : argsL.length = ps.length)
    (hst : st = argsL.reverse ++ .ref a :: rest) (hsz : Ls.length = maxL) (hW : (rest.map fun v => v.category).sum ≤ W) (hf : rm.frames + 1 ≤ R.frames) (hl : W + (mL + 11) + rm.locals ≤ R.locals) (hc : cells + rm.cells ≤ R.cells) (hs : slots + rm.slots ≤ R.slots)
    (g : ∀ v h', P v h' → Go K h' (cells + rm.cells) (slots + rm.slots) pc' Ls (v.toList ++ rest)) : Go K h cells slots pc Ls st := by
  obtain ⟨hx, hby, hml, hown, hnm, hret, hlk, hZ, hR, hn, hPost⟩ := C
  subst hp hst
  intro T locs X eT N
  obtain ⟨v, vm₁, ⟨T', L', k', n'⟩, -, X', ⟨Lc, hQ, l1, y1, z1⟩, st'⟩ := X.specialBack hx (y := y) hy1 hown (mvT hZ w1) (mvT hZ w2) (mvT hZ w4) hy (backOf (W := W) (Q := fun v h L => Fr n0 L ∧ P v h) hM hZ w4 w3 (by rw [hR]; exact hf) (by rw [hR]; exact hl)) (g := mkF K.m pc Ls.toArray (argsL.reverse ++ .ref a :: rest)) rfl (by rw [hml]; simpa using hsz) (Steps.refl _) (a := a) (argsL := argsL) (rest := rest) (lenOf hpd hlen) rfl (by show 2 * 0 + _ ≤ _; simpa using hW) (hb hby hd) (fun _ _ => ⟨rfl, eT, by rw [hR]; exact hc, by rw [hR]; exact hs⟩)
  dsimp only [Pt.U, Pt.locs, Pt.cells, Pt.slots] at X' l1 y1 z1 st' hQ
  subst l1 y1 z1
  exact OwnDone.of (fun t q => st'.trans q) (g v T'.heap hQ.2 T' _ X' rfl (Fr.app N (by rw [hn]; exact hQ.1)))
theorem w_callIN (pc' W : Nat) {host : String} {y : MethodName} {bytes : ByteArray} {mL i : Nat} {rm : Room} {P : Option Value → Heap → Prop} (argsL : List Value) (C : Cx K Z own name code maxL ret R n0 Post) {a : Addr} (hd : decode code pc = .ok (.invokespecial i, 3)) (hp : pc + 3 = pc') (hy1 : y.name = "<init>")
    (w1 : (Cond.methodLinkNest own i y host).before a0 Z = true) (w2 : (Cond.instanceMethod y).before a0 Z = true) (w3 : (Cond.initialized y.cls).before a0 Z = true) (w4 : (Cond.code y bytes mL none).before a0 Z = true) (hy : y.cls ≠ "java/lang/invoke/MethodHandle" ∧ y.cls ≠ "java/lang/invoke/VarHandle")
    (hM : OwnMet K.l y bytes mL none [] rm Z h n0 (.ref a :: argsL).toArray P) {ps : List FieldType} {r : Option FieldType} (hpd : parseMethodDescriptor y.desc = some ⟨ps, r⟩) (hlen : argsL.length = ps.length)
    (hst : st = argsL.reverse ++ .ref a :: rest) (hsz : Ls.length = maxL) (hW : (rest.map fun v => v.category).sum ≤ W) (hf : rm.frames + 1 ≤ R.frames) (hl : W + (mL + 11) + rm.locals ≤ R.locals) (hc : cells + rm.cells ≤ R.cells) (hs : slots + rm.slots ≤ R.slots)
    (g : ∀ v h', P v h' → Go K h' (cells + rm.cells) (slots + rm.slots) pc' Ls (v.toList ++ rest)) : Go K h cells slots pc Ls st := by
  obtain ⟨hx, hby, hml, hown, hnm, hret, hlk, hZ, hR, hn, hPost⟩ := C
  subst hp hst
  intro T locs X eT N
  obtain ⟨v, vm₁, ⟨T', L', k', n'⟩, -, X', ⟨Lc, hQ, l1, y1, z1⟩, st'⟩ := X.specialBackNest hx (y := y) hy1 hown (Cond.methodLinkNest_wide hZ w1 :) (mvT hZ w2) (mvT hZ w4) hy (backOf (W := W) (Q := fun v h L => Fr n0 L ∧ P v h) hM hZ w4 w3 (by rw [hR]; exact hf) (by rw [hR]; exact hl)) (g := mkF K.m pc Ls.toArray (argsL.reverse ++ .ref a :: rest)) rfl (by rw [hml]; simpa using hsz) (Steps.refl _) (a := a) (argsL := argsL) (rest := rest) (lenOf hpd hlen) rfl (by show 2 * 0 + _ ≤ _; simpa using hW) (hb hby hd) (fun _ _ => ⟨rfl, eT, by rw [hR]; exact hc, by rw [hR]; exact hs⟩)
  dsimp only [Pt.U, Pt.locs, Pt.cells, Pt.slots] at X' l1 y1 z1 st' hQ
  subst l1 y1 z1
  exact OwnDone.of (fun t q => st'.trans q) (g v T'.heap hQ.2 T' _ X' rfl (Fr.app N (by rw [hn]; exact hQ.1)))
theorem w_callV (pc' W : Nat) {Cn : String} {y : MethodName} {bytes : ByteArray} {mL i : Nat} {rt : Option FieldType} {rm : Room} {P : Option Value → Heap → Prop} (argsL : List Value) (C : Cx K Z own name code maxL ret R n0 Post) {a : Addr} (E : Exa Z h a Cn) (hd : decode code pc = .ok (.invokevirtual i, 3)) (hp : pc + 3 = pc')
    (w1 : (Cond.methodLink own i y).before a0 Z = true) (w2 : (Cond.declares y).before a0 Z = true) (w5 : (Cond.selects Cn y y).before a0 Z = true) (w6 : (Cond.instanceMethod y).before a0 Z = true) (w3 : (Cond.initialized y.cls).before a0 Z = true) (w4 : (Cond.code y bytes mL rt).before a0 Z = true) (hy : y.cls ≠ "java/lang/invoke/MethodHandle" ∧ y.cls ≠ "java/lang/invoke/VarHandle")
    (hM : OwnMet K.l y bytes mL rt [] rm Z h n0 (.ref a :: argsL).toArray P) {ps : List FieldType} {r : Option FieldType} (hpd : parseMethodDescriptor y.desc = some ⟨ps, r⟩) (hlen : argsL.length = ps.length)
    (hst : st = argsL.reverse ++ .ref a :: rest) (hsz : Ls.length = maxL) (hW : (rest.map fun v => v.category).sum ≤ W) (hf : rm.frames + 1 ≤ R.frames) (hl : W + (mL + 11) + rm.locals ≤ R.locals) (hc : cells + rm.cells ≤ R.cells) (hs : slots + rm.slots ≤ R.slots)
    (g : ∀ v h', P v h' → Go K h' (cells + rm.cells) (slots + rm.slots) pc' Ls (v.toList ++ rest)) : Go K h cells slots pc Ls st := by
  obtain ⟨hx, hby, hml, hown, hnm, hret, hlk, hZ, hR, hn, hPost⟩ := C
  subst hp hst
  intro T locs X eT N
  obtain ⟨cq, kq, qa, qb, qc⟩ := isOf hZ eT E
  obtain ⟨v, vm₁, ⟨T', L', k', n'⟩, -, X', ⟨Lc, hQ, l1, y1, z1⟩, st'⟩ := X.virtualBack hx (y := y) (z := y) hown (mvT hZ w1) (mvT hZ w2) (notFace_of_selects (args := #[]) (mvT hZ w5)) (mvT hZ w5) (mvT hZ w6) hy (backOf (W := W) (Q := fun v h L => Fr n0 L ∧ P v h) hM hZ w4 w3 (by rw [hR]; exact hf) (by rw [hR]; exact hl)) qa qc (g := mkF K.m pc Ls.toArray (argsL.reverse ++ .ref a :: rest)) rfl (by rw [hml]; simpa using hsz) (Steps.refl _) (argsL := argsL) (rest := rest) (lenOf hpd hlen) rfl (by show 2 * 0 + _ ≤ _; simpa using hW) (hb hby hd) (fun _ _ => ⟨rfl, eT, by rw [hR]; exact hc, by rw [hR]; exact hs⟩)
  dsimp only [Pt.U, Pt.locs, Pt.cells, Pt.slots] at X' l1 y1 z1 st' hQ
  subst l1 y1 z1
  exact OwnDone.of (fun t q => st'.trans q) (g v T'.heap hQ.2 T' _ X' rfl (Fr.app N (by rw [hn]; exact hQ.1)))
theorem w_callP (pc' W : Nat) {Cn : String} {y z : MethodName} {bytes : ByteArray} {mL i : Nat} {rt : Option FieldType} {rm : Room} {P : Option Value → Heap → Prop} (argsL : List Value) (C : Cx K Z own name code maxL ret R n0 Post) {a : Addr} (E : Exa Z h a Cn) (hd : decode code pc = .ok (.invokevirtual i, 3)) (hp : pc + 3 = pc')
    (w1 : (Cond.methodLink own i y).before a0 Z = true) (w7 : (Cond.privateMethod y).before a0 Z = true) (w5 : (Cond.selects z.cls z z).before a0 Z = true) (hzy : z.cls = y.cls) (w6 : (Cond.instanceMethod y).before a0 Z = true) (w3 : (Cond.initialized y.cls).before a0 Z = true) (w4 : (Cond.code y bytes mL rt).before a0 Z = true) (hy : y.cls ≠ "java/lang/invoke/MethodHandle" ∧ y.cls ≠ "java/lang/invoke/VarHandle")
    (hM : OwnMet K.l y bytes mL rt [] rm Z h n0 (.ref a :: argsL).toArray P) {ps : List FieldType} {r : Option FieldType} (hpd : parseMethodDescriptor y.desc = some ⟨ps, r⟩) (hlen : argsL.length = ps.length)
    (hst : st = argsL.reverse ++ .ref a :: rest) (hsz : Ls.length = maxL) (hW : (rest.map fun v => v.category).sum ≤ W) (hf : rm.frames + 1 ≤ R.frames) (hl : W + (mL + 11) + rm.locals ≤ R.locals) (hc : cells + rm.cells ≤ R.cells) (hs : slots + rm.slots ≤ R.slots)
    (g : ∀ v h', P v h' → Go K h' (cells + rm.cells) (slots + rm.slots) pc' Ls (v.toList ++ rest)) : Go K h cells slots pc Ls st := by
  obtain ⟨hx, hby, hml, hown, hnm, hret, hlk, hZ, hR, hn, hPost⟩ := C
  subst hp hst
  intro T locs X eT N
  have hpriv : K.s.PrivateAt y := Cond.privateMethod_at (mvP hZ w7 (args := #[]))
  have hsel : (Cond.selects y.cls y y).before K.args K.s = true := by
    obtain ⟨c2, r2, m2, q1, q2, q3, q4, kP, hkP, hkPi⟩ := Cond.selects_spec (mvT hZ w5 (args := #[]))
    exact selects_self_of_private (by rw [← hzy]; exact findClass_of_methodNamed q3) hkP hkPi hpriv (mvT hZ w6) hy
  obtain ⟨cq, q1, q2⟩ := E.cell
  obtain ⟨v, vm₁, ⟨T', L', k', n'⟩, -, X', ⟨Lc, hQ, l1, y1, z1⟩, st'⟩ := X.privateBack hx (y := y) hown (mvT hZ w1) (mvT hZ w6) hsel hpriv (mvT hZ w4) hy (backOf (W := W) (Q := fun v h L => Fr n0 L ∧ P v h) hM hZ w4 w3 (by rw [hR]; exact hf) (by rw [hR]; exact hl)) (g := mkF K.m pc Ls.toArray (argsL.reverse ++ .ref a :: rest)) rfl (by rw [hml]; simpa using hsz) (Steps.refl _) (a := a) (by rw [eT]; exact q1) q2 (argsL := argsL) (rest := rest) (lenOf hpd hlen) rfl (by show 2 * 0 + _ ≤ _; simpa using hW) (hb hby hd) (fun _ _ => ⟨rfl, eT, by rw [hR]; exact hc, by rw [hR]; exact hs⟩)
  dsimp only [Pt.U, Pt.locs, Pt.cells, Pt.slots] at X' l1 y1 z1 st' hQ
  subst l1 y1 z1
  exact OwnDone.of (fun t q => st'.trans q) (g v T'.heap hQ.2 T' _ X' rfl (Fr.app N (by rw [hn]; exact hQ.1)))
theorem Go.more {c' s' : Nat} (g : Go K h c' s' pc Ls st) (h1 : cells ≤ c') (h2 : slots ≤ s') : Go K h cells slots pc Ls st := fun T locs X e N => g T locs (X.more h1 h2) e N
end OwnLaws
/-! 8. numbers -/
theorem own_un (x : Int32) : (x.toUInt32.toNat : Int) = x.toInt % 4294967296 := by
  have h1 : x.toInt = x.toBitVec.toInt := rfl
  have h2 : x.toUInt32.toNat = x.toBitVec.toNat := rfl
  rw [h1, h2, BitVec.toInt_eq_toNat_cond]
  have := x.toBitVec.isLt
  split <;> omega
theorem own_ul (x : Int64) : (x.toUInt64.toNat : Int) = x.toInt % 18446744073709551616 := by
  have h1 : x.toInt = x.toBitVec.toInt := rfl
  have h2 : x.toUInt64.toNat = x.toBitVec.toNat := rfl
  rw [h1, h2, BitVec.toInt_eq_toNat_cond]
  have := x.toBitVec.isLt
  split <;> omega
theorem own_in (u : UInt32) : (u.toInt32).toInt = ((u.toNat : Int) + 2147483648) % 4294967296 - 2147483648 := by
  have h1 : (u.toInt32).toInt = u.toBitVec.toInt := rfl
  have h2 : u.toNat = u.toBitVec.toNat := rfl
  rw [h1, h2, BitVec.toInt_eq_toNat_cond]
  have := u.toBitVec.isLt
  split <;> omega
theorem own_il (u : UInt64) : (u.toInt64).toInt = ((u.toNat : Int) + 9223372036854775808) % 18446744073709551616 - 9223372036854775808 := by
  have h1 : (u.toInt64).toInt = u.toBitVec.toInt := rfl
  have h2 : u.toNat = u.toBitVec.toNat := rfl
  rw [h1, h2, BitVec.toInt_eq_toNat_cond]
  have := u.toBitVec.isLt
  split <;> omega
theorem own_i2b (x : Int32) : (x.toInt8.toInt32).toInt = (x.toInt + 128) % 256 - 128 := by
  rw [Int8.toInt_toInt32, Int32.toInt_toInt8, Int.bmod_def]
  split <;> omega
theorem own_u16 (u : UInt16) : (u.toUInt32.toInt32).toInt = u.toNat := by
  have hu := u.toNat_lt
  rw [own_in, UInt16.toNat_toUInt32]
  omega
theorem own_i2c (x : Int32) : (x.toUInt32.toUInt16.toUInt32.toInt32).toInt = x.toInt % 65536 := by
  rw [own_u16, UInt32.toNat_toUInt16]
  have := own_un x
  omega
theorem own_l2i (x : Int64) : (x.toInt32).toInt = (x.toInt + 2147483648) % 4294967296 - 2147483648 := by
  rw [Int64.toInt_toInt32, Int.bmod_def]
  split <;> omega
theorem own_i2l (x : Int32) : (x.toInt64).toInt = x.toInt := Int32.toInt_toInt64 x
theorem own_iadd (x y : Int32) : (x + y).toInt = (x.toInt + y.toInt + 2147483648) % 4294967296 - 2147483648 := by
  rw [Int32.toInt_add, Int.bmod_def]; split <;> omega
theorem own_isub (x y : Int32) : (x - y).toInt = (x.toInt - y.toInt + 2147483648) % 4294967296 - 2147483648 := by
  rw [Int32.toInt_sub, Int.bmod_def]; split <;> omega
theorem own_imul (x y : Int32) : (x * y).toInt = (x.toInt * y.toInt + 2147483648) % 4294967296 - 2147483648 := by
  rw [Int32.toInt_mul, Int.bmod_def]; split <;> omega
theorem own_ladd (x y : Int64) : (x + y).toInt = (x.toInt + y.toInt + 9223372036854775808) % 18446744073709551616 - 9223372036854775808 := by
  rw [Int64.toInt_add, Int.bmod_def]; split <;> omega
theorem own_lsub (x y : Int64) : (x - y).toInt = (x.toInt - y.toInt + 9223372036854775808) % 18446744073709551616 - 9223372036854775808 := by
  rw [Int64.toInt_sub, Int.bmod_def]; split <;> omega
theorem own_iushr (x : Int32) {n : UInt32} (k : Nat) (hn : n.toNat = k) (h0 : 0 < k) (hk : k < 32) : ((x.toUInt32 >>> n).toInt32).toInt = x.toInt % 4294967296 / 2 ^ k := by
  have h1 : (x.toUInt32 >>> n).toNat = x.toUInt32.toNat / 2 ^ k := by rw [UInt32.toNat_shiftRight, hn, Nat.mod_eq_of_lt hk, Nat.shiftRight_eq_div_pow]
  have h2 := own_un x
  have h3 : x.toUInt32.toNat / 2 ^ k < 2147483648 := by
    have q : x.toUInt32.toNat < 4294967296 := x.toUInt32.toNat_lt
    have r : 2 ^ 1 ≤ 2 ^ k := Nat.pow_le_pow_right (by omega) h0
    exact Nat.div_lt_of_lt_mul (by omega)
  rw [own_in, h1, ← h2]
  have h4 : ((x.toUInt32.toNat : Int)) / 2 ^ k = ((x.toUInt32.toNat / 2 ^ k : Nat) : Int) := by simp
  rw [h4]
  omega
theorem own_lushr (x : Int64) {n : UInt64} (k : Nat) (hn : n.toNat = k) (h0 : 0 < k) (hk : k < 64) : ((x.toUInt64 >>> n).toInt64).toInt = x.toInt % 18446744073709551616 / 2 ^ k := by
  have h1 : (x.toUInt64 >>> n).toNat = x.toUInt64.toNat / 2 ^ k := by rw [UInt64.toNat_shiftRight, hn, Nat.mod_eq_of_lt hk, Nat.shiftRight_eq_div_pow]
  have h2 := own_ul x
  have h3 : x.toUInt64.toNat / 2 ^ k < 9223372036854775808 := by
    have q : x.toUInt64.toNat < 18446744073709551616 := x.toUInt64.toNat_lt
    have r : 2 ^ 1 ≤ 2 ^ k := Nat.pow_le_pow_right (by omega) h0
    exact Nat.div_lt_of_lt_mul (by omega)
  rw [own_il, h1, ← h2]
  have h4 : ((x.toUInt64.toNat : Int)) / 2 ^ k = ((x.toUInt64.toNat / 2 ^ k : Nat) : Int) := by simp
  rw [h4]
  omega
theorem own_mask (x m : Int32) (k : Nat) (hk : k < 32) (hm : m.toBitVec.toNat = 2 ^ k - 1) : (x &&& m).toInt = x.toInt % 2 ^ k := Jvm.Kit.i32_mask x m hk hm
theorem own_maskL (x m : Int64) (k : Nat) (hk : k < 64) (hm : m.toBitVec.toNat = 2 ^ k - 1) : (x &&& m).toInt = x.toInt % 2 ^ k := Jvm.Kit.i64_mask x m hk hm
theorem own_orN (a b q k : Nat) (ha : a < 2 ^ k) (hb : b = 2 ^ k * q) : a ||| b = a + b := by
  rw [Nat.or_comm, hb, ← Nat.two_pow_add_eq_or_of_lt ha, Nat.add_comm]
theorem own_or (x y : Int32) (k : Nat) (q : Nat) (h0 : 0 ≤ x.toInt) (h1 : x.toInt < 2 ^ k) (h2 : y.toInt = 2 ^ k * (q : Int)) (h3 : x.toInt + y.toInt < 2147483648) : (x ||| y).toInt = x.toInt + y.toInt := by
  have e1 := own_un x; have e2 := own_un y
  have n2 : (0 : Int) ≤ y.toInt := by rw [h2]; exact Int.mul_nonneg (Int.le_of_lt (Int.pow_pos (by decide))) (by omega)
  have a1 : x.toUInt32.toNat < 2 ^ k := by
    have : (x.toUInt32.toNat : Int) < ((2 ^ k : Nat) : Int) := by rw [e1, Int.natCast_pow]; have := x.toInt_lt; have := Int.emod_eq_of_lt h0 (by omega : x.toInt < 4294967296); rw [this]; exact h1
    omega
  have a2 : y.toUInt32.toNat = 2 ^ k * q := by
    have : (y.toUInt32.toNat : Int) = ((2 ^ k * q : Nat) : Int) := by rw [e2, Int.natCast_mul, Int.natCast_pow]; have := y.toInt_lt; rw [Int.emod_eq_of_lt n2 (by omega)]; exact h2
    omega
  have e3 : (x ||| y).toUInt32.toNat = x.toUInt32.toNat ||| y.toUInt32.toNat := rfl
  have e4 := own_un (x ||| y)
  rw [e3, own_orN _ _ q k a1 a2] at e4
  have r1 := (x ||| y).toInt_lt; have r2 := (x ||| y).le_toInt
  have s1 := x.toInt_lt; have s2 := y.toInt_lt
  omega
theorem own_xor1 (x : Int32) : (x ^^^ 1).toInt = x.toInt + 1 - 2 * (x.toInt % 2) := by
  have e1 := own_un x
  have e3 : (x ^^^ 1).toUInt32.toNat = x.toUInt32.toNat ^^^ 1 := rfl
  have e4 := own_un (x ^^^ 1)
  rw [e3] at e4
  have d1 : (x.toUInt32.toNat ^^^ 1) / 2 = x.toUInt32.toNat / 2 := by rw [Nat.xor_div_two]; simp
  have d2 : (x.toUInt32.toNat ^^^ 1) % 2 = (x.toUInt32.toNat + 1) % 2 := by
    have t0 : (x.toUInt32.toNat ^^^ 1).testBit 0 = (x.toUInt32.toNat.testBit 0 ^^ (1 : Nat).testBit 0) := Nat.testBit_xor _ _ _
    rw [Nat.testBit_zero, Nat.testBit_zero, Nat.testBit_zero] at t0
    rcases Nat.mod_two_eq_zero_or_one x.toUInt32.toNat with q | q <;> rcases Nat.mod_two_eq_zero_or_one (x.toUInt32.toNat ^^^ 1) with r | r <;> rw [q, r] at t0 <;> first | (exfalso; revert t0; decide) | omega
  have r1 := (x ^^^ 1).toInt_lt; have r2 := (x ^^^ 1).le_toInt
  have s1 := x.toInt_lt; have s2 := x.le_toInt
  omega
theorem own_eqi {x y : Int32} : x = y ↔ x.toInt = y.toInt := Int32.toInt_inj.symm
theorem own_eqli {x y : Int64} : x = y ↔ x.toInt = y.toInt := Int64.toInt_inj.symm
theorem own_eq {x y : Int32} (h : x.toInt = y.toInt) : x = y := Int32.toInt_inj.mp h
theorem own_eqL {x y : Int64} (h : x.toInt = y.toInt) : x = y := Int64.toInt_inj.mp h
theorem own_ne {x y : Int32} (h : ¬ x = y) : x.toInt ≠ y.toInt := fun q => h (Int32.toInt_inj.mp q)
theorem own_neL {x y : Int64} (h : ¬ x = y) : x.toInt ≠ y.toInt := fun q => h (Int64.toInt_inj.mp q)
theorem own_or32N (n : Nat) : n ||| 32 = n + 32 - 32 * (n / 32 % 2) := by
  have hs : ∀ s, s < 64 → s ||| 32 = s + 32 - 32 * (s / 32 % 2) ∧ s ||| 32 < 64 := by decide
  have h1 := hs (n % 64) (Nat.mod_lt _ (by decide))
  have h2 : n = 2 ^ 6 * (n / 64) ||| (n % 64) := by rw [← Nat.two_pow_add_eq_or_of_lt (i := 6) (Nat.mod_lt _ (by decide))]; omega
  have h3 : n ||| 32 = 2 ^ 6 * (n / 64) + (n % 64 ||| 32) := by
    rw [Nat.two_pow_add_eq_or_of_lt (i := 6) h1.2, ← Nat.or_assoc, ← h2]
  rw [h3, h1.1]
  omega
theorem own_or32 (x : Int32) (h0 : 0 ≤ x.toInt) (h1 : x.toInt < 65536) : (x ||| 32).toInt = x.toInt + 32 - 32 * (x.toInt / 32 % 2) := by
  have e1 := own_un x; have e4 := own_un (x ||| 32)
  have e3 : (x ||| 32).toUInt32.toNat = x.toUInt32.toNat ||| 32 := rfl
  rw [e3, own_or32N] at e4
  have r1 := (x ||| 32).toInt_lt; have r2 := (x ||| 32).le_toInt
  omega
theorem d1_0 : decode method_2_code 0 = .ok (.iload_n 0, 1) := by decide +kernel
theorem d1_1 : decode method_2_code 1 = .ok (.iload_n 1, 1) := by decide +kernel
theorem d1_2 : decode method_2_code 2 = .ok (.ishr, 1) := by decide +kernel
theorem d1_3 : decode method_2_code 3 = .ok (.iconst 1, 1) := by decide +kernel
theorem d1_4 : decode method_2_code 4 = .ok (.iand, 1) := by decide +kernel
theorem d1_5 : decode method_2_code 5 = .ok (.ifCond .ne 7, 3) := by decide +kernel
theorem d1_8 : decode method_2_code 8 = .ok (.iload_n 2, 1) := by decide +kernel
theorem d1_9 : decode method_2_code 9 = .ok (.goto 4, 3) := by decide +kernel
theorem d1_12 : decode method_2_code 12 = .ok (.iload_n 3, 1) := by decide +kernel
theorem d1_13 : decode method_2_code 13 = .ok (.ireturn, 1) := by decide +kernel
theorem pn_com_example_zspan_zspan_SearchedBytesAtPinLaw : plainName "com/example/zspan/zspan/SearchedBytesAtPinLaw" = true := by first | (simp [plainName, overriddenIn]; done) | decide +kernel
theorem pd_IIBB_to_B : parseMethodDescriptor "(IIBB)B" = some ⟨[.int, .int, .byte, .byte], some .byte⟩ := by decide +kernel
theorem d2_0 : decode method_3_code 0 = .ok (.iconst 0, 1) := by decide +kernel
theorem d2_1 : decode method_3_code 1 = .ok (.istore 4, 2) := by decide +kernel
theorem d2_3 : decode method_3_code 3 = .ok (.iload_n 3, 1) := by decide +kernel
theorem d2_4 : decode method_3_code 4 = .ok (.ifCond .le 53, 3) := by decide +kernel
theorem d2_7 : decode method_3_code 7 = .ok (.aload_n 0, 1) := by decide +kernel
theorem d2_8 : decode method_3_code 8 = .ok (.iconst 0, 1) := by decide +kernel
theorem d2_9 : decode method_3_code 9 = .ok (.baload, 1) := by decide +kernel
theorem d2_10 : decode method_3_code 10 = .ok (.aload_n 1, 1) := by decide +kernel
theorem d2_11 : decode method_3_code 11 = .ok (.iload_n 2, 1) := by decide +kernel
theorem d2_12 : decode method_3_code 12 = .ok (.baload, 1) := by decide +kernel
theorem d2_13 : decode method_3_code 13 = .ok (.if_icmp .ne 44, 3) := by decide +kernel
theorem d2_16 : decode method_3_code 16 = .ok (.iconst 1, 1) := by decide +kernel
theorem d2_17 : decode method_3_code 17 = .ok (.istore 4, 2) := by decide +kernel
theorem d2_19 : decode method_3_code 19 = .ok (.iload_n 3, 1) := by decide +kernel
theorem d2_20 : decode method_3_code 20 = .ok (.iconst 1, 1) := by decide +kernel
theorem d2_21 : decode method_3_code 21 = .ok (.if_icmp .le 36, 3) := by decide +kernel
theorem d2_24 : decode method_3_code 24 = .ok (.aload_n 0, 1) := by decide +kernel
theorem d2_25 : decode method_3_code 25 = .ok (.iconst 1, 1) := by decide +kernel
theorem d2_26 : decode method_3_code 26 = .ok (.baload, 1) := by decide +kernel
theorem d2_27 : decode method_3_code 27 = .ok (.aload_n 1, 1) := by decide +kernel
theorem d2_28 : decode method_3_code 28 = .ok (.iload_n 2, 1) := by decide +kernel
theorem d2_29 : decode method_3_code 29 = .ok (.iconst 1, 1) := by decide +kernel
theorem d2_30 : decode method_3_code 30 = .ok (.iadd, 1) := by decide +kernel
theorem d2_31 : decode method_3_code 31 = .ok (.baload, 1) := by decide +kernel
theorem d2_32 : decode method_3_code 32 = .ok (.if_icmp .ne 25, 3) := by decide +kernel
theorem d2_35 : decode method_3_code 35 = .ok (.iconst 2, 1) := by decide +kernel
theorem d2_36 : decode method_3_code 36 = .ok (.istore 4, 2) := by decide +kernel
theorem d2_38 : decode method_3_code 38 = .ok (.iload_n 3, 1) := by decide +kernel
theorem d2_39 : decode method_3_code 39 = .ok (.iconst 2, 1) := by decide +kernel
theorem d2_40 : decode method_3_code 40 = .ok (.if_icmp .le 17, 3) := by decide +kernel
theorem d2_43 : decode method_3_code 43 = .ok (.aload_n 0, 1) := by decide +kernel
theorem d2_44 : decode method_3_code 44 = .ok (.iconst 2, 1) := by decide +kernel
theorem d2_45 : decode method_3_code 45 = .ok (.baload, 1) := by decide +kernel
theorem d2_46 : decode method_3_code 46 = .ok (.aload_n 1, 1) := by decide +kernel
theorem d2_47 : decode method_3_code 47 = .ok (.iload_n 2, 1) := by decide +kernel
theorem d2_48 : decode method_3_code 48 = .ok (.iconst 2, 1) := by decide +kernel
theorem d2_49 : decode method_3_code 49 = .ok (.iadd, 1) := by decide +kernel
theorem d2_50 : decode method_3_code 50 = .ok (.baload, 1) := by decide +kernel
theorem d2_51 : decode method_3_code 51 = .ok (.if_icmp .ne 6, 3) := by decide +kernel
theorem d2_54 : decode method_3_code 54 = .ok (.iconst 3, 1) := by decide +kernel
theorem d2_55 : decode method_3_code 55 = .ok (.istore 4, 2) := by decide +kernel
theorem d2_57 : decode method_3_code 57 = .ok (.iload 4, 2) := by decide +kernel
theorem d2_59 : decode method_3_code 59 = .ok (.ireturn, 1) := by decide +kernel
theorem pd_aBaBII_to_I : parseMethodDescriptor "([B[BII)I" = some ⟨[(.array .byte), (.array .byte), .int, .int], some .int⟩ := by decide +kernel
theorem d6_0 : decode jdk_29_method_69_code 0 = .ok (.iload_n 0, 1) := by decide +kernel
theorem d6_1 : decode jdk_29_method_69_code 1 = .ok (.iload_n 1, 1) := by decide +kernel
theorem d6_2 : decode jdk_29_method_69_code 2 = .ok (.if_icmp .gt 7, 3) := by decide +kernel
theorem d6_5 : decode jdk_29_method_69_code 5 = .ok (.iload_n 0, 1) := by decide +kernel
theorem d6_6 : decode jdk_29_method_69_code 6 = .ok (.goto 4, 3) := by decide +kernel
theorem d6_9 : decode jdk_29_method_69_code 9 = .ok (.iload_n 1, 1) := by decide +kernel
theorem d6_10 : decode jdk_29_method_69_code 10 = .ok (.ireturn, 1) := by decide +kernel
theorem pd_II_to_I : parseMethodDescriptor "(II)I" = some ⟨[.int, .int], some .int⟩ := by decide +kernel
theorem d4_0 : decode prog_4_method_1_code 0 = .ok (.aload_n 0, 1) := by decide +kernel
theorem d4_1 : decode prog_4_method_1_code 1 = .ok (.invokespecial 1, 3) := by decide +kernel
theorem d4_4 : decode prog_4_method_1_code 4 = .ok (.aload_n 0, 1) := by decide +kernel
theorem d4_5 : decode prog_4_method_1_code 5 = .ok (.aload_n 1, 1) := by decide +kernel
theorem d4_6 : decode prog_4_method_1_code 6 = .ok (.putfield 7, 3) := by decide +kernel
theorem d4_9 : decode prog_4_method_1_code 9 = .ok (.return_, 1) := by decide +kernel
theorem pn_com_example_zspan_zspan_PrefixWalk : plainName "com/example/zspan/zspan/PrefixWalk" = true := by first | (simp [plainName, overriddenIn]; done) | decide +kernel
theorem pd_aI_to_V : parseMethodDescriptor "([I)V" = some ⟨[(.array .int)], none⟩ := by decide +kernel
theorem d3_0 : decode prog_8_method_1_code 0 = .ok (.aload_n 0, 1) := by decide +kernel
theorem d3_1 : decode prog_8_method_1_code 1 = .ok (.aload_n 1, 1) := by decide +kernel
theorem d3_2 : decode prog_8_method_1_code 2 = .ok (.invokespecial 1, 3) := by decide +kernel
theorem d3_5 : decode prog_8_method_1_code 5 = .ok (.aload_n 0, 1) := by decide +kernel
theorem d3_6 : decode prog_8_method_1_code 6 = .ok (.aload_n 2, 1) := by decide +kernel
theorem d3_7 : decode prog_8_method_1_code 7 = .ok (.putfield 7, 3) := by decide +kernel
theorem d3_10 : decode prog_8_method_1_code 10 = .ok (.aload_n 0, 1) := by decide +kernel
theorem d3_11 : decode prog_8_method_1_code 11 = .ok (.aload_n 3, 1) := by decide +kernel
theorem d3_12 : decode prog_8_method_1_code 12 = .ok (.putfield 13, 3) := by decide +kernel
theorem d3_15 : decode prog_8_method_1_code 15 = .ok (.aload_n 2, 1) := by decide +kernel
theorem d3_16 : decode prog_8_method_1_code 16 = .ok (.arraylength, 1) := by decide +kernel
theorem d3_17 : decode prog_8_method_1_code 17 = .ok (.iconst 4, 1) := by decide +kernel
theorem d3_18 : decode prog_8_method_1_code 18 = .ok (.invokestatic 18, 3) := by decide +kernel
theorem d3_21 : decode prog_8_method_1_code 21 = .ok (.istore 4, 2) := by decide +kernel
theorem d3_23 : decode prog_8_method_1_code 23 = .ok (.iconst 0, 1) := by decide +kernel
theorem d3_24 : decode prog_8_method_1_code 24 = .ok (.istore 5, 2) := by decide +kernel
theorem d3_26 : decode prog_8_method_1_code 26 = .ok (.iload 4, 2) := by decide +kernel
theorem d3_28 : decode prog_8_method_1_code 28 = .ok (.iconst 1, 1) := by decide +kernel
theorem d3_29 : decode prog_8_method_1_code 29 = .ok (.isub, 1) := by decide +kernel
theorem d3_30 : decode prog_8_method_1_code 30 = .ok (.istore 6, 2) := by decide +kernel
theorem d3_32 : decode prog_8_method_1_code 32 = .ok (.iload 6, 2) := by decide +kernel
theorem d3_34 : decode prog_8_method_1_code 34 = .ok (.ifCond .lt 25, 3) := by decide +kernel
theorem d3_37 : decode prog_8_method_1_code 37 = .ok (.iload 5, 2) := by decide +kernel
theorem d3_39 : decode prog_8_method_1_code 39 = .ok (.bipush 8, 2) := by decide +kernel
theorem d3_41 : decode prog_8_method_1_code 41 = .ok (.ishl, 1) := by decide +kernel
theorem d3_42 : decode prog_8_method_1_code 42 = .ok (.aload_n 2, 1) := by decide +kernel
theorem d3_43 : decode prog_8_method_1_code 43 = .ok (.iload 6, 2) := by decide +kernel
theorem d3_45 : decode prog_8_method_1_code 45 = .ok (.baload, 1) := by decide +kernel
theorem d3_46 : decode prog_8_method_1_code 46 = .ok (.sipush 255, 3) := by decide +kernel
theorem d3_49 : decode prog_8_method_1_code 49 = .ok (.iand, 1) := by decide +kernel
theorem d3_50 : decode prog_8_method_1_code 50 = .ok (.ior, 1) := by decide +kernel
theorem d3_51 : decode prog_8_method_1_code 51 = .ok (.istore 5, 2) := by decide +kernel
theorem d3_53 : decode prog_8_method_1_code 53 = .ok (.iinc 6 (-1), 3) := by decide +kernel
theorem d3_56 : decode prog_8_method_1_code 56 = .ok (.goto (-24), 3) := by decide +kernel
theorem d3_59 : decode prog_8_method_1_code 59 = .ok (.aload_n 0, 1) := by decide +kernel
theorem d3_60 : decode prog_8_method_1_code 60 = .ok (.iload 5, 2) := by decide +kernel
theorem d3_62 : decode prog_8_method_1_code 62 = .ok (.putfield 24, 3) := by decide +kernel
theorem d3_65 : decode prog_8_method_1_code 65 = .ok (.aload_n 0, 1) := by decide +kernel
theorem d3_66 : decode prog_8_method_1_code 66 = .ok (.iload 4, 2) := by decide +kernel
theorem d3_68 : decode prog_8_method_1_code 68 = .ok (.iconst 4, 1) := by decide +kernel
theorem d3_69 : decode prog_8_method_1_code 69 = .ok (.if_icmp .ne 7, 3) := by decide +kernel
theorem d3_72 : decode prog_8_method_1_code 72 = .ok (.iconst (-1), 1) := by decide +kernel
theorem d3_73 : decode prog_8_method_1_code 73 = .ok (.goto 12, 3) := by decide +kernel
theorem d3_76 : decode prog_8_method_1_code 76 = .ok (.iconst 1, 1) := by decide +kernel
theorem d3_77 : decode prog_8_method_1_code 77 = .ok (.bipush 8, 2) := by decide +kernel
theorem d3_79 : decode prog_8_method_1_code 79 = .ok (.iload 4, 2) := by decide +kernel
theorem d3_81 : decode prog_8_method_1_code 81 = .ok (.imul, 1) := by decide +kernel
theorem d3_82 : decode prog_8_method_1_code 82 = .ok (.ishl, 1) := by decide +kernel
theorem d3_83 : decode prog_8_method_1_code 83 = .ok (.iconst 1, 1) := by decide +kernel
theorem d3_84 : decode prog_8_method_1_code 84 = .ok (.isub, 1) := by decide +kernel
theorem d3_85 : decode prog_8_method_1_code 85 = .ok (.putfield 28, 3) := by decide +kernel
theorem d3_88 : decode prog_8_method_1_code 88 = .ok (.return_, 1) := by decide +kernel
theorem pn_com_example_zspan_zspan_PrefixWalk_SearchedBytes : plainName "com/example/zspan/zspan/PrefixWalk$SearchedBytes" = true := by first | (simp [plainName, overriddenIn]; done) | decide +kernel
theorem pd_aIaBaB_to_V : parseMethodDescriptor "([I[B[B)V" = some ⟨[(.array .int), (.array .byte), (.array .byte)], none⟩ := by decide +kernel
theorem d8_0 : decode prog_8_method_3_code 0 = .ok (.iload_n 1, 1) := by decide +kernel
theorem d8_1 : decode prog_8_method_3_code 1 = .ok (.aload_n 0, 1) := by decide +kernel
theorem d8_2 : decode prog_8_method_3_code 2 = .ok (.getfield 41, 3) := by decide +kernel
theorem d8_5 : decode prog_8_method_3_code 5 = .ok (.if_icmp .ge 26, 3) := by decide +kernel
theorem d8_8 : decode prog_8_method_3_code 8 = .ok (.aload_n 0, 1) := by decide +kernel
theorem d8_9 : decode prog_8_method_3_code 9 = .ok (.getfield 44, 3) := by decide +kernel
theorem d8_12 : decode prog_8_method_3_code 12 = .ok (.iload_n 1, 1) := by decide +kernel
theorem d8_13 : decode prog_8_method_3_code 13 = .ok (.aload_n 0, 1) := by decide +kernel
theorem d8_14 : decode prog_8_method_3_code 14 = .ok (.getfield 48, 3) := by decide +kernel
theorem d8_17 : decode prog_8_method_3_code 17 = .ok (.isub, 1) := by decide +kernel
theorem d8_18 : decode prog_8_method_3_code 18 = .ok (.iaload, 1) := by decide +kernel
theorem d8_19 : decode prog_8_method_3_code 19 = .ok (.aload_n 0, 1) := by decide +kernel
theorem d8_20 : decode prog_8_method_3_code 20 = .ok (.getfield 41, 3) := by decide +kernel
theorem d8_23 : decode prog_8_method_3_code 23 = .ok (.iload_n 1, 1) := by decide +kernel
theorem d8_24 : decode prog_8_method_3_code 24 = .ok (.isub, 1) := by decide +kernel
theorem d8_25 : decode prog_8_method_3_code 25 = .ok (.invokestatic 18, 3) := by decide +kernel
theorem d8_28 : decode prog_8_method_3_code 28 = .ok (.goto 4, 3) := by decide +kernel
theorem d8_31 : decode prog_8_method_3_code 31 = .ok (.iconst 0, 1) := by decide +kernel
theorem d8_32 : decode prog_8_method_3_code 32 = .ok (.istore_n 3, 1) := by decide +kernel
theorem d8_33 : decode prog_8_method_3_code 33 = .ok (.iload_n 1, 1) := by decide +kernel
theorem d8_34 : decode prog_8_method_3_code 34 = .ok (.iload_n 3, 1) := by decide +kernel
theorem d8_35 : decode prog_8_method_3_code 35 = .ok (.iadd, 1) := by decide +kernel
theorem d8_36 : decode prog_8_method_3_code 36 = .ok (.aload_n 0, 1) := by decide +kernel
theorem d8_37 : decode prog_8_method_3_code 37 = .ok (.getfield 41, 3) := by decide +kernel
theorem d8_40 : decode prog_8_method_3_code 40 = .ok (.if_icmp .ge 5, 3) := by decide +kernel
theorem d8_43 : decode prog_8_method_3_code 43 = .ok (.iload_n 3, 1) := by decide +kernel
theorem d8_44 : decode prog_8_method_3_code 44 = .ok (.ireturn, 1) := by decide +kernel
theorem d8_45 : decode prog_8_method_3_code 45 = .ok (.iload_n 3, 1) := by decide +kernel
theorem d8_46 : decode prog_8_method_3_code 46 = .ok (.iload_n 2, 1) := by decide +kernel
theorem d8_47 : decode prog_8_method_3_code 47 = .ok (.if_icmp .ge 26, 3) := by decide +kernel
theorem d8_50 : decode prog_8_method_3_code 50 = .ok (.aload_n 0, 1) := by decide +kernel
theorem d8_51 : decode prog_8_method_3_code 51 = .ok (.getfield 7, 3) := by decide +kernel
theorem d8_54 : decode prog_8_method_3_code 54 = .ok (.iload_n 3, 1) := by decide +kernel
theorem d8_55 : decode prog_8_method_3_code 55 = .ok (.baload, 1) := by decide +kernel
theorem d8_56 : decode prog_8_method_3_code 56 = .ok (.aload_n 0, 1) := by decide +kernel
theorem d8_57 : decode prog_8_method_3_code 57 = .ok (.getfield 13, 3) := by decide +kernel
theorem d8_60 : decode prog_8_method_3_code 60 = .ok (.iload_n 1, 1) := by decide +kernel
theorem d8_61 : decode prog_8_method_3_code 61 = .ok (.iload_n 3, 1) := by decide +kernel
theorem d8_62 : decode prog_8_method_3_code 62 = .ok (.iadd, 1) := by decide +kernel
theorem d8_63 : decode prog_8_method_3_code 63 = .ok (.baload, 1) := by decide +kernel
theorem d8_64 : decode prog_8_method_3_code 64 = .ok (.if_icmp .ne 9, 3) := by decide +kernel
theorem d8_67 : decode prog_8_method_3_code 67 = .ok (.iinc 3 1, 3) := by decide +kernel
theorem d8_70 : decode prog_8_method_3_code 70 = .ok (.goto (-25), 3) := by decide +kernel
theorem d8_73 : decode prog_8_method_3_code 73 = .ok (.iload_n 1, 1) := by decide +kernel
theorem d8_74 : decode prog_8_method_3_code 74 = .ok (.iload_n 3, 1) := by decide +kernel
theorem d8_75 : decode prog_8_method_3_code 75 = .ok (.iadd, 1) := by decide +kernel
theorem d8_76 : decode prog_8_method_3_code 76 = .ok (.aload_n 0, 1) := by decide +kernel
theorem d8_77 : decode prog_8_method_3_code 77 = .ok (.getfield 41, 3) := by decide +kernel
theorem d8_80 : decode prog_8_method_3_code 80 = .ok (.if_icmp .le 15, 3) := by decide +kernel
theorem d8_83 : decode prog_8_method_3_code 83 = .ok (.aload_n 0, 1) := by decide +kernel
theorem d8_84 : decode prog_8_method_3_code 84 = .ok (.iload_n 1, 1) := by decide +kernel
theorem d8_85 : decode prog_8_method_3_code 85 = .ok (.putfield 48, 3) := by decide +kernel
theorem d8_88 : decode prog_8_method_3_code 88 = .ok (.aload_n 0, 1) := by decide +kernel
theorem d8_89 : decode prog_8_method_3_code 89 = .ok (.iload_n 1, 1) := by decide +kernel
theorem d8_90 : decode prog_8_method_3_code 90 = .ok (.iload_n 3, 1) := by decide +kernel
theorem d8_91 : decode prog_8_method_3_code 91 = .ok (.iadd, 1) := by decide +kernel
theorem d8_92 : decode prog_8_method_3_code 92 = .ok (.putfield 41, 3) := by decide +kernel
theorem d8_95 : decode prog_8_method_3_code 95 = .ok (.iload_n 3, 1) := by decide +kernel
theorem d8_96 : decode prog_8_method_3_code 96 = .ok (.ireturn, 1) := by decide +kernel
theorem d7_0 : decode method_4_code 0 = .ok (.iload 4, 2) := by decide +kernel
theorem d7_2 : decode method_4_code 2 = .ok (.iload_n 3, 1) := by decide +kernel
theorem d7_3 : decode method_4_code 3 = .ok (.ishr, 1) := by decide +kernel
theorem d7_4 : decode method_4_code 4 = .ok (.iconst 1, 1) := by decide +kernel
theorem d7_5 : decode method_4_code 5 = .ok (.iand, 1) := by decide +kernel
theorem d7_6 : decode method_4_code 6 = .ok (.ifCond .eq 5, 3) := by decide +kernel
theorem d7_9 : decode method_4_code 9 = .ok (.iconst 1, 1) := by decide +kernel
theorem d7_10 : decode method_4_code 10 = .ok (.ireturn, 1) := by decide +kernel
theorem d7_11 : decode method_4_code 11 = .ok (.iconst 3, 1) := by decide +kernel
theorem d7_12 : decode method_4_code 12 = .ok (.bipush 6, 2) := by decide +kernel
theorem d7_14 : decode method_4_code 14 = .ok (.iload_n 3, 1) := by decide +kernel
theorem d7_15 : decode method_4_code 15 = .ok (.isub, 1) := by decide +kernel
theorem d7_16 : decode method_4_code 16 = .ok (.invokestatic 7, 3) := by decide +kernel
theorem d7_19 : decode method_4_code 19 = .ok (.istore 5, 2) := by decide +kernel
theorem d7_21 : decode method_4_code 21 = .ok (.aload_n 0, 1) := by decide +kernel
theorem d7_22 : decode method_4_code 22 = .ok (.iload_n 3, 1) := by decide +kernel
theorem d7_23 : decode method_4_code 23 = .ok (.iload 5, 2) := by decide +kernel
theorem d7_25 : decode method_4_code 25 = .ok (.invokevirtual 13, 3) := by decide +kernel
theorem d7_28 : decode method_4_code 28 = .ok (.aload_n 1, 1) := by decide +kernel
theorem d7_29 : decode method_4_code 29 = .ok (.aload_n 2, 1) := by decide +kernel
theorem d7_30 : decode method_4_code 30 = .ok (.iload_n 3, 1) := by decide +kernel
theorem d7_31 : decode method_4_code 31 = .ok (.iload 5, 2) := by decide +kernel
theorem d7_33 : decode method_4_code 33 = .ok (.invokestatic 18, 3) := by decide +kernel
theorem d7_36 : decode method_4_code 36 = .ok (.if_icmp .ne 7, 3) := by decide +kernel
theorem d7_39 : decode method_4_code 39 = .ok (.iconst 1, 1) := by decide +kernel
theorem d7_40 : decode method_4_code 40 = .ok (.goto 4, 3) := by decide +kernel
theorem d7_43 : decode method_4_code 43 = .ok (.iconst 0, 1) := by decide +kernel
theorem d7_44 : decode method_4_code 44 = .ok (.ireturn, 1) := by decide +kernel
theorem pd_Lcom_example_zspan_zspan_PrefixWalk_SearchedBytesaBaBII_to_Z : parseMethodDescriptor "(Lcom/example/zspan/zspan/PrefixWalk$SearchedBytes;[B[BII)Z" = some ⟨[(.object "com/example/zspan/zspan/PrefixWalk$SearchedBytes"), (.array .byte), (.array .byte), .int, .int], some .boolean⟩ := by decide +kernel
theorem pd_IIII_to_Z : parseMethodDescriptor "(IIII)Z" = some ⟨[.int, .int, .int, .int], some .boolean⟩ := by decide +kernel
def own_zl : Nat → List Int32 → List Int32 → Nat
  | 0, _, _ => 0
  | _ + 1, [], _ => 0
  | _ + 1, _ :: _, [] => 0
  | n + 1, x :: xs, y :: ys => if x = y then own_zl n xs ys + 1 else 0
theorem own_zl_le (n : Nat) (xs ys : List Int32) : own_zl n xs ys ≤ n := by
  induction n generalizing xs ys with
  | zero => simp [own_zl]
  | succ n ih =>
    match xs, ys with
    | [], _ => simp [own_zl]
    | _ :: _, [] => simp [own_zl]
    | x :: xs, y :: ys =>
      simp only [own_zl]
      have := ih xs ys
      split <;> omega
theorem own_zl_uniq (n : Nat) (xs ys : List Int32) (k : Nat) (hx : n ≤ xs.length) (hy : n ≤ ys.length) (hk : k ≤ n) (he : ∀ e, e < k → xs[e]? = ys[e]?) (hne : k < n → ¬ (xs[k]? = ys[k]?)) : own_zl n xs ys = k := by
  induction n generalizing xs ys k with
  | zero => simp [own_zl]; omega
  | succ n ih =>
    match xs, ys, hx, hy with
    | x :: xs, y :: ys, hx, hy =>
      simp only [List.length_cons] at hx hy
      simp only [own_zl]
      match k with
      | 0 =>
        have := hne (by omega)
        simp at this
        rw [if_neg this]
      | k + 1 =>
        have h0 := he 0 (by omega)
        simp at h0
        rw [if_pos h0, ih xs ys k (by omega) (by omega) (by omega) (fun e q => by simpa using he (e + 1) (by omega)) (fun q => by simpa using hne (by omega))]
theorem own_zl_eq (n : Nat) (xs ys : List Int32) (hx : n ≤ xs.length) (hy : n ≤ ys.length) (e : Nat) (he : e < own_zl n xs ys) : xs[e]? = ys[e]? := by
  induction n generalizing xs ys e with
  | zero => simp [own_zl] at he
  | succ n ih =>
    match xs, ys, hx, hy with
    | x :: xs, y :: ys, hx, hy =>
      simp only [List.length_cons] at hx hy
      simp only [own_zl] at he
      split at he
      · rename_i q
        match e with
        | 0 => simp [q]
        | e + 1 => simpa using ih xs ys (by omega) (by omega) e (by omega)
      · omega
theorem own_zl_ne (n : Nat) (xs ys : List Int32) (hx : n ≤ xs.length) (hy : n ≤ ys.length) (h : own_zl n xs ys < n) : ¬ (xs[own_zl n xs ys]? = ys[own_zl n xs ys]?) := by
  induction n generalizing xs ys with
  | zero => omega
  | succ n ih =>
    match xs, ys, hx, hy with
    | x :: xs, y :: ys, hx, hy =>
      simp only [List.length_cons] at hx hy
      simp only [own_zl] at h ⊢
      split at h
      · rename_i q
        rw [if_pos q]
        simpa using ih xs ys (by omega) (by omega) (by omega)
      · rename_i q
        rw [if_neg q]
        simpa using q
theorem own_get (vs : List Int32) (k : Nat) (h : k < vs.length) : ∃ v, vs[k]? = some v := ⟨_, List.getElem?_eq_getElem h⟩
/-- the window that the walk has seen to match -/
def own_inv (n : Nat) (ps ts : List Int32) (l r : Nat) : Prop := l ≤ r ∧ r ≤ ts.length ∧ r ≤ l + n ∧ ∀ e, l + e < r → ps[e]? = ts[l + e]?
/-- a place inside the window: what the table says -/
theorem own_in_win {n : Nat} {ps ts : List Int32} {l r i mx z : Nat} (I : own_inv n ps ts l r) (hn : n ≤ ps.length) (hl : l ≤ i) (hi : i < r) (hm : mx = min n (ts.length - i)) (hz : z = own_zl (n - (i - l)) ps (ps.drop (i - l))) :
    (∀ e, e < min z (r - i) → ps[e]? = (ts.drop i)[e]?) ∧ min z (r - i) ≤ mx ∧ (z < r - i → own_zl mx ps (ts.drop i) = z) := by
  obtain ⟨i1, i2, i3, i4⟩ := I
  have hz1 := own_zl_le (n - (i - l)) ps (ps.drop (i - l))
  have hz2 := own_zl_eq (n - (i - l)) ps (ps.drop (i - l)) (by omega) (by simp; omega)
  have hz3 := own_zl_ne (n - (i - l)) ps (ps.drop (i - l)) (by omega) (by simp; omega)
  rw [← hz] at hz1 hz2 hz3
  have key : ∀ e, e < r - i → (ps.drop (i - l))[e]? = (ts.drop i)[e]? := by
    intro e he
    rw [List.getElem?_drop, List.getElem?_drop, i4 (i - l + e) (by omega), show l + (i - l + e) = i + e from by omega]
  refine ⟨fun e he => ?_, by omega, fun q => ?_⟩
  · rw [hz2 e (by omega)]; exact key e (by omega)
  · refine own_zl_uniq _ _ _ _ (by omega) (by simp; omega) (by omega) (fun e he => ?_) (fun _ g => ?_)
    · rw [hz2 e he]; exact key e (by omega)
    · rw [← key z (by omega)] at g
      exact hz3 (by omega) g
set_option maxRecDepth 65536 in
set_option maxHeartbeats 40000000 in
theorem rm_sym (l : Launch) (Z : State) (a0 : Array Value) (hw : ∀ d ∈ tables_1, d.before a0 Z = true) (ws : List Jvm.Cond) (q0 q1 q2 q3 : Int32) (h0 : Heap) (n0 : Nat) (hz : n0 ≤ h0.size) :
    OwnMet l (⟨"com/example/zspan/zspan/SearchedBytesAtPinLaw", "sym", "(IIBB)B"⟩ : MethodName) method_2_code 4 (some .byte) ws ({ frames := 0, cells := 0, slots := 0, locals := 0 } : Room) Z h0 n0 #[.int q0, .int q1, .int q2, .int q3] (fun v h => (∃ z, v = some (.int z)) ∧ h0 = h) := by
  refine OwnMet.of (own := "com/example/zspan/zspan/SearchedBytesAtPinLaw") (name := "sym") (desc := "(IIBB)B") (Ls := [.val (.int q0), .val (.int q1), .val (.int q2), .val (.int q3)]) (plainFor_of_name pn_com_example_zspan_zspan_SearchedBytesAtPinLaw) (fun m => by first | (simp [entryFrame, mkF, argsToLocals, Value.category]; done) | rfl) ?_
  intro K hK C
  refine w_iloadN 1 C d1_0 rfl rfl ?_
  refine w_iloadN 2 C d1_1 rfl rfl ?_
  refine w_ishr 3 C d1_2 rfl ?_
  refine w_iconst 4 (1 : Int32) C d1_3 rfl rfl ?_
  refine w_iand 5 C d1_4 rfl ?_
  refine w_if 12 8 C d1_5 rfl rfl (fun (hc5 : ¬ (((q0 >>> (q1 &&& 31)) &&& (1 : Int32)) = (0 : Int32))) => ?_) (fun (hc5 : ¬ (¬ (((q0 >>> (q1 &&& 31)) &&& (1 : Int32)) = (0 : Int32)))) => ?_)
  · refine w_iloadN 13 C d1_12 rfl rfl ?_
    refine w_retN C (by simp) d1_13 rfl (by decide) (by decide) ?_
    exact ⟨⟨_, rfl⟩, rfl⟩
  · refine w_iloadN 9 C d1_8 rfl rfl ?_
    refine w_goto 13 C d1_9 rfl ?_
    refine w_retN C (by simp) d1_13 rfl (by decide) (by decide) ?_
    exact ⟨⟨_, rfl⟩, rfl⟩
set_option maxRecDepth 65536 in
set_option maxHeartbeats 40000000 in
theorem rm_min (l : Launch) (Z : State) (a0 : Array Value) (hw : ∀ d ∈ tables_1, d.before a0 Z = true) (ws : List Jvm.Cond) (x y : Int32) (h0 : Heap) (n0 : Nat) (hz : n0 ≤ h0.size) :
    OwnMet l (⟨"java/lang/Math", "min", "(II)I"⟩ : MethodName) jdk_29_method_69_code 2 (some .int) ws ({ frames := 0, cells := 0, slots := 0, locals := 0 } : Room) Z h0 n0 #[.int x, .int y] (fun v h => (∃ z, v = some (.int z) ∧ z.toInt = min x.toInt y.toInt) ∧ h0 = h) := by
  refine OwnMet.of (own := "java/lang/Math") (name := "min") (desc := "(II)I") (Ls := [.val (.int x), .val (.int y)]) (Jvm.Free.JP.mathPlain rfl (by decide +kernel)) (fun m => by first | (simp [entryFrame, mkF, argsToLocals, Value.category]; done) | rfl) ?_
  intro K hK C
  refine w_iloadN 1 C d6_0 rfl rfl ?_
  refine w_iloadN 2 C d6_1 rfl rfl ?_
  refine w_icmp 9 5 C d6_2 rfl rfl (fun (hc2 : y.toInt < x.toInt) => ?_) (fun (hc2 : ¬ (y.toInt < x.toInt)) => ?_)
  · refine w_iloadN 10 C d6_9 rfl rfl ?_
    refine w_retI C d6_10 (by decide) (by decide) ?_
    exact ⟨⟨_, rfl, by omega⟩, rfl⟩
  · refine w_iloadN 6 C d6_5 rfl rfl ?_
    refine w_goto 10 C d6_6 rfl ?_
    refine w_retI C d6_10 (by decide) (by decide) ?_
    exact ⟨⟨_, rfl, by omega⟩, rfl⟩
set_option maxRecDepth 65536 in
set_option maxHeartbeats 40000000 in
theorem rm_lcp (l : Launch) (Z : State) (a0 : Array Value) (hw : ∀ d ∈ tables_1, d.before a0 Z = true) (ws : List Jvm.Cond) (pa ta : Addr) (i m : Int32) (ps ts : List Int32) (ni nm : Nat) (h0 : Heap) (n0 : Nat) (hz : n0 ≤ h0.size) (A_p : Ai Z h0 pa .byte ps) (A_t : Ai Z h0 ta .byte ts) (hi : i.toInt = (ni : Int)) (hm : m.toInt.toNat = nm) (hlp : nm ≤ ps.length) (hlt : ni + nm ≤ ts.length) (h4 : nm ≤ 3) (hi9 : ni ≤ 9) :
    OwnMet l (⟨"com/example/zspan/zspan/SearchedBytesAtPinLaw", "lcp", "([B[BII)I"⟩ : MethodName) method_3_code 5 (some .int) ws ({ frames := 0, cells := 0, slots := 0, locals := 0 } : Room) Z h0 n0 #[.ref pa, .ref ta, .int i, .int m] (fun v h => (∃ z, v = some (.int z) ∧ z.toInt = ((own_zl nm ps (ts.drop ni) : Nat) : Int)) ∧ h0 = h) := by
  refine OwnMet.of (own := "com/example/zspan/zspan/SearchedBytesAtPinLaw") (name := "lcp") (desc := "([B[BII)I") (Ls := [.val (.ref pa), .val (.ref ta), .val (.int i), .val (.int m), .unset]) (plainFor_of_name pn_com_example_zspan_zspan_SearchedBytesAtPinLaw) (fun m => by first | (simp [entryFrame, mkF, argsToLocals, Value.category]; done) | rfl) ?_
  intro K hK C
  refine w_iconst 1 (0 : Int32) C d2_0 rfl rfl ?_
  refine w_istore 3 [.val (.ref pa), .val (.ref ta), .val (.int i), .val (.int m), .val (.int (0 : Int32))] C d2_1 rfl rfl ?_
  refine w_iloadN 4 C d2_3 rfl rfl ?_
  refine w_if 57 7 C d2_4 rfl rfl (fun (hc4 : m.toInt ≤ (0 : Int32).toInt) => ?_) (fun (hc4 : ¬ (m.toInt ≤ (0 : Int32).toInt)) => ?_)
  · refine w_iload 59 C d2_57 rfl rfl ?_
    simp only [Int32.reduceToInt] at *
    refine w_retI C d2_59 (by decide) (by decide) ?_
    exact ⟨⟨_, rfl, by rw [own_zl_uniq nm ps (ts.drop ni) 0 (by omega) (by simp; omega) (by omega) (fun e he => absurd he (by omega)) (fun q => absurd q (by omega))]; decide⟩, rfl⟩
  · refine w_aloadN 8 C d2_7 rfl rfl rfl ?_
    refine w_iconst 9 (0 : Int32) C d2_8 rfl rfl ?_
    obtain ⟨a0, hp0⟩ := own_get ps 0 (by simp only [Int32.reduceToInt] at *; omega)
    refine w_baload 10 (0) a0 C A_p d2_9 rfl (by decide) hp0 ?_
    refine w_aloadN 11 C d2_10 rfl rfl rfl ?_
    refine w_iloadN 12 C d2_11 rfl rfl ?_
    obtain ⟨t0, ht0⟩ := own_get ts (ni + 0) (by simp only [Int32.reduceToInt] at *; omega)
    refine w_baload 13 (ni + 0) t0 C A_t d2_12 rfl (by omega) ht0 ?_
    refine w_icmp 57 16 C d2_13 rfl rfl (fun (hc13 : ¬ (a0 = t0)) => ?_) (fun (hc13 : ¬ (¬ (a0 = t0))) => ?_)
    · refine w_iload 59 C d2_57 rfl rfl ?_
      simp only [Int32.reduceToInt] at *
      refine w_retI C d2_59 (by decide) (by decide) ?_
      exact ⟨⟨_, rfl, by rw [own_zl_uniq nm ps (ts.drop ni) 0 (by omega) (by simp; omega) (by omega) (fun e he => absurd he (by omega)) (fun q => by rw [List.getElem?_drop, hp0, ht0]; exact fun g => hc13 (Option.some.inj g))]; decide⟩, rfl⟩
    · have m0 : ps[0]? = (ts.drop ni)[0]? := by rw [List.getElem?_drop, hp0, ht0, Classical.not_not.mp hc13]
      refine w_iconst 17 (1 : Int32) C d2_16 rfl rfl ?_
      refine w_istore 19 [.val (.ref pa), .val (.ref ta), .val (.int i), .val (.int m), .val (.int (1 : Int32))] C d2_17 rfl rfl ?_
      refine w_iloadN 20 C d2_19 rfl rfl ?_
      refine w_iconst 21 (1 : Int32) C d2_20 rfl rfl ?_
      refine w_icmp 57 24 C d2_21 rfl rfl (fun (hc21 : m.toInt ≤ (1 : Int32).toInt) => ?_) (fun (hc21 : ¬ (m.toInt ≤ (1 : Int32).toInt)) => ?_)
      · refine w_iload 59 C d2_57 rfl rfl ?_
        simp only [Int32.reduceToInt] at *
        refine w_retI C d2_59 (by decide) (by decide) ?_
        exact ⟨⟨_, rfl, by rw [own_zl_uniq nm ps (ts.drop ni) 1 (by omega) (by simp; omega) (by omega) (by intro e he; match e, he with | 0, _ => exact m0 | (e + 1), he => exact absurd he (by omega)) (fun q => absurd q (by omega))]; decide⟩, rfl⟩
      · refine w_aloadN 25 C d2_24 rfl rfl rfl ?_
        refine w_iconst 26 (1 : Int32) C d2_25 rfl rfl ?_
        obtain ⟨a1, hp1⟩ := own_get ps 1 (by simp only [Int32.reduceToInt] at *; omega)
        refine w_baload 27 (1) a1 C A_p d2_26 rfl (by decide) hp1 ?_
        refine w_aloadN 28 C d2_27 rfl rfl rfl ?_
        refine w_iloadN 29 C d2_28 rfl rfl ?_
        refine w_iconst 30 (1 : Int32) C d2_29 rfl rfl ?_
        refine w_iadd 31 C d2_30 rfl ?_
        obtain ⟨t1, ht1⟩ := own_get ts (ni + 1) (by simp only [Int32.reduceToInt] at *; omega)
        refine w_baload 32 (ni + 1) t1 C A_t d2_31 rfl (by rw [own_iadd, hi, show (1 : Int32).toInt = 1 from by decide]; omega) ht1 ?_
        refine w_icmp 57 35 C d2_32 rfl rfl (fun (hc32 : ¬ (a1 = t1)) => ?_) (fun (hc32 : ¬ (¬ (a1 = t1))) => ?_)
        · refine w_iload 59 C d2_57 rfl rfl ?_
          simp only [Int32.reduceToInt] at *
          refine w_retI C d2_59 (by decide) (by decide) ?_
          exact ⟨⟨_, rfl, by rw [own_zl_uniq nm ps (ts.drop ni) 1 (by omega) (by simp; omega) (by omega) (by intro e he; match e, he with | 0, _ => exact m0 | (e + 1), he => exact absurd he (by omega)) (fun q => by rw [List.getElem?_drop, hp1, ht1]; exact fun g => hc32 (Option.some.inj g))]; decide⟩, rfl⟩
        · have m1 : ps[1]? = (ts.drop ni)[1]? := by rw [List.getElem?_drop, hp1, ht1, Classical.not_not.mp hc32]
          refine w_iconst 36 (2 : Int32) C d2_35 rfl rfl ?_
          refine w_istore 38 [.val (.ref pa), .val (.ref ta), .val (.int i), .val (.int m), .val (.int (2 : Int32))] C d2_36 rfl rfl ?_
          refine w_iloadN 39 C d2_38 rfl rfl ?_
          refine w_iconst 40 (2 : Int32) C d2_39 rfl rfl ?_
          refine w_icmp 57 43 C d2_40 rfl rfl (fun (hc40 : m.toInt ≤ (2 : Int32).toInt) => ?_) (fun (hc40 : ¬ (m.toInt ≤ (2 : Int32).toInt)) => ?_)
          · refine w_iload 59 C d2_57 rfl rfl ?_
            simp only [Int32.reduceToInt] at *
            refine w_retI C d2_59 (by decide) (by decide) ?_
            exact ⟨⟨_, rfl, by rw [own_zl_uniq nm ps (ts.drop ni) 2 (by omega) (by simp; omega) (by omega) (by intro e he; match e, he with | 0, _ => exact m0 | 1, _ => exact m1 | (e + 2), he => exact absurd he (by omega)) (fun q => absurd q (by omega))]; decide⟩, rfl⟩
          · refine w_aloadN 44 C d2_43 rfl rfl rfl ?_
            refine w_iconst 45 (2 : Int32) C d2_44 rfl rfl ?_
            obtain ⟨a2, hp2⟩ := own_get ps 2 (by simp only [Int32.reduceToInt] at *; omega)
            refine w_baload 46 (2) a2 C A_p d2_45 rfl (by decide) hp2 ?_
            refine w_aloadN 47 C d2_46 rfl rfl rfl ?_
            refine w_iloadN 48 C d2_47 rfl rfl ?_
            refine w_iconst 49 (2 : Int32) C d2_48 rfl rfl ?_
            refine w_iadd 50 C d2_49 rfl ?_
            obtain ⟨t2, ht2⟩ := own_get ts (ni + 2) (by simp only [Int32.reduceToInt] at *; omega)
            refine w_baload 51 (ni + 2) t2 C A_t d2_50 rfl (by rw [own_iadd, hi, show (2 : Int32).toInt = 2 from by decide]; omega) ht2 ?_
            refine w_icmp 57 54 C d2_51 rfl rfl (fun (hc51 : ¬ (a2 = t2)) => ?_) (fun (hc51 : ¬ (¬ (a2 = t2))) => ?_)
            · refine w_iload 59 C d2_57 rfl rfl ?_
              simp only [Int32.reduceToInt] at *
              refine w_retI C d2_59 (by decide) (by decide) ?_
              exact ⟨⟨_, rfl, by rw [own_zl_uniq nm ps (ts.drop ni) 2 (by omega) (by simp; omega) (by omega) (by intro e he; match e, he with | 0, _ => exact m0 | 1, _ => exact m1 | (e + 2), he => exact absurd he (by omega)) (fun q => by rw [List.getElem?_drop, hp2, ht2]; exact fun g => hc51 (Option.some.inj g))]; decide⟩, rfl⟩
            · have m2 : ps[2]? = (ts.drop ni)[2]? := by rw [List.getElem?_drop, hp2, ht2, Classical.not_not.mp hc51]
              refine w_iconst 55 (3 : Int32) C d2_54 rfl rfl ?_
              refine w_istore 57 [.val (.ref pa), .val (.ref ta), .val (.int i), .val (.int m), .val (.int (3 : Int32))] C d2_55 rfl rfl ?_
              refine w_iload 59 C d2_57 rfl rfl ?_
              simp only [Int32.reduceToInt] at *
              refine w_retI C d2_59 (by decide) (by decide) ?_
              exact ⟨⟨_, rfl, by rw [own_zl_uniq nm ps (ts.drop ni) 3 (by omega) (by simp; omega) (by omega) (by intro e he; match e, he with | 0, _ => exact m0 | 1, _ => exact m1 | 2, _ => exact m2 | (e + 3), he => exact absurd he (by omega)) (fun q => absurd q (by omega))]; decide⟩, rfl⟩
set_option maxRecDepth 65536 in
set_option maxHeartbeats 40000000 in
theorem rm_i1 (l : Launch) (Z : State) (a0 : Array Value) (hw : ∀ d ∈ tables_1, d.before a0 Z = true) (ws : List Jvm.Cond) (a1 za : Addr) (u0 u1 u2 u3 u4 u5 u6 : Value) (h0 : Heap) (n0 : Nat) (hz : n0 ≤ h0.size) (E_a1 : Exa Z h0 a1 "com/example/zspan/zspan/PrefixWalk$SearchedBytes") (g_a1 : n0 ≤ a1) (F_z_a1 : Fld Z h0 a1 "com/example/zspan/zspan/PrefixWalk" "z" "[I" u0) (F_pattern_a1 : Fld Z h0 a1 "com/example/zspan/zspan/PrefixWalk$SearchedBytes" "pattern" "[B" u1) (F_text_a1 : Fld Z h0 a1 "com/example/zspan/zspan/PrefixWalk$SearchedBytes" "text" "[B" u2) (F_left_a1 : Fld Z h0 a1 "com/example/zspan/zspan/PrefixWalk" "left" "I" u3) (F_right_a1 : Fld Z h0 a1 "com/example/zspan/zspan/PrefixWalk" "right" "I" u4) (F_head_a1 : Fld Z h0 a1 "com/example/zspan/zspan/PrefixWalk$SearchedBytes" "head" "I" u5) (F_headBits_a1 : Fld Z h0 a1 "com/example/zspan/zspan/PrefixWalk$SearchedBytes" "headBits" "I" u6) :
    OwnMet l (⟨"com/example/zspan/zspan/PrefixWalk", "<init>", "([I)V"⟩ : MethodName) prog_4_method_1_code 2 none ws ({ frames := 1, cells := 0, slots := 0, locals := 12 } : Room) Z h0 n0 #[.ref a1, .ref za] (fun v h => v = none ∧ Keep h0 h [a1] ∧ Exa Z h a1 "com/example/zspan/zspan/PrefixWalk$SearchedBytes" ∧ Fld Z h a1 "com/example/zspan/zspan/PrefixWalk" "z" "[I" (.ref za) ∧ Fld Z h a1 "com/example/zspan/zspan/PrefixWalk$SearchedBytes" "pattern" "[B" u1 ∧ Fld Z h a1 "com/example/zspan/zspan/PrefixWalk$SearchedBytes" "text" "[B" u2 ∧ Fld Z h a1 "com/example/zspan/zspan/PrefixWalk" "left" "I" u3 ∧ Fld Z h a1 "com/example/zspan/zspan/PrefixWalk" "right" "I" u4 ∧ Fld Z h a1 "com/example/zspan/zspan/PrefixWalk$SearchedBytes" "head" "I" u5 ∧ Fld Z h a1 "com/example/zspan/zspan/PrefixWalk$SearchedBytes" "headBits" "I" u6) := by
  refine OwnMet.of (own := "com/example/zspan/zspan/PrefixWalk") (name := "<init>") (desc := "([I)V") (Ls := [.val (.ref a1), .val (.ref za)]) (plainFor_of_name pn_com_example_zspan_zspan_PrefixWalk) (fun m => by first | (simp [entryFrame, mkF, argsToLocals, Value.category]; done) | rfl) ?_
  intro K hK C
  have KK : Keep h0 h0 [a1] := Keep.refl _ _
  refine w_aloadN 1 C d4_0 rfl rfl rfl ?_
  refine w_initO 4 0 C d4_1 rfl (hw _ (List.mem_of_getElem? (i := 20) rfl)) (hw _ (List.mem_of_getElem? (i := 21) rfl)) (hw _ (List.mem_of_getElem? (i := 22) rfl)) rfl (by decide) (Nat.le_of_eq rfl) (by decide) ?_
  refine w_aloadN 5 C d4_4 rfl rfl rfl ?_
  refine w_aloadN 6 C d4_5 rfl rfl rfl ?_
  refine w_putF (host := "") (ty := (.array .int)) 9 C F_z_a1 E_a1 g_a1 d4_6 rfl (Or.inl (hw _ (List.mem_of_getElem? (i := 23) rfl))) Via.refl (Or.inr ⟨(hw _ (List.mem_of_getElem? (i := 24) rfl)), rfl, rfl⟩) (hw _ (List.mem_of_getElem? (i := 10) rfl)) (by decide) rfl rfl ?_
  intro h1 K_h1 W_h1 Fn_ En_
  replace F_pattern_a1 := F_pattern_a1.other W_h1 (Or.inr (slot_ne (Or.inr (hw _ (List.mem_of_getElem? (i := 26) rfl))) (Or.inr (hw _ (List.mem_of_getElem? (i := 24) rfl))) (by decide) (t := (.array .byte)) (t' := (.array .int)) (by decide) (by decide)))
  replace F_text_a1 := F_text_a1.other W_h1 (Or.inr (slot_ne (Or.inr (hw _ (List.mem_of_getElem? (i := 28) rfl))) (Or.inr (hw _ (List.mem_of_getElem? (i := 24) rfl))) (by decide) (t := (.array .byte)) (t' := (.array .int)) (by decide) (by decide)))
  replace F_left_a1 := F_left_a1.other W_h1 (Or.inr (slot_ne (Or.inl (hw _ (List.mem_of_getElem? (i := 51) rfl))) (Or.inr (hw _ (List.mem_of_getElem? (i := 24) rfl))) (by decide) (t := .int) (t' := (.array .int)) (by decide) (by decide)))
  replace F_right_a1 := F_right_a1.other W_h1 (Or.inr (slot_ne (Or.inl (hw _ (List.mem_of_getElem? (i := 48) rfl))) (Or.inr (hw _ (List.mem_of_getElem? (i := 24) rfl))) (by decide) (t := .int) (t' := (.array .int)) (by decide) (by decide)))
  replace F_head_a1 := F_head_a1.other W_h1 (Or.inr (slot_ne (Or.inr (hw _ (List.mem_of_getElem? (i := 34) rfl))) (Or.inr (hw _ (List.mem_of_getElem? (i := 24) rfl))) (by decide) (t := .int) (t' := (.array .int)) (by decide) (by decide)))
  replace F_headBits_a1 := F_headBits_a1.other W_h1 (Or.inr (slot_ne (Or.inr (hw _ (List.mem_of_getElem? (i := 36) rfl))) (Or.inr (hw _ (List.mem_of_getElem? (i := 24) rfl))) (by decide) (t := .int) (t' := (.array .int)) (by decide) (by decide)))
  replace F_z_a1 := Fn_
  replace E_a1 := En_
  replace hz := Nat.le_trans hz K_h1.1
  replace KK := KK.trans K_h1 (allS (Or.inl (by simp)) all0)
  refine w_ret C d4_9 (by decide) (by decide) ?_
  exact ⟨rfl, KK, E_a1, F_z_a1, F_pattern_a1, F_text_a1, F_left_a1, F_right_a1, F_head_a1, F_headBits_a1⟩
set_option maxRecDepth 65536 in
set_option maxHeartbeats 40000000 in
theorem rm_i2 (l : Launch) (Z : State) (a0 : Array Value) (hw : ∀ d ∈ tables_1, d.before a0 Z = true) (ws : List Jvm.Cond) (a1 za pa ta : Addr) (u0 u1 u2 u3 u4 u5 u6 : Value) (y0 y1 y2 : Int32) (h0 : Heap) (n0 : Nat) (hz : n0 ≤ h0.size) (E_a1 : Exa Z h0 a1 "com/example/zspan/zspan/PrefixWalk$SearchedBytes") (g_a1 : n0 ≤ a1) (F_z_a1 : Fld Z h0 a1 "com/example/zspan/zspan/PrefixWalk" "z" "[I" u0) (F_pattern_a1 : Fld Z h0 a1 "com/example/zspan/zspan/PrefixWalk$SearchedBytes" "pattern" "[B" u1) (F_text_a1 : Fld Z h0 a1 "com/example/zspan/zspan/PrefixWalk$SearchedBytes" "text" "[B" u2) (F_left_a1 : Fld Z h0 a1 "com/example/zspan/zspan/PrefixWalk" "left" "I" u3) (F_right_a1 : Fld Z h0 a1 "com/example/zspan/zspan/PrefixWalk" "right" "I" u4) (F_head_a1 : Fld Z h0 a1 "com/example/zspan/zspan/PrefixWalk$SearchedBytes" "head" "I" u5) (F_headBits_a1 : Fld Z h0 a1 "com/example/zspan/zspan/PrefixWalk$SearchedBytes" "headBits" "I" u6) (A_pa : Ai Z h0 pa .byte [y0, y1, y2]) (ne_pa_a1 : pa ≠ a1) :
    OwnMet l (⟨"com/example/zspan/zspan/PrefixWalk$SearchedBytes", "<init>", "([I[B[B)V"⟩ : MethodName) prog_8_method_1_code 7 none ws ({ frames := 2, cells := 0, slots := 0, locals := 25 } : Room) Z h0 n0 #[.ref a1, .ref za, .ref pa, .ref ta] (fun v h => v = none ∧ Keep h0 h [a1] ∧ Exa Z h a1 "com/example/zspan/zspan/PrefixWalk$SearchedBytes" ∧ (∃ q1 q2 : Value, Fld Z h a1 "com/example/zspan/zspan/PrefixWalk" "z" "[I" (.ref za) ∧ Fld Z h a1 "com/example/zspan/zspan/PrefixWalk$SearchedBytes" "pattern" "[B" (.ref pa) ∧ Fld Z h a1 "com/example/zspan/zspan/PrefixWalk$SearchedBytes" "text" "[B" (.ref ta) ∧ Fld Z h a1 "com/example/zspan/zspan/PrefixWalk" "left" "I" u3 ∧ Fld Z h a1 "com/example/zspan/zspan/PrefixWalk" "right" "I" u4 ∧ Fld Z h a1 "com/example/zspan/zspan/PrefixWalk$SearchedBytes" "head" "I" q1 ∧ Fld Z h a1 "com/example/zspan/zspan/PrefixWalk$SearchedBytes" "headBits" "I" q2)) := by
  refine OwnMet.of (own := "com/example/zspan/zspan/PrefixWalk$SearchedBytes") (name := "<init>") (desc := "([I[B[B)V") (Ls := [.val (.ref a1), .val (.ref za), .val (.ref pa), .val (.ref ta), .unset, .unset, .unset]) (plainFor_of_name pn_com_example_zspan_zspan_PrefixWalk_SearchedBytes) (fun m => by first | (simp [entryFrame, mkF, argsToLocals, Value.category]; done) | rfl) ?_
  intro K hK C
  have KK : Keep h0 h0 [a1] := Keep.refl _ _
  refine w_aloadN 1 C d3_0 rfl rfl rfl ?_
  refine w_aloadN 2 C d3_1 rfl rfl rfl ?_
  refine w_callIN (y := (⟨"com/example/zspan/zspan/PrefixWalk", "<init>", "([I)V"⟩ : MethodName)) (a := a1) 5 0 [.ref za] C d3_2 rfl rfl (hw _ (List.mem_of_getElem? (i := 15) rfl)) (hw _ (List.mem_of_getElem? (i := 16) rfl)) (hw _ (List.mem_of_getElem? (i := 18) rfl)) (hw _ (List.mem_of_getElem? (i := 19) rfl)) (by decide) (rm_i1 K.l Z a0 hw [] a1 za u0 u1 u2 u3 u4 u5 u6 h0 n0 hz E_a1 g_a1 F_z_a1 F_pattern_a1 F_text_a1 F_left_a1 F_right_a1 F_head_a1 F_headBits_a1) pd_aI_to_V rfl (rest := []) rfl rfl (Nat.le_of_eq rfl) (by decide) (by decide) (by decide) (by decide) ?_
  rintro v1 hC ⟨rfl, K1, E_a1, F_z_a1, F_pattern_a1, F_text_a1, F_left_a1, F_right_a1, F_head_a1, F_headBits_a1⟩
  show Go K hC 0 0 5 [.val (.ref a1), .val (.ref za), .val (.ref pa), .val (.ref ta), .unset, .unset, .unset] []
  replace hz := Nat.le_trans hz K1.1
  replace KK := KK.trans K1 (allS (Or.inl (by simp)) all0)
  replace A_pa := A_pa.keep K1 (ninS ne_pa_a1 nin0)
  refine w_aloadN 6 C d3_5 rfl rfl rfl ?_
  refine w_aloadN 7 C d3_6 rfl rfl rfl ?_
  refine w_putF (host := "") (ty := (.array .byte)) 10 C F_pattern_a1 E_a1 g_a1 d3_7 rfl (Or.inl (hw _ (List.mem_of_getElem? (i := 25) rfl))) Via.refl (Or.inr ⟨(hw _ (List.mem_of_getElem? (i := 26) rfl)), rfl, rfl⟩) (hw _ (List.mem_of_getElem? (i := 10) rfl)) (by decide) rfl rfl ?_
  intro h2 K_h2 W_h2 Fn_ En_
  replace F_z_a1 := F_z_a1.other W_h2 (Or.inr (slot_ne (Or.inr (hw _ (List.mem_of_getElem? (i := 24) rfl))) (Or.inr (hw _ (List.mem_of_getElem? (i := 26) rfl))) (by decide) (t := (.array .int)) (t' := (.array .byte)) (by decide) (by decide)))
  replace F_text_a1 := F_text_a1.other W_h2 (Or.inr (slot_ne (Or.inr (hw _ (List.mem_of_getElem? (i := 28) rfl))) (Or.inr (hw _ (List.mem_of_getElem? (i := 26) rfl))) (by decide) (t := (.array .byte)) (t' := (.array .byte)) (by decide) (by decide)))
  replace F_left_a1 := F_left_a1.other W_h2 (Or.inr (slot_ne (Or.inl (hw _ (List.mem_of_getElem? (i := 51) rfl))) (Or.inr (hw _ (List.mem_of_getElem? (i := 26) rfl))) (by decide) (t := .int) (t' := (.array .byte)) (by decide) (by decide)))
  replace F_right_a1 := F_right_a1.other W_h2 (Or.inr (slot_ne (Or.inl (hw _ (List.mem_of_getElem? (i := 48) rfl))) (Or.inr (hw _ (List.mem_of_getElem? (i := 26) rfl))) (by decide) (t := .int) (t' := (.array .byte)) (by decide) (by decide)))
  replace F_head_a1 := F_head_a1.other W_h2 (Or.inr (slot_ne (Or.inr (hw _ (List.mem_of_getElem? (i := 34) rfl))) (Or.inr (hw _ (List.mem_of_getElem? (i := 26) rfl))) (by decide) (t := .int) (t' := (.array .byte)) (by decide) (by decide)))
  replace F_headBits_a1 := F_headBits_a1.other W_h2 (Or.inr (slot_ne (Or.inr (hw _ (List.mem_of_getElem? (i := 36) rfl))) (Or.inr (hw _ (List.mem_of_getElem? (i := 26) rfl))) (by decide) (t := .int) (t' := (.array .byte)) (by decide) (by decide)))
  replace F_pattern_a1 := Fn_
  replace E_a1 := En_
  replace A_pa := A_pa.keep K_h2 (ninS ne_pa_a1 nin0)
  replace hz := Nat.le_trans hz K_h2.1
  replace KK := KK.trans K_h2 (allS (Or.inl (by simp)) all0)
  refine w_aloadN 11 C d3_10 rfl rfl rfl ?_
  refine w_aloadN 12 C d3_11 rfl rfl rfl ?_
  refine w_putF (host := "") (ty := (.array .byte)) 15 C F_text_a1 E_a1 g_a1 d3_12 rfl (Or.inl (hw _ (List.mem_of_getElem? (i := 27) rfl))) Via.refl (Or.inr ⟨(hw _ (List.mem_of_getElem? (i := 28) rfl)), rfl, rfl⟩) (hw _ (List.mem_of_getElem? (i := 10) rfl)) (by decide) rfl rfl ?_
  intro h3 K_h3 W_h3 Fn_ En_
  replace F_z_a1 := F_z_a1.other W_h3 (Or.inr (slot_ne (Or.inr (hw _ (List.mem_of_getElem? (i := 24) rfl))) (Or.inr (hw _ (List.mem_of_getElem? (i := 28) rfl))) (by decide) (t := (.array .int)) (t' := (.array .byte)) (by decide) (by decide)))
  replace F_pattern_a1 := F_pattern_a1.other W_h3 (Or.inr (slot_ne (Or.inr (hw _ (List.mem_of_getElem? (i := 26) rfl))) (Or.inr (hw _ (List.mem_of_getElem? (i := 28) rfl))) (by decide) (t := (.array .byte)) (t' := (.array .byte)) (by decide) (by decide)))
  replace F_left_a1 := F_left_a1.other W_h3 (Or.inr (slot_ne (Or.inl (hw _ (List.mem_of_getElem? (i := 51) rfl))) (Or.inr (hw _ (List.mem_of_getElem? (i := 28) rfl))) (by decide) (t := .int) (t' := (.array .byte)) (by decide) (by decide)))
  replace F_right_a1 := F_right_a1.other W_h3 (Or.inr (slot_ne (Or.inl (hw _ (List.mem_of_getElem? (i := 48) rfl))) (Or.inr (hw _ (List.mem_of_getElem? (i := 28) rfl))) (by decide) (t := .int) (t' := (.array .byte)) (by decide) (by decide)))
  replace F_head_a1 := F_head_a1.other W_h3 (Or.inr (slot_ne (Or.inr (hw _ (List.mem_of_getElem? (i := 34) rfl))) (Or.inr (hw _ (List.mem_of_getElem? (i := 28) rfl))) (by decide) (t := .int) (t' := (.array .byte)) (by decide) (by decide)))
  replace F_headBits_a1 := F_headBits_a1.other W_h3 (Or.inr (slot_ne (Or.inr (hw _ (List.mem_of_getElem? (i := 36) rfl))) (Or.inr (hw _ (List.mem_of_getElem? (i := 28) rfl))) (by decide) (t := .int) (t' := (.array .byte)) (by decide) (by decide)))
  replace F_text_a1 := Fn_
  replace E_a1 := En_
  replace A_pa := A_pa.keep K_h3 (ninS ne_pa_a1 nin0)
  replace hz := Nat.le_trans hz K_h3.1
  replace KK := KK.trans K_h3 (allS (Or.inl (by simp)) all0)
  refine w_aloadN 16 C d3_15 rfl rfl rfl ?_
  refine w_len 17 (3 : Int32) C A_pa d3_16 rfl rfl ?_
  refine w_iconst 18 (4 : Int32) C d3_17 rfl rfl ?_
  refine w_callS (y := (⟨"java/lang/Math", "min", "(II)I"⟩ : MethodName)) 21 0 [.int (3 : Int32), .int (4 : Int32)] C d3_18 rfl (hw _ (List.mem_of_getElem? (i := 29) rfl)) (hw _ (List.mem_of_getElem? (i := 30) rfl)) (hw _ (List.mem_of_getElem? (i := 31) rfl)) (hw _ (List.mem_of_getElem? (i := 32) rfl)) (by decide) (rm_min K.l Z a0 hw [] (3 : Int32) (4 : Int32) h3 n0 hz) pd_II_to_I rfl (rest := []) rfl rfl (Nat.le_of_eq rfl) (by decide) (by decide) (by decide) (by decide) ?_
  rintro v5 h4 ⟨⟨k, rfl, hk⟩, rfl⟩
  show Go K h3 0 0 21 [.val (.ref a1), .val (.ref za), .val (.ref pa), .val (.ref ta), .unset, .unset, .unset] [.int k]
  obtain rfl : k = (3 : Int32) := own_eq (by rw [hk]; decide)
  show Go K h3 0 0 21 [.val (.ref a1), .val (.ref za), .val (.ref pa), .val (.ref ta), .unset, .unset, .unset] [.int (3 : Int32)]
  refine w_istore 23 [.val (.ref a1), .val (.ref za), .val (.ref pa), .val (.ref ta), .val (.int (3 : Int32)), .unset, .unset] C d3_21 rfl rfl ?_
  refine w_iconst 24 (0 : Int32) C d3_23 rfl rfl ?_
  refine w_istore 26 [.val (.ref a1), .val (.ref za), .val (.ref pa), .val (.ref ta), .val (.int (3 : Int32)), .val (.int (0 : Int32)), .unset] C d3_24 rfl rfl ?_
  refine w_iload 28 C d3_26 rfl rfl ?_
  refine w_iconst 29 (1 : Int32) C d3_28 rfl rfl ?_
  refine w_isub 30 C d3_29 rfl ?_
  rw [show ((3 : Int32) - (1 : Int32)) = (2 : Int32) from by decide]
  refine w_istore 32 [.val (.ref a1), .val (.ref za), .val (.ref pa), .val (.ref ta), .val (.int (3 : Int32)), .val (.int (0 : Int32)), .val (.int (2 : Int32))] C d3_30 rfl rfl ?_
  refine w_iload 34 C d3_32 rfl rfl ?_
  refine w_ifN 37 C d3_34 rfl (show ¬ ((2 : Int32).toInt < (0 : Int32).toInt) from (by decide)) ?_
  refine w_iload 39 C d3_37 rfl rfl ?_
  refine w_bipush 41 (8 : Int32) C d3_39 rfl rfl ?_
  refine w_ishl 42 C d3_41 rfl ?_
  refine w_aloadN 43 C d3_42 rfl rfl rfl ?_
  refine w_iload 45 C d3_43 rfl rfl ?_
  refine w_baload 46 2 y2 C A_pa d3_45 rfl (by decide) rfl ?_
  refine w_sipush 49 (255 : Int32) C d3_46 rfl rfl ?_
  refine w_iand 50 C d3_49 rfl ?_
  refine w_ior 51 C d3_50 rfl ?_
  refine w_istore 53 [.val (.ref a1), .val (.ref za), .val (.ref pa), .val (.ref ta), .val (.int (3 : Int32)), .val (.int (((0 : Int32) <<< ((8 : Int32) &&& 31)) ||| (y2 &&& (255 : Int32)))), .val (.int (2 : Int32))] C d3_51 rfl rfl ?_
  generalize hv_x6 : (((0 : Int32) <<< ((8 : Int32) &&& 31)) ||| (y2 &&& (255 : Int32))) = x6
  refine w_iinc (z := (1 : Int32)) 56 [.val (.ref a1), .val (.ref za), .val (.ref pa), .val (.ref ta), .val (.int (3 : Int32)), .val (.int x6), .val (.int (1 : Int32))] C d3_53 rfl rfl rfl rfl ?_
  refine w_goto 32 C d3_56 rfl ?_
  refine w_iload 34 C d3_32 rfl rfl ?_
  refine w_ifN 37 C d3_34 rfl (show ¬ ((1 : Int32).toInt < (0 : Int32).toInt) from (by decide)) ?_
  refine w_iload 39 C d3_37 rfl rfl ?_
  refine w_bipush 41 (8 : Int32) C d3_39 rfl rfl ?_
  refine w_ishl 42 C d3_41 rfl ?_
  refine w_aloadN 43 C d3_42 rfl rfl rfl ?_
  refine w_iload 45 C d3_43 rfl rfl ?_
  refine w_baload 46 1 y1 C A_pa d3_45 rfl (by decide) rfl ?_
  refine w_sipush 49 (255 : Int32) C d3_46 rfl rfl ?_
  refine w_iand 50 C d3_49 rfl ?_
  refine w_ior 51 C d3_50 rfl ?_
  refine w_istore 53 [.val (.ref a1), .val (.ref za), .val (.ref pa), .val (.ref ta), .val (.int (3 : Int32)), .val (.int ((x6 <<< ((8 : Int32) &&& 31)) ||| (y1 &&& (255 : Int32)))), .val (.int (1 : Int32))] C d3_51 rfl rfl ?_
  generalize hv_x7 : ((x6 <<< ((8 : Int32) &&& 31)) ||| (y1 &&& (255 : Int32))) = x7
  refine w_iinc (z := (0 : Int32)) 56 [.val (.ref a1), .val (.ref za), .val (.ref pa), .val (.ref ta), .val (.int (3 : Int32)), .val (.int x7), .val (.int (0 : Int32))] C d3_53 rfl rfl rfl rfl ?_
  refine w_goto 32 C d3_56 rfl ?_
  refine w_iload 34 C d3_32 rfl rfl ?_
  refine w_ifN 37 C d3_34 rfl (show ¬ ((0 : Int32).toInt < (0 : Int32).toInt) from (by decide)) ?_
  refine w_iload 39 C d3_37 rfl rfl ?_
  refine w_bipush 41 (8 : Int32) C d3_39 rfl rfl ?_
  refine w_ishl 42 C d3_41 rfl ?_
  refine w_aloadN 43 C d3_42 rfl rfl rfl ?_
  refine w_iload 45 C d3_43 rfl rfl ?_
  refine w_baload 46 0 y0 C A_pa d3_45 rfl (by decide) rfl ?_
  refine w_sipush 49 (255 : Int32) C d3_46 rfl rfl ?_
  refine w_iand 50 C d3_49 rfl ?_
  refine w_ior 51 C d3_50 rfl ?_
  refine w_istore 53 [.val (.ref a1), .val (.ref za), .val (.ref pa), .val (.ref ta), .val (.int (3 : Int32)), .val (.int ((x7 <<< ((8 : Int32) &&& 31)) ||| (y0 &&& (255 : Int32)))), .val (.int (0 : Int32))] C d3_51 rfl rfl ?_
  generalize hv_x8 : ((x7 <<< ((8 : Int32) &&& 31)) ||| (y0 &&& (255 : Int32))) = x8
  refine w_iinc (z := (-1 : Int32)) 56 [.val (.ref a1), .val (.ref za), .val (.ref pa), .val (.ref ta), .val (.int (3 : Int32)), .val (.int x8), .val (.int (-1 : Int32))] C d3_53 rfl rfl rfl rfl ?_
  refine w_goto 32 C d3_56 rfl ?_
  refine w_iload 34 C d3_32 rfl rfl ?_
  refine w_ifY 59 C d3_34 rfl (show (-1 : Int32).toInt < (0 : Int32).toInt from (by decide)) ?_
  refine w_aloadN 60 C d3_59 rfl rfl rfl ?_
  refine w_iload 62 C d3_60 rfl rfl ?_
  refine w_putF (host := "") (ty := .int) 65 C F_head_a1 E_a1 g_a1 d3_62 rfl (Or.inl (hw _ (List.mem_of_getElem? (i := 33) rfl))) Via.refl (Or.inr ⟨(hw _ (List.mem_of_getElem? (i := 34) rfl)), rfl, rfl⟩) (hw _ (List.mem_of_getElem? (i := 10) rfl)) (by decide) rfl rfl ?_
  intro h9 K_h9 W_h9 Fn_ En_
  replace F_z_a1 := F_z_a1.other W_h9 (Or.inr (slot_ne (Or.inr (hw _ (List.mem_of_getElem? (i := 24) rfl))) (Or.inr (hw _ (List.mem_of_getElem? (i := 34) rfl))) (by decide) (t := (.array .int)) (t' := .int) (by decide) (by decide)))
  replace F_pattern_a1 := F_pattern_a1.other W_h9 (Or.inr (slot_ne (Or.inr (hw _ (List.mem_of_getElem? (i := 26) rfl))) (Or.inr (hw _ (List.mem_of_getElem? (i := 34) rfl))) (by decide) (t := (.array .byte)) (t' := .int) (by decide) (by decide)))
  replace F_text_a1 := F_text_a1.other W_h9 (Or.inr (slot_ne (Or.inr (hw _ (List.mem_of_getElem? (i := 28) rfl))) (Or.inr (hw _ (List.mem_of_getElem? (i := 34) rfl))) (by decide) (t := (.array .byte)) (t' := .int) (by decide) (by decide)))
  replace F_left_a1 := F_left_a1.other W_h9 (Or.inr (slot_ne (Or.inl (hw _ (List.mem_of_getElem? (i := 51) rfl))) (Or.inr (hw _ (List.mem_of_getElem? (i := 34) rfl))) (by decide) (t := .int) (t' := .int) (by decide) (by decide)))
  replace F_right_a1 := F_right_a1.other W_h9 (Or.inr (slot_ne (Or.inl (hw _ (List.mem_of_getElem? (i := 48) rfl))) (Or.inr (hw _ (List.mem_of_getElem? (i := 34) rfl))) (by decide) (t := .int) (t' := .int) (by decide) (by decide)))
  replace F_headBits_a1 := F_headBits_a1.other W_h9 (Or.inr (slot_ne (Or.inr (hw _ (List.mem_of_getElem? (i := 36) rfl))) (Or.inr (hw _ (List.mem_of_getElem? (i := 34) rfl))) (by decide) (t := .int) (t' := .int) (by decide) (by decide)))
  replace F_head_a1 := Fn_
  replace E_a1 := En_
  replace A_pa := A_pa.keep K_h9 (ninS ne_pa_a1 nin0)
  replace hz := Nat.le_trans hz K_h9.1
  replace KK := KK.trans K_h9 (allS (Or.inl (by simp)) all0)
  refine w_aloadN 66 C d3_65 rfl rfl rfl ?_
  refine w_iload 68 C d3_66 rfl rfl ?_
  refine w_iconst 69 (4 : Int32) C d3_68 rfl rfl ?_
  refine w_icmpY 76 C d3_69 rfl (show ¬ ((3 : Int32) = (4 : Int32)) from (by decide)) ?_
  refine w_iconst 77 (1 : Int32) C d3_76 rfl rfl ?_
  refine w_bipush 79 (8 : Int32) C d3_77 rfl rfl ?_
  refine w_iload 81 C d3_79 rfl rfl ?_
  refine w_imul 82 C d3_81 rfl ?_
  rw [show ((8 : Int32) * (3 : Int32)) = (24 : Int32) from by decide]
  refine w_ishl 83 C d3_82 rfl ?_
  refine w_iconst 84 (1 : Int32) C d3_83 rfl rfl ?_
  refine w_isub 85 C d3_84 rfl ?_
  refine w_putF (host := "") (ty := .int) 88 C F_headBits_a1 E_a1 g_a1 d3_85 rfl (Or.inl (hw _ (List.mem_of_getElem? (i := 35) rfl))) Via.refl (Or.inr ⟨(hw _ (List.mem_of_getElem? (i := 36) rfl)), rfl, rfl⟩) (hw _ (List.mem_of_getElem? (i := 10) rfl)) (by decide) rfl rfl ?_
  intro h10 K_h10 W_h10 Fn_ En_
  replace F_z_a1 := F_z_a1.other W_h10 (Or.inr (slot_ne (Or.inr (hw _ (List.mem_of_getElem? (i := 24) rfl))) (Or.inr (hw _ (List.mem_of_getElem? (i := 36) rfl))) (by decide) (t := (.array .int)) (t' := .int) (by decide) (by decide)))
  replace F_pattern_a1 := F_pattern_a1.other W_h10 (Or.inr (slot_ne (Or.inr (hw _ (List.mem_of_getElem? (i := 26) rfl))) (Or.inr (hw _ (List.mem_of_getElem? (i := 36) rfl))) (by decide) (t := (.array .byte)) (t' := .int) (by decide) (by decide)))
  replace F_text_a1 := F_text_a1.other W_h10 (Or.inr (slot_ne (Or.inr (hw _ (List.mem_of_getElem? (i := 28) rfl))) (Or.inr (hw _ (List.mem_of_getElem? (i := 36) rfl))) (by decide) (t := (.array .byte)) (t' := .int) (by decide) (by decide)))
  replace F_left_a1 := F_left_a1.other W_h10 (Or.inr (slot_ne (Or.inl (hw _ (List.mem_of_getElem? (i := 51) rfl))) (Or.inr (hw _ (List.mem_of_getElem? (i := 36) rfl))) (by decide) (t := .int) (t' := .int) (by decide) (by decide)))
  replace F_right_a1 := F_right_a1.other W_h10 (Or.inr (slot_ne (Or.inl (hw _ (List.mem_of_getElem? (i := 48) rfl))) (Or.inr (hw _ (List.mem_of_getElem? (i := 36) rfl))) (by decide) (t := .int) (t' := .int) (by decide) (by decide)))
  replace F_head_a1 := F_head_a1.other W_h10 (Or.inr (slot_ne (Or.inr (hw _ (List.mem_of_getElem? (i := 34) rfl))) (Or.inr (hw _ (List.mem_of_getElem? (i := 36) rfl))) (by decide) (t := .int) (t' := .int) (by decide) (by decide)))
  replace F_headBits_a1 := Fn_
  replace E_a1 := En_
  replace A_pa := A_pa.keep K_h10 (ninS ne_pa_a1 nin0)
  replace hz := Nat.le_trans hz K_h10.1
  replace KK := KK.trans K_h10 (allS (Or.inl (by simp)) all0)
  refine w_ret C d3_88 (by decide) (by decide) ?_
  exact ⟨rfl, KK, E_a1, _, _, F_z_a1, F_pattern_a1, F_text_a1, F_left_a1, F_right_a1, F_head_a1, F_headBits_a1⟩
set_option maxRecDepth 65536 in
set_option maxHeartbeats 40000000 in
theorem lp {K : OwnK} {Z : State} {a0 : Array Value} (hw : ∀ d ∈ tables_1, d.before a0 Z = true) {n0 : Nat} {Post : Option Value → Heap → Prop} (C : Cx K Z "com/example/zspan/zspan/PrefixWalk$SearchedBytes" "at" prog_8_method_3_code 4 (some .int) ({ frames := 1, cells := 0, slots := 0, locals := 15 } : Room) n0 Post) {h : Heap} {a1 pa ta : Addr} {i m : Int32} (F_pattern_a1 : Fld Z h a1 "com/example/zspan/zspan/PrefixWalk$SearchedBytes" "pattern" "[B" (.ref pa)) (F_text_a1 : Fld Z h a1 "com/example/zspan/zspan/PrefixWalk$SearchedBytes" "text" "[B" (.ref ta)) {ps ts : List Int32} (A_pa : Ai Z h pa .byte ps) (A_ta : Ai Z h ta .byte ts) (ni nm : Nat) (hi : i.toInt = (ni : Int)) (hm : m.toInt = (nm : Int)) (hp : nm ≤ ps.length) (ht : ni + nm ≤ ts.length) (hts : ts.length ≤ 9)
    (hx : ∀ k : Int32, k.toInt = ((own_zl nm ps (ts.drop ni) : Nat) : Int) → Go K h 0 0 73 [.val (.ref a1), .val (.int i), .val (.int m), .val (.int k)] []) :
    ∀ (d nk : Nat) (k : Int32), nm - nk = d → k.toInt = (nk : Int) → nk ≤ nm → (∀ e, e < nk → ps[e]? = (ts.drop ni)[e]?) → Go K h 0 0 45 [.val (.ref a1), .val (.int i), .val (.int m), .val (.int k)] [] := by
  intro d
  induction d with
  | zero =>
    intro nk k hd hk hkm hq
    refine w_iloadN 46 C d8_45 rfl rfl ?_
    refine w_iloadN 47 C d8_46 rfl rfl ?_
    refine w_icmpY 73 C d8_47 rfl (show m.toInt ≤ k.toInt from (by omega)) ?_
    exact hx k (by rw [own_zl_uniq nm ps (ts.drop ni) nk (by omega) (by simp; omega) (by omega) hq (fun q => absurd q (by omega))]; exact hk)
  | succ d ih =>
    intro nk k hd hk hkm hq
    obtain ⟨a, ha⟩ := own_get ps nk (by omega)
    obtain ⟨t, ht2⟩ := own_get ts (ni + nk) (by omega)
    refine w_iloadN 46 C d8_45 rfl rfl ?_
    refine w_iloadN 47 C d8_46 rfl rfl ?_
    refine w_icmpN 50 C d8_47 rfl (show ¬ (m.toInt ≤ k.toInt) from (by omega)) ?_
    refine w_aloadN 51 C d8_50 rfl rfl rfl ?_
    refine w_getF (host := "") 54 C F_pattern_a1 d8_51 rfl (Or.inl (hw _ (List.mem_of_getElem? (i := 25) rfl))) Via.refl ?_
    refine w_iloadN 55 C d8_54 rfl rfl ?_
    refine w_baload 56 (nk) a C A_pa d8_55 rfl hk ha ?_
    refine w_aloadN 57 C d8_56 rfl rfl rfl ?_
    refine w_getF (host := "") 60 C F_text_a1 d8_57 rfl (Or.inl (hw _ (List.mem_of_getElem? (i := 27) rfl))) Via.refl ?_
    refine w_iloadN 61 C d8_60 rfl rfl ?_
    refine w_iloadN 62 C d8_61 rfl rfl ?_
    refine w_iadd 63 C d8_62 rfl ?_
    refine w_baload 64 (ni + nk) t C A_ta d8_63 rfl (by rw [own_iadd, hi, hk]; omega) ht2 ?_
    refine w_icmp 73 67 C d8_64 rfl rfl (fun (hc64 : ¬ (a = t)) => ?_) (fun (hc64 : ¬ (¬ (a = t))) => ?_)
    · exact hx k (by rw [own_zl_uniq nm ps (ts.drop ni) nk (by omega) (by simp; omega) (by omega) hq (fun _ => by rw [List.getElem?_drop, ha, ht2]; exact fun g => hc64 (Option.some.inj g))]; exact hk)
    · refine w_iinc (z := (k + (1 : Int32))) 70 [.val (.ref a1), .val (.int i), .val (.int m), .val (.int (k + (1 : Int32)))] C d8_67 rfl rfl rfl rfl ?_
      refine w_goto 45 C d8_70 rfl ?_
      refine ih (nk + 1) _ (by omega) ?_ (by omega) ?_
      · rw [own_iadd, hk, show (1 : Int32).toInt = 1 from by decide]; omega
      · intro e he
        by_cases q : e = nk
        · subst q; rw [List.getElem?_drop, ha, ht2, Classical.not_not.mp hc64]
        · exact hq e (by omega)
set_option maxRecDepth 65536 in
set_option maxHeartbeats 40000000 in
theorem rm_at (l : Launch) (Z : State) (a0 : Array Value) (hw : ∀ d ∈ tables_1, d.before a0 Z = true) (ws : List Jvm.Cond) (a1 za pa ta : Addr) (le ri i m : Int32) (u5 u6 : Value) (ps ts zs : List Int32) (h0 : Heap) (n0 : Nat) (hz : n0 ≤ h0.size) (E_a1 : Exa Z h0 a1 "com/example/zspan/zspan/PrefixWalk$SearchedBytes") (g_a1 : n0 ≤ a1) (F_z_a1 : Fld Z h0 a1 "com/example/zspan/zspan/PrefixWalk" "z" "[I" (.ref za)) (F_pattern_a1 : Fld Z h0 a1 "com/example/zspan/zspan/PrefixWalk$SearchedBytes" "pattern" "[B" (.ref pa)) (F_text_a1 : Fld Z h0 a1 "com/example/zspan/zspan/PrefixWalk$SearchedBytes" "text" "[B" (.ref ta)) (F_left_a1 : Fld Z h0 a1 "com/example/zspan/zspan/PrefixWalk" "left" "I" (.int le)) (F_right_a1 : Fld Z h0 a1 "com/example/zspan/zspan/PrefixWalk" "right" "I" (.int ri)) (F_head_a1 : Fld Z h0 a1 "com/example/zspan/zspan/PrefixWalk$SearchedBytes" "head" "I" u5) (F_headBits_a1 : Fld Z h0 a1 "com/example/zspan/zspan/PrefixWalk$SearchedBytes" "headBits" "I" u6) (A_za : Ai Z h0 za .int zs) (A_pa : Ai Z h0 pa .byte ps) (A_ta : Ai Z h0 ta .byte ts) (ne1 : za ≠ a1) (ne2 : pa ≠ a1) (ne3 : ta ≠ a1) (n : Nat) (nl nr ni nm : Nat) (hle : le.toInt = (nl : Int)) (hri : ri.toInt = (nr : Int)) (hi : i.toInt = (ni : Int)) (hm : m.toInt = (nm : Int)) (IV : own_inv n ps ts nl nr) (hn : n ≤ ps.length) (hli : nl ≤ ni) (hit : ni ≤ ts.length) (hmx : nm = min n (ts.length - ni)) (hts : ts.length ≤ 9) (hzs : ∀ j, j < n → ∃ q : Int32, zs[j]? = some q ∧ q.toInt = ((own_zl (n - j) ps (ps.drop j) : Nat) : Int)) :
    OwnMet l (⟨"com/example/zspan/zspan/PrefixWalk$SearchedBytes", "at", "(II)I"⟩ : MethodName) prog_8_method_3_code 4 (some .int) ws ({ frames := 1, cells := 0, slots := 0, locals := 15 } : Room) Z h0 n0 #[.ref a1, .int i, .int m] (fun v h => (∃ k : Int32, v = some (.int k) ∧ k.toInt = ((own_zl nm ps (ts.drop ni) : Nat) : Int)) ∧ Keep h0 h [a1] ∧ Exa Z h a1 "com/example/zspan/zspan/PrefixWalk$SearchedBytes" ∧ (∃ (le2 ri2 : Int32) (nl2 nr2 : Nat), le2.toInt = (nl2 : Int) ∧ ri2.toInt = (nr2 : Int) ∧ own_inv n ps ts nl2 nr2 ∧ nl2 ≤ ni ∧ Fld Z h a1 "com/example/zspan/zspan/PrefixWalk" "z" "[I" (.ref za) ∧ Fld Z h a1 "com/example/zspan/zspan/PrefixWalk$SearchedBytes" "pattern" "[B" (.ref pa) ∧ Fld Z h a1 "com/example/zspan/zspan/PrefixWalk$SearchedBytes" "text" "[B" (.ref ta) ∧ Fld Z h a1 "com/example/zspan/zspan/PrefixWalk" "left" "I" (.int le2) ∧ Fld Z h a1 "com/example/zspan/zspan/PrefixWalk" "right" "I" (.int ri2) ∧ Fld Z h a1 "com/example/zspan/zspan/PrefixWalk$SearchedBytes" "head" "I" u5 ∧ Fld Z h a1 "com/example/zspan/zspan/PrefixWalk$SearchedBytes" "headBits" "I" u6)) := by
  refine OwnMet.of (own := "com/example/zspan/zspan/PrefixWalk$SearchedBytes") (name := "at") (desc := "(II)I") (Ls := [.val (.ref a1), .val (.int i), .val (.int m), .unset]) (plainFor_of_name pn_com_example_zspan_zspan_PrefixWalk_SearchedBytes) (fun m => by first | (simp [entryFrame, mkF, argsToLocals, Value.category]; done) | rfl) ?_
  intro K hK C
  have KK : Keep h0 h0 [a1] := Keep.refl _ _
  have hIV := IV
  obtain ⟨v1, v2, v3, v4⟩ := hIV
  have hlcle := own_zl_le nm ps (ts.drop ni)
  refine w_iloadN 1 C d8_0 rfl rfl ?_
  refine w_aloadN 2 C d8_1 rfl rfl rfl ?_
  refine w_getF (host := "") 5 C F_right_a1 d8_2 rfl (Or.inl (hw _ (List.mem_of_getElem? (i := 46) rfl))) (Via.of (hw _ (List.mem_of_getElem? (i := 47) rfl))) ?_
  suffices J_33 : ∀ (k : Int32) (nk : Nat), (k.toInt = (nk : Int)) → (nk ≤ nm) → (∀ e, e < nk → ps[e]? = (ts.drop ni)[e]?) → (ni + nk < nr → own_zl nm ps (ts.drop ni) = nk) → Go K h0 0 0 33 [.val (.ref a1), .val (.int i), .val (.int m), .val (.int k)] [] by
    refine w_icmp 31 8 C d8_5 rfl rfl (fun (hc5 : ri.toInt ≤ i.toInt) => ?_) (fun (hc5 : ¬ (ri.toInt ≤ i.toInt)) => ?_)
    · refine w_iconst 32 (0 : Int32) C d8_31 rfl rfl ?_
      refine w_istoreN 33 [.val (.ref a1), .val (.int i), .val (.int m), .val (.int (0 : Int32))] C d8_32 rfl rfl ?_
      exact J_33 (0 : Int32) 0 (by decide) (by omega) (fun e he => absurd he (by omega)) (fun q => absurd q (by omega))
    · refine w_aloadN 9 C d8_8 rfl rfl rfl ?_
      refine w_getF (host := "") 12 C F_z_a1 d8_9 rfl (Or.inl (hw _ (List.mem_of_getElem? (i := 52) rfl))) (Via.of (hw _ (List.mem_of_getElem? (i := 53) rfl))) ?_
      refine w_iloadN 13 C d8_12 rfl rfl ?_
      refine w_aloadN 14 C d8_13 rfl rfl rfl ?_
      refine w_getF (host := "") 17 C F_left_a1 d8_14 rfl (Or.inl (hw _ (List.mem_of_getElem? (i := 49) rfl))) (Via.of (hw _ (List.mem_of_getElem? (i := 50) rfl))) ?_
      refine w_isub 18 C d8_17 rfl ?_
      obtain ⟨q, hq1, hq2⟩ := hzs (ni - nl) (by omega)
      refine w_iaload 19 (ni - nl) q C A_za d8_18 rfl (by rw [own_isub, hi, hle]; omega) hq1 ?_
      refine w_aloadN 20 C d8_19 rfl rfl rfl ?_
      refine w_getF (host := "") 23 C F_right_a1 d8_20 rfl (Or.inl (hw _ (List.mem_of_getElem? (i := 46) rfl))) (Via.of (hw _ (List.mem_of_getElem? (i := 47) rfl))) ?_
      refine w_iloadN 24 C d8_23 rfl rfl ?_
      refine w_isub 25 C d8_24 rfl ?_
      have har : (ri - i).toInt = ((nr - ni : Nat) : Int) := by rw [own_isub, hri, hi]; omega
      refine w_callS (y := (⟨"java/lang/Math", "min", "(II)I"⟩ : MethodName)) 28 0 [.int q, .int (ri - i)] C d8_25 rfl (hw _ (List.mem_of_getElem? (i := 29) rfl)) (hw _ (List.mem_of_getElem? (i := 30) rfl)) (hw _ (List.mem_of_getElem? (i := 31) rfl)) (hw _ (List.mem_of_getElem? (i := 32) rfl)) (by decide) (rm_min K.l Z a0 hw [] q (ri - i) h0 n0 hz) pd_II_to_I rfl (rest := []) rfl rfl (Nat.le_of_eq rfl) (by decide) (by decide) (by decide) (by decide) ?_
      rintro v2 h1 ⟨⟨k, rfl, hk⟩, rfl⟩
      show Go K h0 0 0 28 [.val (.ref a1), .val (.int i), .val (.int m), .unset] [.int k]
      refine w_goto 32 C d8_28 rfl ?_
      refine w_istoreN 33 [.val (.ref a1), .val (.int i), .val (.int m), .val (.int k)] C d8_32 rfl rfl ?_
      obtain ⟨W1, W2, W3⟩ := own_in_win IV hn hli (by omega) hmx rfl
      rw [hq2, har] at hk
      refine J_33 k (min (own_zl (n - (ni - nl)) ps (ps.drop (ni - nl))) (nr - ni)) (by rw [hk]; omega) W2 W1 (fun q => ?_)
      rw [W3 (by omega)]; omega
  intro k nk hk hkm hkq hkr
  refine w_iloadN 34 C d8_33 rfl rfl ?_
  refine w_iloadN 35 C d8_34 rfl rfl ?_
  refine w_iadd 36 C d8_35 rfl ?_
  refine w_aloadN 37 C d8_36 rfl rfl rfl ?_
  refine w_getF (host := "") 40 C F_right_a1 d8_37 rfl (Or.inl (hw _ (List.mem_of_getElem? (i := 46) rfl))) (Via.of (hw _ (List.mem_of_getElem? (i := 47) rfl))) ?_
  have hik : (i + k).toInt = ((ni + nk : Nat) : Int) := by rw [own_iadd, hi, hk]; omega
  refine w_icmp 45 43 C d8_40 rfl rfl (fun (hc40 : ri.toInt ≤ (i + k).toInt) => ?_) (fun (hc40 : ¬ (ri.toInt ≤ (i + k).toInt)) => ?_)
  · refine lp hw C F_pattern_a1 F_text_a1 A_pa A_ta ni nm hi hm (by omega) (by omega) hts ?_ _ nk k rfl hk hkm hkq
    intro k2 hk2
    show Go K h0 0 0 73 [.val (.ref a1), .val (.int i), .val (.int m), .val (.int k2)] []
    refine w_iloadN 74 C d8_73 rfl rfl ?_
    refine w_iloadN 75 C d8_74 rfl rfl ?_
    refine w_iadd 76 C d8_75 rfl ?_
    refine w_aloadN 77 C d8_76 rfl rfl rfl ?_
    refine w_getF (host := "") 80 C F_right_a1 d8_77 rfl (Or.inl (hw _ (List.mem_of_getElem? (i := 46) rfl))) (Via.of (hw _ (List.mem_of_getElem? (i := 47) rfl))) ?_
    have hik2 : (i + k2).toInt = ((ni + own_zl nm ps (ts.drop ni) : Nat) : Int) := by rw [own_iadd, hi, hk2]; omega
    refine w_icmp 95 83 C d8_80 rfl rfl (fun (hc80 : (i + k2).toInt ≤ ri.toInt) => ?_) (fun (hc80 : ¬ ((i + k2).toInt ≤ ri.toInt)) => ?_)
    · refine w_iloadN 96 C d8_95 rfl rfl ?_
      refine w_retI C d8_96 (by decide) (by decide) ?_
      exact ⟨⟨_, rfl, hk2⟩, KK, E_a1, le, ri, nl, nr, hle, hri, IV, hli, F_z_a1, F_pattern_a1, F_text_a1, F_left_a1, F_right_a1, F_head_a1, F_headBits_a1⟩
    · refine w_aloadN 84 C d8_83 rfl rfl rfl ?_
      refine w_iloadN 85 C d8_84 rfl rfl ?_
      refine w_putF (host := "") (ty := .int) 88 C F_left_a1 E_a1 g_a1 d8_85 rfl (Or.inl (hw _ (List.mem_of_getElem? (i := 49) rfl))) (Via.of (hw _ (List.mem_of_getElem? (i := 50) rfl))) (Or.inl (hw _ (List.mem_of_getElem? (i := 51) rfl))) (hw _ (List.mem_of_getElem? (i := 10) rfl)) (by decide) rfl rfl ?_
      intro h3 K_h3 W_h3 Fn_ En_
      replace F_z_a1 := F_z_a1.other W_h3 (Or.inr (slot_ne (Or.inr (hw _ (List.mem_of_getElem? (i := 24) rfl))) (Or.inl (hw _ (List.mem_of_getElem? (i := 51) rfl))) (by decide) (t := (.array .int)) (t' := .int) (by decide) (by decide)))
      replace F_pattern_a1 := F_pattern_a1.other W_h3 (Or.inr (slot_ne (Or.inr (hw _ (List.mem_of_getElem? (i := 26) rfl))) (Or.inl (hw _ (List.mem_of_getElem? (i := 51) rfl))) (by decide) (t := (.array .byte)) (t' := .int) (by decide) (by decide)))
      replace F_text_a1 := F_text_a1.other W_h3 (Or.inr (slot_ne (Or.inr (hw _ (List.mem_of_getElem? (i := 28) rfl))) (Or.inl (hw _ (List.mem_of_getElem? (i := 51) rfl))) (by decide) (t := (.array .byte)) (t' := .int) (by decide) (by decide)))
      replace F_right_a1 := F_right_a1.other W_h3 (Or.inr (slot_ne (Or.inl (hw _ (List.mem_of_getElem? (i := 48) rfl))) (Or.inl (hw _ (List.mem_of_getElem? (i := 51) rfl))) (by decide) (t := .int) (t' := .int) (by decide) (by decide)))
      replace F_head_a1 := F_head_a1.other W_h3 (Or.inr (slot_ne (Or.inr (hw _ (List.mem_of_getElem? (i := 34) rfl))) (Or.inl (hw _ (List.mem_of_getElem? (i := 51) rfl))) (by decide) (t := .int) (t' := .int) (by decide) (by decide)))
      replace F_headBits_a1 := F_headBits_a1.other W_h3 (Or.inr (slot_ne (Or.inr (hw _ (List.mem_of_getElem? (i := 36) rfl))) (Or.inl (hw _ (List.mem_of_getElem? (i := 51) rfl))) (by decide) (t := .int) (t' := .int) (by decide) (by decide)))
      replace F_left_a1 := Fn_
      replace E_a1 := En_
      replace A_za := A_za.keep K_h3 (ninS ne1 nin0)
      replace A_pa := A_pa.keep K_h3 (ninS ne2 nin0)
      replace A_ta := A_ta.keep K_h3 (ninS ne3 nin0)
      replace hz := Nat.le_trans hz K_h3.1
      replace KK := KK.trans K_h3 (allS (Or.inl (by simp)) all0)
      refine w_aloadN 89 C d8_88 rfl rfl rfl ?_
      refine w_iloadN 90 C d8_89 rfl rfl ?_
      refine w_iloadN 91 C d8_90 rfl rfl ?_
      refine w_iadd 92 C d8_91 rfl ?_
      refine w_putF (host := "") (ty := .int) 95 C F_right_a1 E_a1 g_a1 d8_92 rfl (Or.inl (hw _ (List.mem_of_getElem? (i := 46) rfl))) (Via.of (hw _ (List.mem_of_getElem? (i := 47) rfl))) (Or.inl (hw _ (List.mem_of_getElem? (i := 48) rfl))) (hw _ (List.mem_of_getElem? (i := 10) rfl)) (by decide) rfl rfl ?_
      intro h4 K_h4 W_h4 Fn_ En_
      replace F_z_a1 := F_z_a1.other W_h4 (Or.inr (slot_ne (Or.inr (hw _ (List.mem_of_getElem? (i := 24) rfl))) (Or.inl (hw _ (List.mem_of_getElem? (i := 48) rfl))) (by decide) (t := (.array .int)) (t' := .int) (by decide) (by decide)))
      replace F_pattern_a1 := F_pattern_a1.other W_h4 (Or.inr (slot_ne (Or.inr (hw _ (List.mem_of_getElem? (i := 26) rfl))) (Or.inl (hw _ (List.mem_of_getElem? (i := 48) rfl))) (by decide) (t := (.array .byte)) (t' := .int) (by decide) (by decide)))
      replace F_text_a1 := F_text_a1.other W_h4 (Or.inr (slot_ne (Or.inr (hw _ (List.mem_of_getElem? (i := 28) rfl))) (Or.inl (hw _ (List.mem_of_getElem? (i := 48) rfl))) (by decide) (t := (.array .byte)) (t' := .int) (by decide) (by decide)))
      replace F_left_a1 := F_left_a1.other W_h4 (Or.inr (slot_ne (Or.inl (hw _ (List.mem_of_getElem? (i := 51) rfl))) (Or.inl (hw _ (List.mem_of_getElem? (i := 48) rfl))) (by decide) (t := .int) (t' := .int) (by decide) (by decide)))
      replace F_head_a1 := F_head_a1.other W_h4 (Or.inr (slot_ne (Or.inr (hw _ (List.mem_of_getElem? (i := 34) rfl))) (Or.inl (hw _ (List.mem_of_getElem? (i := 48) rfl))) (by decide) (t := .int) (t' := .int) (by decide) (by decide)))
      replace F_headBits_a1 := F_headBits_a1.other W_h4 (Or.inr (slot_ne (Or.inr (hw _ (List.mem_of_getElem? (i := 36) rfl))) (Or.inl (hw _ (List.mem_of_getElem? (i := 48) rfl))) (by decide) (t := .int) (t' := .int) (by decide) (by decide)))
      replace F_right_a1 := Fn_
      replace E_a1 := En_
      replace A_za := A_za.keep K_h4 (ninS ne1 nin0)
      replace A_pa := A_pa.keep K_h4 (ninS ne2 nin0)
      replace A_ta := A_ta.keep K_h4 (ninS ne3 nin0)
      replace hz := Nat.le_trans hz K_h4.1
      replace KK := KK.trans K_h4 (allS (Or.inl (by simp)) all0)
      refine w_iloadN 96 C d8_95 rfl rfl ?_
      refine w_retI C d8_96 (by decide) (by decide) ?_
      exact ⟨⟨_, rfl, hk2⟩, KK, E_a1, i, _, ni, _, hi, hik2, ⟨by omega, by omega, by omega, fun e he => by rw [own_zl_eq nm ps (ts.drop ni) (by omega) (by simp; omega) e (by omega), List.getElem?_drop]⟩, Nat.le_refl _, F_z_a1, F_pattern_a1, F_text_a1, F_left_a1, F_right_a1, F_head_a1, F_headBits_a1⟩
  · refine w_iloadN 44 C d8_43 rfl rfl ?_
    refine w_retI C d8_44 (by decide) (by decide) ?_
    exact ⟨⟨_, rfl, by rw [hkr (by omega)]; exact hk⟩, KK, E_a1, le, ri, nl, nr, hle, hri, IV, hli, F_z_a1, F_pattern_a1, F_text_a1, F_left_a1, F_right_a1, F_head_a1, F_headBits_a1⟩
set_option maxRecDepth 65536 in
set_option maxHeartbeats 40000000 in
theorem rm_step (l : Launch) (Z : State) (a0 : Array Value) (hw : ∀ d ∈ tables_1, d.before a0 Z = true) (ws : List Jvm.Cond) (a1 za pa ta : Addr) (le ri i sk : Int32) (u5 u6 : Value) (ps ts zs : List Int32) (h0 : Heap) (n0 : Nat) (hz : n0 ≤ h0.size) (E_a1 : Exa Z h0 a1 "com/example/zspan/zspan/PrefixWalk$SearchedBytes") (g_a1 : n0 ≤ a1) (F_z_a1 : Fld Z h0 a1 "com/example/zspan/zspan/PrefixWalk" "z" "[I" (.ref za)) (F_pattern_a1 : Fld Z h0 a1 "com/example/zspan/zspan/PrefixWalk$SearchedBytes" "pattern" "[B" (.ref pa)) (F_text_a1 : Fld Z h0 a1 "com/example/zspan/zspan/PrefixWalk$SearchedBytes" "text" "[B" (.ref ta)) (F_left_a1 : Fld Z h0 a1 "com/example/zspan/zspan/PrefixWalk" "left" "I" (.int le)) (F_right_a1 : Fld Z h0 a1 "com/example/zspan/zspan/PrefixWalk" "right" "I" (.int ri)) (F_head_a1 : Fld Z h0 a1 "com/example/zspan/zspan/PrefixWalk$SearchedBytes" "head" "I" u5) (F_headBits_a1 : Fld Z h0 a1 "com/example/zspan/zspan/PrefixWalk$SearchedBytes" "headBits" "I" u6) (A_za : Ai Z h0 za .int zs) (A_pa : Ai Z h0 pa .byte ps) (A_ta : Ai Z h0 ta .byte ts) (ne1 : za ≠ a1) (ne2 : pa ≠ a1) (ne3 : ta ≠ a1) (n : Nat) (nl nr ni : Nat) (hle : le.toInt = (nl : Int)) (hri : ri.toInt = (nr : Int)) (hi : i.toInt = (ni : Int)) (IV : own_inv n ps ts nl nr) (hn : n ≤ ps.length) (hps : ps.length = 3) (hli : nl ≤ ni) (hit : ni < ts.length) (hts : ts.length = 6) (hzs : ∀ j, j < n → ∃ q : Int32, zs[j]? = some q ∧ q.toInt = ((own_zl (n - j) ps (ps.drop j) : Nat) : Int)) (hnn : (3 : Int32).toInt = (n : Int)) :
    OwnMet l (⟨"com/example/zspan/zspan/SearchedBytesAtPinLaw", "step", "(Lcom/example/zspan/zspan/PrefixWalk$SearchedBytes;[B[BII)Z"⟩ : MethodName) method_4_code 6 (some .boolean) ws ({ frames := 2, cells := 0, slots := 0, locals := 34 } : Room) Z h0 n0 #[.ref a1, .ref pa, .ref ta, .int i, .int sk] (fun v h => v = some (.int 1) ∧ Keep h0 h [a1] ∧ Exa Z h a1 "com/example/zspan/zspan/PrefixWalk$SearchedBytes" ∧ (∃ (le2 ri2 : Int32) (nl2 nr2 : Nat), le2.toInt = (nl2 : Int) ∧ ri2.toInt = (nr2 : Int) ∧ own_inv n ps ts nl2 nr2 ∧ nl2 ≤ ni ∧ Fld Z h a1 "com/example/zspan/zspan/PrefixWalk" "z" "[I" (.ref za) ∧ Fld Z h a1 "com/example/zspan/zspan/PrefixWalk$SearchedBytes" "pattern" "[B" (.ref pa) ∧ Fld Z h a1 "com/example/zspan/zspan/PrefixWalk$SearchedBytes" "text" "[B" (.ref ta) ∧ Fld Z h a1 "com/example/zspan/zspan/PrefixWalk" "left" "I" (.int le2) ∧ Fld Z h a1 "com/example/zspan/zspan/PrefixWalk" "right" "I" (.int ri2) ∧ Fld Z h a1 "com/example/zspan/zspan/PrefixWalk$SearchedBytes" "head" "I" u5 ∧ Fld Z h a1 "com/example/zspan/zspan/PrefixWalk$SearchedBytes" "headBits" "I" u6)) := by
  refine OwnMet.of (own := "com/example/zspan/zspan/SearchedBytesAtPinLaw") (name := "step") (desc := "(Lcom/example/zspan/zspan/PrefixWalk$SearchedBytes;[B[BII)Z") (Ls := [.val (.ref a1), .val (.ref pa), .val (.ref ta), .val (.int i), .val (.int sk), .unset]) (plainFor_of_name pn_com_example_zspan_zspan_SearchedBytesAtPinLaw) (fun m => by first | (simp [entryFrame, mkF, argsToLocals, Value.category]; done) | rfl) ?_
  intro K hK C
  refine w_iload 2 C d7_0 rfl rfl ?_
  refine w_iloadN 3 C d7_2 rfl rfl ?_
  refine w_ishr 4 C d7_3 rfl ?_
  refine w_iconst 5 (1 : Int32) C d7_4 rfl rfl ?_
  refine w_iand 6 C d7_5 rfl ?_
  refine w_if 11 9 C d7_6 rfl rfl (fun (hc6 : ((sk >>> (i &&& 31)) &&& (1 : Int32)) = (0 : Int32)) => ?_) (fun (hc6 : ¬ (((sk >>> (i &&& 31)) &&& (1 : Int32)) = (0 : Int32))) => ?_)
  · refine w_iconst 12 (3 : Int32) C d7_11 rfl rfl ?_
    refine w_bipush 14 (6 : Int32) C d7_12 rfl rfl ?_
    refine w_iloadN 15 C d7_14 rfl rfl ?_
    refine w_isub 16 C d7_15 rfl ?_
    have hy : ((6 : Int32) - i).toInt = ((ts.length - ni : Nat) : Int) := by rw [own_isub, hi, show (6 : Int32).toInt = 6 from by decide]; omega
    refine w_callS (y := (⟨"java/lang/Math", "min", "(II)I"⟩ : MethodName)) 19 0 [.int (3 : Int32), .int ((6 : Int32) - i)] C d7_16 rfl (hw _ (List.mem_of_getElem? (i := 40) rfl)) (hw _ (List.mem_of_getElem? (i := 30) rfl)) (hw _ (List.mem_of_getElem? (i := 31) rfl)) (hw _ (List.mem_of_getElem? (i := 32) rfl)) (by decide) (rm_min K.l Z a0 hw [] (3 : Int32) ((6 : Int32) - i) h0 n0 hz) pd_II_to_I rfl (rest := []) rfl rfl (Nat.le_of_eq rfl) (by decide) (by decide) (by decide) (by decide) ?_
    rintro v2 h1 ⟨⟨m, rfl, hm0⟩, rfl⟩
    show Go K h0 0 0 19 [.val (.ref a1), .val (.ref pa), .val (.ref ta), .val (.int i), .val (.int sk), .unset] [.int m]
    have hm : m.toInt = ((min n (ts.length - ni) : Nat) : Int) := by rw [hm0, hnn, hy]; omega
    refine w_istore 21 [.val (.ref a1), .val (.ref pa), .val (.ref ta), .val (.int i), .val (.int sk), .val (.int m)] C d7_19 rfl rfl ?_
    refine w_aloadN 22 C d7_21 rfl rfl rfl ?_
    refine w_iloadN 23 C d7_22 rfl rfl ?_
    refine w_iload 25 C d7_23 rfl rfl ?_
    refine w_callV (y := (⟨"com/example/zspan/zspan/PrefixWalk$SearchedBytes", "at", "(II)I"⟩ : MethodName)) (a := a1) 28 0 [.int i, .int m] C E_a1 d7_25 rfl (hw _ (List.mem_of_getElem? (i := 41) rfl)) (hw _ (List.mem_of_getElem? (i := 42) rfl)) (hw _ (List.mem_of_getElem? (i := 44) rfl)) (hw _ (List.mem_of_getElem? (i := 43) rfl)) (hw _ (List.mem_of_getElem? (i := 11) rfl)) (hw _ (List.mem_of_getElem? (i := 45) rfl)) (by decide) (rm_at K.l Z a0 hw [] a1 za pa ta le ri i m u5 u6 ps ts zs h0 n0 hz E_a1 g_a1 F_z_a1 F_pattern_a1 F_text_a1 F_left_a1 F_right_a1 F_head_a1 F_headBits_a1 A_za A_pa A_ta ne1 ne2 ne3 n nl nr ni _ hle hri hi hm IV hn hli (by omega) rfl (by omega) hzs) pd_II_to_I rfl (rest := []) rfl rfl (Nat.le_of_eq rfl) (by decide) (by decide) (by decide) (by decide) ?_
    rintro v3 hD ⟨⟨k, rfl, hk⟩, K1, E_a1, le2, ri2, nl2, nr2, hle2, hri2, IV2, hli2, F_z_a1, F_pattern_a1, F_text_a1, F_left_a1, F_right_a1, F_head_a1, F_headBits_a1⟩
    show Go K hD 0 0 28 [.val (.ref a1), .val (.ref pa), .val (.ref ta), .val (.int i), .val (.int sk), .val (.int m)] [.int k]
    replace hz := Nat.le_trans hz K1.1
    replace A_pa := A_pa.keep K1 (ninS ne2 nin0)
    replace A_ta := A_ta.keep K1 (ninS ne3 nin0)
    refine w_aloadN 29 C d7_28 rfl rfl rfl ?_
    refine w_aloadN 30 C d7_29 rfl rfl rfl ?_
    refine w_iloadN 31 C d7_30 rfl rfl ?_
    refine w_iload 33 C d7_31 rfl rfl ?_
    refine w_callS (y := (⟨"com/example/zspan/zspan/SearchedBytesAtPinLaw", "lcp", "([B[BII)I"⟩ : MethodName)) 36 1 [.ref pa, .ref ta, .int i, .int m] C d7_33 rfl (hw _ (List.mem_of_getElem? (i := 6) rfl)) (hw _ (List.mem_of_getElem? (i := 7) rfl)) (hw _ (List.mem_of_getElem? (i := 3) rfl)) (hw _ (List.mem_of_getElem? (i := 8) rfl)) (by decide) (rm_lcp K.l Z a0 hw [] pa ta i m ps ts ni (min n (ts.length - ni)) hD n0 hz A_pa A_ta hi (by rw [hm]; exact Int.toNat_natCast _) (by omega) (by omega) (by omega) (by omega)) pd_aBaBII_to_I rfl (rest := [.int k]) rfl rfl (Nat.le_of_eq rfl) (by decide) (by decide) (by decide) (by decide) ?_
    rintro v5 h4 ⟨⟨k2, rfl, hk2⟩, rfl⟩
    show Go K hD 0 0 36 [.val (.ref a1), .val (.ref pa), .val (.ref ta), .val (.int i), .val (.int sk), .val (.int m)] [.int k2, .int k]
    refine w_icmpN 39 C d7_36 rfl (show ¬ (¬ (k = k2)) from (fun q => q (own_eq (hk.trans hk2.symm)))) ?_
    refine w_iconst 40 (1 : Int32) C d7_39 rfl rfl ?_
    refine w_goto 44 C d7_40 rfl ?_
    refine w_retN C (by simp) d7_44 rfl (by decide) (by decide) ?_
    exact ⟨rfl, K1, E_a1, le2, ri2, nl2, nr2, hle2, hri2, IV2, hli2, F_z_a1, F_pattern_a1, F_text_a1, F_left_a1, F_right_a1, F_head_a1, F_headBits_a1⟩
  · refine w_iconst 10 (1 : Int32) C d7_9 rfl rfl ?_
    refine w_retN C (by simp) d7_10 rfl (by decide) (by decide) ?_
    exact ⟨rfl, Keep.refl _ _, E_a1, le, ri, nl, nr, hle, hri, IV, hli, F_z_a1, F_pattern_a1, F_text_a1, F_left_a1, F_right_a1, F_head_a1, F_headBits_a1⟩
set_option maxRecDepth 65536 in
set_option maxHeartbeats 40000000 in
theorem rm0 (l : Launch) (Z : State) (a0 : Array Value) (hw : ∀ d ∈ tables_1, d.before a0 Z = true) (ws : List Jvm.Cond) (p0 p1 p2 p3 : Int32) (h0 : Heap) (n0 : Nat) (hz : n0 ≤ h0.size) :
    OwnMet l x code maxLocals ret ws room_1 Z h0 n0 #[.int p0, .int p1, .int p2, .int p3] (fun v h => v = some (.int 1)) := by
  refine OwnMet.of (own := "com/example/zspan/zspan/SearchedBytesAtPinLaw") (name := "law") (desc := "(IIII)Z") (Ls := [.val (.int p0), .val (.int p1), .val (.int p2), .val (.int p3), .unset, .unset, .unset, .unset, .unset, .unset, .unset]) (plainFor_of_name pn_com_example_zspan_zspan_SearchedBytesAtPinLaw) (fun m => by first | (simp [entryFrame, mkF, argsToLocals, Value.category, maxLocals]; done) | rfl) ?_
  intro K hK C
  refine w_iloadN 1 C at_0 rfl rfl ?_
  refine w_i2b 2 C at_1 rfl ?_
  refine w_istore 4 [.val (.int p0), .val (.int p1), .val (.int p2), .val (.int p3), .val (.int (p0.toInt8.toInt32)), .unset, .unset, .unset, .unset, .unset, .unset] C at_2 rfl rfl ?_
  generalize hv_x1 : (p0.toInt8.toInt32) = x1
  refine w_iloadN 5 C at_4 rfl rfl ?_
  refine w_i2b 6 C at_5 rfl ?_
  refine w_istore 8 [.val (.int p0), .val (.int p1), .val (.int p2), .val (.int p3), .val (.int x1), .val (.int (p1.toInt8.toInt32)), .unset, .unset, .unset, .unset, .unset] C at_6 rfl rfl ?_
  generalize hv_x2 : (p1.toInt8.toInt32) = x2
  refine w_iconst 9 (3 : Int32) C at_8 rfl rfl ?_
  refine w_newarr 11 3 3 C hz at_9 rfl (hw _ (List.mem_of_getElem? (i := 0) rfl)) rfl (by decide) (by decide) (by decide) (by decide) (by decide) ?_
  intro h3 b4 X_b4 g_b4 sz0_b4 A_b4 hz_
  replace hz := hz_
  replace A_b4 : Ai Z h3 b4 .byte [(0 : Int32), (0 : Int32), (0 : Int32)] := A_b4
  show Go K h3 1 3 11 [.val (.int p0), .val (.int p1), .val (.int p2), .val (.int p3), .val (.int x1), .val (.int x2), .unset, .unset, .unset, .unset, .unset] [.ref b4]
  refine w_astore 13 [.val (.int p0), .val (.int p1), .val (.int p2), .val (.int p3), .val (.int x1), .val (.int x2), .val (.ref b4), .unset, .unset, .unset, .unset] C at_11 rfl rfl rfl ?_
  refine w_bipush 15 (6 : Int32) C at_13 rfl rfl ?_
  refine w_newarr 17 6 6 C hz at_15 rfl (hw _ (List.mem_of_getElem? (i := 0) rfl)) rfl (by decide) (by decide) (by decide) (by decide) (by decide) ?_
  intro h5 b6 X_b6 g_b6 sz0_b6 A_b6 hz_
  replace hz := hz_
  replace A_b6 : Ai Z h5 b6 .byte [(0 : Int32), (0 : Int32), (0 : Int32), (0 : Int32), (0 : Int32), (0 : Int32)] := A_b6
  have ne_b4_b6 : b4 ≠ b6 := Nat.ne_of_lt (Nat.lt_of_lt_of_le A_b4.lt sz0_b6)
  replace A_b4 := A_b4.ext X_b6
  show Go K h5 2 9 17 [.val (.int p0), .val (.int p1), .val (.int p2), .val (.int p3), .val (.int x1), .val (.int x2), .val (.ref b4), .unset, .unset, .unset, .unset] [.ref b6]
  refine w_astore 19 [.val (.int p0), .val (.int p1), .val (.int p2), .val (.int p3), .val (.int x1), .val (.int x2), .val (.ref b4), .val (.ref b6), .unset, .unset, .unset] C at_17 rfl rfl rfl ?_
  refine w_aload 21 C at_19 rfl rfl rfl ?_
  refine w_iconst 22 (0 : Int32) C at_21 rfl rfl ?_
  refine w_iloadN 23 C at_22 rfl rfl ?_
  refine w_iconst 24 (0 : Int32) C at_23 rfl rfl ?_
  refine w_iload 26 C at_24 rfl rfl ?_
  refine w_iload 28 C at_26 rfl rfl ?_
  refine w_callS (y := (⟨"com/example/zspan/zspan/SearchedBytesAtPinLaw", "sym", "(IIBB)B"⟩ : MethodName)) 31 2 [.int p2, .int (0 : Int32), .int x1, .int x2] C at_28 rfl (hw _ (List.mem_of_getElem? (i := 1) rfl)) (hw _ (List.mem_of_getElem? (i := 2) rfl)) (hw _ (List.mem_of_getElem? (i := 3) rfl)) (hw _ (List.mem_of_getElem? (i := 4) rfl)) (by decide) (rm_sym K.l Z a0 hw [] p2 (0 : Int32) x1 x2 h5 n0 hz) pd_IIBB_to_B rfl (rest := [.int (0 : Int32), .ref b4]) rfl rfl (Nat.le_of_eq rfl) (by decide) (by decide) (by decide) (by decide) ?_
  rintro v9 h8 ⟨⟨s7, rfl⟩, rfl⟩
  show Go K h5 2 9 31 [.val (.int p0), .val (.int p1), .val (.int p2), .val (.int p3), .val (.int x1), .val (.int x2), .val (.ref b4), .val (.ref b6), .unset, .unset, .unset] [.int s7, .int (0 : Int32), .ref b4]
  obtain ⟨y11, hv_y11⟩ : ∃ z : Int32, s7.toInt8.toInt32 = z := ⟨_, rfl⟩
  refine w_bastore 32 0 y11 C A_b4 g_b4 at_31 rfl (by decide) (Nat.le_of_ble_eq_true rfl) hv_y11 ?_
  intro h10 K_h10 A_b4'
  replace A_b4 : Ai Z h10 b4 .byte [y11, (0 : Int32), (0 : Int32)] := A_b4'
  replace A_b6 := A_b6.keep K_h10 (ninS (Ne.symm ne_b4_b6) nin0)
  replace hz := Nat.le_trans hz K_h10.1
  refine w_aload 34 C at_32 rfl rfl rfl ?_
  refine w_iconst 35 (1 : Int32) C at_34 rfl rfl ?_
  refine w_iloadN 36 C at_35 rfl rfl ?_
  refine w_iconst 37 (1 : Int32) C at_36 rfl rfl ?_
  refine w_iload 39 C at_37 rfl rfl ?_
  refine w_iload 41 C at_39 rfl rfl ?_
  refine w_callS (y := (⟨"com/example/zspan/zspan/SearchedBytesAtPinLaw", "sym", "(IIBB)B"⟩ : MethodName)) 44 2 [.int p2, .int (1 : Int32), .int x1, .int x2] C at_41 rfl (hw _ (List.mem_of_getElem? (i := 1) rfl)) (hw _ (List.mem_of_getElem? (i := 2) rfl)) (hw _ (List.mem_of_getElem? (i := 3) rfl)) (hw _ (List.mem_of_getElem? (i := 4) rfl)) (by decide) (rm_sym K.l Z a0 hw [] p2 (1 : Int32) x1 x2 h10 n0 hz) pd_IIBB_to_B rfl (rest := [.int (1 : Int32), .ref b4]) rfl rfl (Nat.le_of_eq rfl) (by decide) (by decide) (by decide) (by decide) ?_
  rintro v14 h13 ⟨⟨s12, rfl⟩, rfl⟩
  show Go K h10 2 9 44 [.val (.int p0), .val (.int p1), .val (.int p2), .val (.int p3), .val (.int x1), .val (.int x2), .val (.ref b4), .val (.ref b6), .unset, .unset, .unset] [.int s12, .int (1 : Int32), .ref b4]
  obtain ⟨y16, hv_y16⟩ : ∃ z : Int32, s12.toInt8.toInt32 = z := ⟨_, rfl⟩
  refine w_bastore 45 1 y16 C A_b4 g_b4 at_44 rfl (by decide) (Nat.le_of_ble_eq_true rfl) hv_y16 ?_
  intro h15 K_h15 A_b4'
  replace A_b4 : Ai Z h15 b4 .byte [y11, y16, (0 : Int32)] := A_b4'
  replace A_b6 := A_b6.keep K_h15 (ninS (Ne.symm ne_b4_b6) nin0)
  replace hz := Nat.le_trans hz K_h15.1
  refine w_aload 47 C at_45 rfl rfl rfl ?_
  refine w_iconst 48 (2 : Int32) C at_47 rfl rfl ?_
  refine w_iloadN 49 C at_48 rfl rfl ?_
  refine w_iconst 50 (2 : Int32) C at_49 rfl rfl ?_
  refine w_iload 52 C at_50 rfl rfl ?_
  refine w_iload 54 C at_52 rfl rfl ?_
  refine w_callS (y := (⟨"com/example/zspan/zspan/SearchedBytesAtPinLaw", "sym", "(IIBB)B"⟩ : MethodName)) 57 2 [.int p2, .int (2 : Int32), .int x1, .int x2] C at_54 rfl (hw _ (List.mem_of_getElem? (i := 1) rfl)) (hw _ (List.mem_of_getElem? (i := 2) rfl)) (hw _ (List.mem_of_getElem? (i := 3) rfl)) (hw _ (List.mem_of_getElem? (i := 4) rfl)) (by decide) (rm_sym K.l Z a0 hw [] p2 (2 : Int32) x1 x2 h15 n0 hz) pd_IIBB_to_B rfl (rest := [.int (2 : Int32), .ref b4]) rfl rfl (Nat.le_of_eq rfl) (by decide) (by decide) (by decide) (by decide) ?_
  rintro v19 h18 ⟨⟨s17, rfl⟩, rfl⟩
  show Go K h15 2 9 57 [.val (.int p0), .val (.int p1), .val (.int p2), .val (.int p3), .val (.int x1), .val (.int x2), .val (.ref b4), .val (.ref b6), .unset, .unset, .unset] [.int s17, .int (2 : Int32), .ref b4]
  obtain ⟨y21, hv_y21⟩ : ∃ z : Int32, s17.toInt8.toInt32 = z := ⟨_, rfl⟩
  refine w_bastore 58 2 y21 C A_b4 g_b4 at_57 rfl (by decide) (Nat.le_of_ble_eq_true rfl) hv_y21 ?_
  intro h20 K_h20 A_b4'
  replace A_b4 : Ai Z h20 b4 .byte [y11, y16, y21] := A_b4'
  replace A_b6 := A_b6.keep K_h20 (ninS (Ne.symm ne_b4_b6) nin0)
  replace hz := Nat.le_trans hz K_h20.1
  refine w_aload 60 C at_58 rfl rfl rfl ?_
  refine w_iconst 61 (0 : Int32) C at_60 rfl rfl ?_
  refine w_iloadN 62 C at_61 rfl rfl ?_
  refine w_iconst 63 (3 : Int32) C at_62 rfl rfl ?_
  refine w_iload 65 C at_63 rfl rfl ?_
  refine w_iload 67 C at_65 rfl rfl ?_
  refine w_callS (y := (⟨"com/example/zspan/zspan/SearchedBytesAtPinLaw", "sym", "(IIBB)B"⟩ : MethodName)) 70 2 [.int p2, .int (3 : Int32), .int x1, .int x2] C at_67 rfl (hw _ (List.mem_of_getElem? (i := 1) rfl)) (hw _ (List.mem_of_getElem? (i := 2) rfl)) (hw _ (List.mem_of_getElem? (i := 3) rfl)) (hw _ (List.mem_of_getElem? (i := 4) rfl)) (by decide) (rm_sym K.l Z a0 hw [] p2 (3 : Int32) x1 x2 h20 n0 hz) pd_IIBB_to_B rfl (rest := [.int (0 : Int32), .ref b6]) rfl rfl (Nat.le_of_eq rfl) (by decide) (by decide) (by decide) (by decide) ?_
  rintro v24 h23 ⟨⟨s22, rfl⟩, rfl⟩
  show Go K h20 2 9 70 [.val (.int p0), .val (.int p1), .val (.int p2), .val (.int p3), .val (.int x1), .val (.int x2), .val (.ref b4), .val (.ref b6), .unset, .unset, .unset] [.int s22, .int (0 : Int32), .ref b6]
  obtain ⟨y26, hv_y26⟩ : ∃ z : Int32, s22.toInt8.toInt32 = z := ⟨_, rfl⟩
  refine w_bastore 71 0 y26 C A_b6 g_b6 at_70 rfl (by decide) (Nat.le_of_ble_eq_true rfl) hv_y26 ?_
  intro h25 K_h25 A_b6'
  replace A_b6 : Ai Z h25 b6 .byte [y26, (0 : Int32), (0 : Int32), (0 : Int32), (0 : Int32), (0 : Int32)] := A_b6'
  replace A_b4 := A_b4.keep K_h25 (ninS ne_b4_b6 nin0)
  replace hz := Nat.le_trans hz K_h25.1
  refine w_aload 73 C at_71 rfl rfl rfl ?_
  refine w_iconst 74 (1 : Int32) C at_73 rfl rfl ?_
  refine w_iloadN 75 C at_74 rfl rfl ?_
  refine w_iconst 76 (4 : Int32) C at_75 rfl rfl ?_
  refine w_iload 78 C at_76 rfl rfl ?_
  refine w_iload 80 C at_78 rfl rfl ?_
  refine w_callS (y := (⟨"com/example/zspan/zspan/SearchedBytesAtPinLaw", "sym", "(IIBB)B"⟩ : MethodName)) 83 2 [.int p2, .int (4 : Int32), .int x1, .int x2] C at_80 rfl (hw _ (List.mem_of_getElem? (i := 1) rfl)) (hw _ (List.mem_of_getElem? (i := 2) rfl)) (hw _ (List.mem_of_getElem? (i := 3) rfl)) (hw _ (List.mem_of_getElem? (i := 4) rfl)) (by decide) (rm_sym K.l Z a0 hw [] p2 (4 : Int32) x1 x2 h25 n0 hz) pd_IIBB_to_B rfl (rest := [.int (1 : Int32), .ref b6]) rfl rfl (Nat.le_of_eq rfl) (by decide) (by decide) (by decide) (by decide) ?_
  rintro v29 h28 ⟨⟨s27, rfl⟩, rfl⟩
  show Go K h25 2 9 83 [.val (.int p0), .val (.int p1), .val (.int p2), .val (.int p3), .val (.int x1), .val (.int x2), .val (.ref b4), .val (.ref b6), .unset, .unset, .unset] [.int s27, .int (1 : Int32), .ref b6]
  obtain ⟨y31, hv_y31⟩ : ∃ z : Int32, s27.toInt8.toInt32 = z := ⟨_, rfl⟩
  refine w_bastore 84 1 y31 C A_b6 g_b6 at_83 rfl (by decide) (Nat.le_of_ble_eq_true rfl) hv_y31 ?_
  intro h30 K_h30 A_b6'
  replace A_b6 : Ai Z h30 b6 .byte [y26, y31, (0 : Int32), (0 : Int32), (0 : Int32), (0 : Int32)] := A_b6'
  replace A_b4 := A_b4.keep K_h30 (ninS ne_b4_b6 nin0)
  replace hz := Nat.le_trans hz K_h30.1
  refine w_aload 86 C at_84 rfl rfl rfl ?_
  refine w_iconst 87 (2 : Int32) C at_86 rfl rfl ?_
  refine w_iloadN 88 C at_87 rfl rfl ?_
  refine w_iconst 89 (5 : Int32) C at_88 rfl rfl ?_
  refine w_iload 91 C at_89 rfl rfl ?_
  refine w_iload 93 C at_91 rfl rfl ?_
  refine w_callS (y := (⟨"com/example/zspan/zspan/SearchedBytesAtPinLaw", "sym", "(IIBB)B"⟩ : MethodName)) 96 2 [.int p2, .int (5 : Int32), .int x1, .int x2] C at_93 rfl (hw _ (List.mem_of_getElem? (i := 1) rfl)) (hw _ (List.mem_of_getElem? (i := 2) rfl)) (hw _ (List.mem_of_getElem? (i := 3) rfl)) (hw _ (List.mem_of_getElem? (i := 4) rfl)) (by decide) (rm_sym K.l Z a0 hw [] p2 (5 : Int32) x1 x2 h30 n0 hz) pd_IIBB_to_B rfl (rest := [.int (2 : Int32), .ref b6]) rfl rfl (Nat.le_of_eq rfl) (by decide) (by decide) (by decide) (by decide) ?_
  rintro v34 h33 ⟨⟨s32, rfl⟩, rfl⟩
  show Go K h30 2 9 96 [.val (.int p0), .val (.int p1), .val (.int p2), .val (.int p3), .val (.int x1), .val (.int x2), .val (.ref b4), .val (.ref b6), .unset, .unset, .unset] [.int s32, .int (2 : Int32), .ref b6]
  obtain ⟨y36, hv_y36⟩ : ∃ z : Int32, s32.toInt8.toInt32 = z := ⟨_, rfl⟩
  refine w_bastore 97 2 y36 C A_b6 g_b6 at_96 rfl (by decide) (Nat.le_of_ble_eq_true rfl) hv_y36 ?_
  intro h35 K_h35 A_b6'
  replace A_b6 : Ai Z h35 b6 .byte [y26, y31, y36, (0 : Int32), (0 : Int32), (0 : Int32)] := A_b6'
  replace A_b4 := A_b4.keep K_h35 (ninS ne_b4_b6 nin0)
  replace hz := Nat.le_trans hz K_h35.1
  refine w_aload 99 C at_97 rfl rfl rfl ?_
  refine w_iconst 100 (3 : Int32) C at_99 rfl rfl ?_
  refine w_iloadN 101 C at_100 rfl rfl ?_
  refine w_bipush 103 (6 : Int32) C at_101 rfl rfl ?_
  refine w_iload 105 C at_103 rfl rfl ?_
  refine w_iload 107 C at_105 rfl rfl ?_
  refine w_callS (y := (⟨"com/example/zspan/zspan/SearchedBytesAtPinLaw", "sym", "(IIBB)B"⟩ : MethodName)) 110 2 [.int p2, .int (6 : Int32), .int x1, .int x2] C at_107 rfl (hw _ (List.mem_of_getElem? (i := 1) rfl)) (hw _ (List.mem_of_getElem? (i := 2) rfl)) (hw _ (List.mem_of_getElem? (i := 3) rfl)) (hw _ (List.mem_of_getElem? (i := 4) rfl)) (by decide) (rm_sym K.l Z a0 hw [] p2 (6 : Int32) x1 x2 h35 n0 hz) pd_IIBB_to_B rfl (rest := [.int (3 : Int32), .ref b6]) rfl rfl (Nat.le_of_eq rfl) (by decide) (by decide) (by decide) (by decide) ?_
  rintro v39 h38 ⟨⟨s37, rfl⟩, rfl⟩
  show Go K h35 2 9 110 [.val (.int p0), .val (.int p1), .val (.int p2), .val (.int p3), .val (.int x1), .val (.int x2), .val (.ref b4), .val (.ref b6), .unset, .unset, .unset] [.int s37, .int (3 : Int32), .ref b6]
  obtain ⟨y41, hv_y41⟩ : ∃ z : Int32, s37.toInt8.toInt32 = z := ⟨_, rfl⟩
  refine w_bastore 111 3 y41 C A_b6 g_b6 at_110 rfl (by decide) (Nat.le_of_ble_eq_true rfl) hv_y41 ?_
  intro h40 K_h40 A_b6'
  replace A_b6 : Ai Z h40 b6 .byte [y26, y31, y36, y41, (0 : Int32), (0 : Int32)] := A_b6'
  replace A_b4 := A_b4.keep K_h40 (ninS ne_b4_b6 nin0)
  replace hz := Nat.le_trans hz K_h40.1
  refine w_aload 113 C at_111 rfl rfl rfl ?_
  refine w_iconst 114 (4 : Int32) C at_113 rfl rfl ?_
  refine w_iloadN 115 C at_114 rfl rfl ?_
  refine w_bipush 117 (7 : Int32) C at_115 rfl rfl ?_
  refine w_iload 119 C at_117 rfl rfl ?_
  refine w_iload 121 C at_119 rfl rfl ?_
  refine w_callS (y := (⟨"com/example/zspan/zspan/SearchedBytesAtPinLaw", "sym", "(IIBB)B"⟩ : MethodName)) 124 2 [.int p2, .int (7 : Int32), .int x1, .int x2] C at_121 rfl (hw _ (List.mem_of_getElem? (i := 1) rfl)) (hw _ (List.mem_of_getElem? (i := 2) rfl)) (hw _ (List.mem_of_getElem? (i := 3) rfl)) (hw _ (List.mem_of_getElem? (i := 4) rfl)) (by decide) (rm_sym K.l Z a0 hw [] p2 (7 : Int32) x1 x2 h40 n0 hz) pd_IIBB_to_B rfl (rest := [.int (4 : Int32), .ref b6]) rfl rfl (Nat.le_of_eq rfl) (by decide) (by decide) (by decide) (by decide) ?_
  rintro v44 h43 ⟨⟨s42, rfl⟩, rfl⟩
  show Go K h40 2 9 124 [.val (.int p0), .val (.int p1), .val (.int p2), .val (.int p3), .val (.int x1), .val (.int x2), .val (.ref b4), .val (.ref b6), .unset, .unset, .unset] [.int s42, .int (4 : Int32), .ref b6]
  obtain ⟨y46, hv_y46⟩ : ∃ z : Int32, s42.toInt8.toInt32 = z := ⟨_, rfl⟩
  refine w_bastore 125 4 y46 C A_b6 g_b6 at_124 rfl (by decide) (Nat.le_of_ble_eq_true rfl) hv_y46 ?_
  intro h45 K_h45 A_b6'
  replace A_b6 : Ai Z h45 b6 .byte [y26, y31, y36, y41, y46, (0 : Int32)] := A_b6'
  replace A_b4 := A_b4.keep K_h45 (ninS ne_b4_b6 nin0)
  replace hz := Nat.le_trans hz K_h45.1
  refine w_aload 127 C at_125 rfl rfl rfl ?_
  refine w_iconst 128 (5 : Int32) C at_127 rfl rfl ?_
  refine w_iloadN 129 C at_128 rfl rfl ?_
  refine w_bipush 131 (8 : Int32) C at_129 rfl rfl ?_
  refine w_iload 133 C at_131 rfl rfl ?_
  refine w_iload 135 C at_133 rfl rfl ?_
  refine w_callS (y := (⟨"com/example/zspan/zspan/SearchedBytesAtPinLaw", "sym", "(IIBB)B"⟩ : MethodName)) 138 2 [.int p2, .int (8 : Int32), .int x1, .int x2] C at_135 rfl (hw _ (List.mem_of_getElem? (i := 1) rfl)) (hw _ (List.mem_of_getElem? (i := 2) rfl)) (hw _ (List.mem_of_getElem? (i := 3) rfl)) (hw _ (List.mem_of_getElem? (i := 4) rfl)) (by decide) (rm_sym K.l Z a0 hw [] p2 (8 : Int32) x1 x2 h45 n0 hz) pd_IIBB_to_B rfl (rest := [.int (5 : Int32), .ref b6]) rfl rfl (Nat.le_of_eq rfl) (by decide) (by decide) (by decide) (by decide) ?_
  rintro v49 h48 ⟨⟨s47, rfl⟩, rfl⟩
  show Go K h45 2 9 138 [.val (.int p0), .val (.int p1), .val (.int p2), .val (.int p3), .val (.int x1), .val (.int x2), .val (.ref b4), .val (.ref b6), .unset, .unset, .unset] [.int s47, .int (5 : Int32), .ref b6]
  obtain ⟨y51, hv_y51⟩ : ∃ z : Int32, s47.toInt8.toInt32 = z := ⟨_, rfl⟩
  refine w_bastore 139 5 y51 C A_b6 g_b6 at_138 rfl (by decide) (Nat.le_of_ble_eq_true rfl) hv_y51 ?_
  intro h50 K_h50 A_b6'
  replace A_b6 : Ai Z h50 b6 .byte [y26, y31, y36, y41, y46, y51] := A_b6'
  replace A_b4 := A_b4.keep K_h50 (ninS ne_b4_b6 nin0)
  replace hz := Nat.le_trans hz K_h50.1
  refine w_iconst 140 (3 : Int32) C at_139 rfl rfl ?_
  refine w_newarr 142 3 3 C hz at_140 rfl (hw _ (List.mem_of_getElem? (i := 5) rfl)) rfl (by decide) (by decide) (by decide) (by decide) (by decide) ?_
  intro h52 b53 X_b53 g_b53 sz0_b53 A_b53 hz_
  replace hz := hz_
  replace A_b53 : Ai Z h52 b53 .int [(0 : Int32), (0 : Int32), (0 : Int32)] := A_b53
  have ne_b4_b53 : b4 ≠ b53 := Nat.ne_of_lt (Nat.lt_of_lt_of_le A_b4.lt sz0_b53)
  have ne_b6_b53 : b6 ≠ b53 := Nat.ne_of_lt (Nat.lt_of_lt_of_le A_b6.lt sz0_b53)
  replace A_b4 := A_b4.ext X_b53
  replace A_b6 := A_b6.ext X_b53
  show Go K h52 3 12 142 [.val (.int p0), .val (.int p1), .val (.int p2), .val (.int p3), .val (.int x1), .val (.int x2), .val (.ref b4), .val (.ref b6), .unset, .unset, .unset] [.ref b53]
  refine w_astore 144 [.val (.int p0), .val (.int p1), .val (.int p2), .val (.int p3), .val (.int x1), .val (.int x2), .val (.ref b4), .val (.ref b6), .val (.ref b53), .unset, .unset] C at_142 rfl rfl rfl ?_
  refine w_aload 146 C at_144 rfl rfl rfl ?_
  refine w_iconst 147 (0 : Int32) C at_146 rfl rfl ?_
  refine w_iconst 148 (3 : Int32) C at_147 rfl rfl ?_
  refine w_iastore 149 0 C A_b53 g_b53 at_148 rfl (by decide) (Nat.le_of_ble_eq_true rfl) ?_
  intro h54 K_h54 A_b53'
  replace A_b53 : Ai Z h54 b53 .int [(3 : Int32), (0 : Int32), (0 : Int32)] := A_b53'
  replace A_b4 := A_b4.keep K_h54 (ninS ne_b4_b53 nin0)
  replace A_b6 := A_b6.keep K_h54 (ninS ne_b6_b53 nin0)
  replace hz := Nat.le_trans hz K_h54.1
  refine w_aload 151 C at_149 rfl rfl rfl ?_
  refine w_iconst 152 (1 : Int32) C at_151 rfl rfl ?_
  refine w_aload 154 C at_152 rfl rfl rfl ?_
  refine w_aload 156 C at_154 rfl rfl rfl ?_
  refine w_iconst 157 (1 : Int32) C at_156 rfl rfl ?_
  refine w_iconst 158 (2 : Int32) C at_157 rfl rfl ?_
  obtain ⟨n, hnn⟩ : ∃ n : Nat, n = 3 := ⟨_, rfl⟩
  refine w_callS (y := (⟨"com/example/zspan/zspan/SearchedBytesAtPinLaw", "lcp", "([B[BII)I"⟩ : MethodName)) 161 2 [.ref b4, .ref b4, .int (1 : Int32), .int (2 : Int32)] C at_158 rfl (hw _ (List.mem_of_getElem? (i := 6) rfl)) (hw _ (List.mem_of_getElem? (i := 7) rfl)) (hw _ (List.mem_of_getElem? (i := 3) rfl)) (hw _ (List.mem_of_getElem? (i := 8) rfl)) (by decide) (rm_lcp K.l Z a0 hw [] b4 b4 (1 : Int32) (2 : Int32) [y11, y16, y21] [y11, y16, y21] 1 (n - 1) h54 n0 hz A_b4 A_b4 (by decide) (by rw [hnn]; decide) (by simp; omega) (by simp; omega) (by omega) (by decide)) pd_aBaBII_to_I rfl (rest := [.int (1 : Int32), .ref b53]) rfl rfl (Nat.le_of_eq rfl) (by decide) (by decide) (by decide) (by decide) ?_
  rintro v56 h55 ⟨⟨z1, rfl, hz1⟩, rfl⟩
  show Go K h54 3 12 161 [.val (.int p0), .val (.int p1), .val (.int p2), .val (.int p3), .val (.int x1), .val (.int x2), .val (.ref b4), .val (.ref b6), .val (.ref b53), .unset, .unset] [.int z1, .int (1 : Int32), .ref b53]
  refine w_iastore 162 1 C A_b53 g_b53 at_161 rfl (by decide) (Nat.le_of_ble_eq_true rfl) ?_
  intro h57 K_h57 A_b53'
  replace A_b53 : Ai Z h57 b53 .int [(3 : Int32), z1, (0 : Int32)] := A_b53'
  replace A_b4 := A_b4.keep K_h57 (ninS ne_b4_b53 nin0)
  replace A_b6 := A_b6.keep K_h57 (ninS ne_b6_b53 nin0)
  replace hz := Nat.le_trans hz K_h57.1
  refine w_aload 164 C at_162 rfl rfl rfl ?_
  refine w_iconst 165 (2 : Int32) C at_164 rfl rfl ?_
  refine w_aload 167 C at_165 rfl rfl rfl ?_
  refine w_aload 169 C at_167 rfl rfl rfl ?_
  refine w_iconst 170 (2 : Int32) C at_169 rfl rfl ?_
  refine w_iconst 171 (1 : Int32) C at_170 rfl rfl ?_
  refine w_callS (y := (⟨"com/example/zspan/zspan/SearchedBytesAtPinLaw", "lcp", "([B[BII)I"⟩ : MethodName)) 174 2 [.ref b4, .ref b4, .int (2 : Int32), .int (1 : Int32)] C at_171 rfl (hw _ (List.mem_of_getElem? (i := 6) rfl)) (hw _ (List.mem_of_getElem? (i := 7) rfl)) (hw _ (List.mem_of_getElem? (i := 3) rfl)) (hw _ (List.mem_of_getElem? (i := 8) rfl)) (by decide) (rm_lcp K.l Z a0 hw [] b4 b4 (2 : Int32) (1 : Int32) [y11, y16, y21] [y11, y16, y21] 2 (n - 2) h57 n0 hz A_b4 A_b4 (by decide) (by rw [hnn]; decide) (by simp; omega) (by simp; omega) (by omega) (by decide)) pd_aBaBII_to_I rfl (rest := [.int (2 : Int32), .ref b53]) rfl rfl (Nat.le_of_eq rfl) (by decide) (by decide) (by decide) (by decide) ?_
  rintro v59 h58 ⟨⟨z2, rfl, hz2⟩, rfl⟩
  show Go K h57 3 12 174 [.val (.int p0), .val (.int p1), .val (.int p2), .val (.int p3), .val (.int x1), .val (.int x2), .val (.ref b4), .val (.ref b6), .val (.ref b53), .unset, .unset] [.int z2, .int (2 : Int32), .ref b53]
  refine w_iastore 175 2 C A_b53 g_b53 at_174 rfl (by decide) (Nat.le_of_ble_eq_true rfl) ?_
  intro h60 K_h60 A_b53'
  replace A_b53 : Ai Z h60 b53 .int [(3 : Int32), z1, z2] := A_b53'
  replace A_b4 := A_b4.keep K_h60 (ninS ne_b4_b53 nin0)
  replace A_b6 := A_b6.keep K_h60 (ninS ne_b6_b53 nin0)
  replace hz := Nat.le_trans hz K_h60.1
  refine w_new 178 C hz at_175 rfl (hw _ (List.mem_of_getElem? (i := 9) rfl)) (hw _ (List.mem_of_getElem? (i := 10) rfl)) (hw _ (List.mem_of_getElem? (i := 11) rfl)) (by decide) (by decide) ?_
  intro h61 b62 X_b62 g_b62 sz0_b62 E_b62 D_b62 hz_
  replace hz := hz_
  have ne_b4_b62 : b4 ≠ b62 := Nat.ne_of_lt (Nat.lt_of_lt_of_le A_b4.lt sz0_b62)
  have ne_b6_b62 : b6 ≠ b62 := Nat.ne_of_lt (Nat.lt_of_lt_of_le A_b6.lt sz0_b62)
  have ne_b53_b62 : b53 ≠ b62 := Nat.ne_of_lt (Nat.lt_of_lt_of_le A_b53.lt sz0_b62)
  replace A_b4 := A_b4.ext X_b62
  replace A_b6 := A_b6.ext X_b62
  replace A_b53 := A_b53.ext X_b62
  have F_z_b62 : Fld Z h61 b62 "com/example/zspan/zspan/PrefixWalk" "z" "[I" (.null) := D_b62 (Or.inr (hw _ (List.mem_of_getElem? (i := 24) rfl))) (ty := (.array .int)) (by decide)
  have F_pattern_b62 : Fld Z h61 b62 "com/example/zspan/zspan/PrefixWalk$SearchedBytes" "pattern" "[B" (.null) := D_b62 (Or.inr (hw _ (List.mem_of_getElem? (i := 26) rfl))) (ty := (.array .byte)) (by decide)
  have F_text_b62 : Fld Z h61 b62 "com/example/zspan/zspan/PrefixWalk$SearchedBytes" "text" "[B" (.null) := D_b62 (Or.inr (hw _ (List.mem_of_getElem? (i := 28) rfl))) (ty := (.array .byte)) (by decide)
  have F_head_b62 : Fld Z h61 b62 "com/example/zspan/zspan/PrefixWalk$SearchedBytes" "head" "I" (.int (0 : Int32)) := D_b62 (Or.inr (hw _ (List.mem_of_getElem? (i := 34) rfl))) (ty := .int) (by decide)
  have F_headBits_b62 : Fld Z h61 b62 "com/example/zspan/zspan/PrefixWalk$SearchedBytes" "headBits" "I" (.int (0 : Int32)) := D_b62 (Or.inr (hw _ (List.mem_of_getElem? (i := 36) rfl))) (ty := .int) (by decide)
  have F_right_b62 : Fld Z h61 b62 "com/example/zspan/zspan/PrefixWalk" "right" "I" (.int (0 : Int32)) := D_b62 (Or.inl (hw _ (List.mem_of_getElem? (i := 48) rfl))) (ty := .int) (by decide)
  have F_left_b62 : Fld Z h61 b62 "com/example/zspan/zspan/PrefixWalk" "left" "I" (.int (0 : Int32)) := D_b62 (Or.inl (hw _ (List.mem_of_getElem? (i := 51) rfl))) (ty := .int) (by decide)
  show Go K h61 4 19 178 [.val (.int p0), .val (.int p1), .val (.int p2), .val (.int p3), .val (.int x1), .val (.int x2), .val (.ref b4), .val (.ref b6), .val (.ref b53), .unset, .unset] [.ref b62]
  refine w_dup 179 C at_178 rfl rfl ?_
  refine w_aload 181 C at_179 rfl rfl rfl ?_
  refine w_aload 183 C at_181 rfl rfl rfl ?_
  refine w_aload 185 C at_183 rfl rfl rfl ?_
  refine w_callI (y := (⟨"com/example/zspan/zspan/PrefixWalk$SearchedBytes", "<init>", "([I[B[B)V"⟩ : MethodName)) (a := b62) 188 1 [.ref b53, .ref b4, .ref b6] C at_185 rfl rfl (hw _ (List.mem_of_getElem? (i := 12) rfl)) (hw _ (List.mem_of_getElem? (i := 13) rfl)) (hw _ (List.mem_of_getElem? (i := 11) rfl)) (hw _ (List.mem_of_getElem? (i := 14) rfl)) (by decide) (rm_i2 K.l Z a0 hw [] b62 b53 b4 b6 .null .null .null (.int 0) (.int 0) (.int 0) (.int 0) y11 y16 y21 h61 n0 hz E_b62 g_b62 F_z_b62 F_pattern_b62 F_text_b62 F_left_b62 F_right_b62 F_head_b62 F_headBits_b62 A_b4 ne_b4_b62) pd_aIaBaB_to_V rfl (rest := [.ref b62]) rfl rfl (Nat.le_of_eq rfl) (by decide) (by decide) (by decide) (by decide) ?_
  rintro v63 hE ⟨rfl, K1, E_b62, q1, q2, F_z_b62, F_pattern_b62, F_text_b62, F_left_b62, F_right_b62, F_head_b62, F_headBits_b62⟩
  show Go K hE 4 19 188 [.val (.int p0), .val (.int p1), .val (.int p2), .val (.int p3), .val (.int x1), .val (.int x2), .val (.ref b4), .val (.ref b6), .val (.ref b53), .unset, .unset] [.ref b62]
  replace hz := Nat.le_trans hz K1.1
  replace A_b4 := A_b4.keep K1 (ninS ne_b4_b62 nin0)
  replace A_b6 := A_b6.keep K1 (ninS ne_b6_b62 nin0)
  replace A_b53 := A_b53.keep K1 (ninS ne_b53_b62 nin0)
  have hzs : ∀ j, j < n → ∃ q : Int32, ([(3 : Int32), z1, z2] : List Int32)[j]? = some q ∧ q.toInt = ((own_zl (n - j) [y11, y16, y21] (([y11, y16, y21] : List Int32).drop j) : Nat) : Int) := by
    intro j hj
    match j, hj with
    | 0, _ => refine ⟨_, rfl, ?_⟩; rw [own_zl_uniq (n - 0) [y11, y16, y21] (([y11, y16, y21] : List Int32).drop 0) n (by simp; omega) (by simp; omega) (by omega) (fun e _ => rfl) (fun q => absurd q (by omega))]; rw [hnn]; decide
    | 1, _ => exact ⟨_, rfl, hz1⟩
    | 2, _ => exact ⟨_, rfl, hz2⟩
    | (j + 3), hj => exact absurd hj (by omega)
  obtain ⟨le, ri, nl, nr, hle, hri, IV, hli, F_left_b62, F_right_b62⟩ : ∃ (le ri : Int32) (nl nr : Nat), le.toInt = (nl : Int) ∧ ri.toInt = (nr : Int) ∧ own_inv n [y11, y16, y21] [y26, y31, y36, y41, y46, y51] nl nr ∧ nl ≤ 0 ∧ Fld Z hE b62 "com/example/zspan/zspan/PrefixWalk" "left" "I" (.int le) ∧ Fld Z hE b62 "com/example/zspan/zspan/PrefixWalk" "right" "I" (.int ri) := ⟨0, 0, 0, 0, by decide, by decide, ⟨by omega, by simp, by omega, fun e he => absurd he (by omega)⟩, by omega, F_left_b62, F_right_b62⟩
  refine w_astore 190 [.val (.int p0), .val (.int p1), .val (.int p2), .val (.int p3), .val (.int x1), .val (.int x2), .val (.ref b4), .val (.ref b6), .val (.ref b53), .val (.ref b62), .unset] C at_188 rfl rfl rfl ?_
  refine w_iconst 191 (1 : Int32) C at_190 rfl rfl ?_
  refine w_istore 193 [.val (.int p0), .val (.int p1), .val (.int p2), .val (.int p3), .val (.int x1), .val (.int x2), .val (.ref b4), .val (.ref b6), .val (.ref b53), .val (.ref b62), .val (.int (1 : Int32))] C at_191 rfl rfl ?_
  refine w_iload 195 C at_193 rfl rfl ?_
  refine w_aload 197 C at_195 rfl rfl rfl ?_
  refine w_aload 199 C at_197 rfl rfl rfl ?_
  refine w_aload 201 C at_199 rfl rfl rfl ?_
  refine w_iconst 202 (0 : Int32) C at_201 rfl rfl ?_
  refine w_iloadN 203 C at_202 rfl rfl ?_
  refine w_callS (y := (⟨"com/example/zspan/zspan/SearchedBytesAtPinLaw", "step", "(Lcom/example/zspan/zspan/PrefixWalk$SearchedBytes;[B[BII)Z"⟩ : MethodName)) 206 1 [.ref b62, .ref b4, .ref b6, .int (0 : Int32), .int p3] C at_203 rfl (hw _ (List.mem_of_getElem? (i := 37) rfl)) (hw _ (List.mem_of_getElem? (i := 38) rfl)) (hw _ (List.mem_of_getElem? (i := 3) rfl)) (hw _ (List.mem_of_getElem? (i := 39) rfl)) (by decide) (rm_step K.l Z a0 hw [] b62 b53 b4 b6 le ri (0 : Int32) p3 q1 q2 [y11, y16, y21] [y26, y31, y36, y41, y46, y51] [(3 : Int32), z1, z2] hE n0 hz E_b62 g_b62 F_z_b62 F_pattern_b62 F_text_b62 F_left_b62 F_right_b62 F_head_b62 F_headBits_b62 A_b53 A_b4 A_b6 ne_b53_b62 ne_b4_b62 ne_b6_b62 n nl nr 0 hle hri (by decide) IV (by simp; omega) (by simp) hli (by simp) (by simp) hzs (by rw [hnn]; decide)) pd_Lcom_example_zspan_zspan_PrefixWalk_SearchedBytesaBaBII_to_Z rfl (rest := [.int (1 : Int32)]) rfl rfl (Nat.le_of_eq rfl) (by decide) (by decide) (by decide) (by decide) ?_
  rintro v64 hS0 ⟨rfl, K_0, E_b62, le, ri, nl, nr, hle, hri, IV, hli, F_z_b62, F_pattern_b62, F_text_b62, F_left_b62, F_right_b62, F_head_b62, F_headBits_b62⟩
  show Go K hS0 4 19 206 [.val (.int p0), .val (.int p1), .val (.int p2), .val (.int p3), .val (.int x1), .val (.int x2), .val (.ref b4), .val (.ref b6), .val (.ref b53), .val (.ref b62), .val (.int (1 : Int32))] [.int (1 : Int32), .int (1 : Int32)]
  replace hz := Nat.le_trans hz K_0.1
  replace A_b4 := A_b4.keep K_0 (ninS ne_b4_b62 nin0)
  replace A_b6 := A_b6.keep K_0 (ninS ne_b6_b62 nin0)
  replace A_b53 := A_b53.keep K_0 (ninS ne_b53_b62 nin0)
  refine w_iand 207 C at_206 rfl ?_
  refine w_istore 209 [.val (.int p0), .val (.int p1), .val (.int p2), .val (.int p3), .val (.int x1), .val (.int x2), .val (.ref b4), .val (.ref b6), .val (.ref b53), .val (.ref b62), .val (.int ((1 : Int32) &&& (1 : Int32)))] C at_207 rfl rfl ?_
  generalize hv_x65 : ((1 : Int32) &&& (1 : Int32)) = x65
  refine w_iload 211 C at_209 rfl rfl ?_
  refine w_aload 213 C at_211 rfl rfl rfl ?_
  refine w_aload 215 C at_213 rfl rfl rfl ?_
  refine w_aload 217 C at_215 rfl rfl rfl ?_
  refine w_iconst 218 (1 : Int32) C at_217 rfl rfl ?_
  refine w_iloadN 219 C at_218 rfl rfl ?_
  replace hli : nl ≤ 1 := by omega
  refine w_callS (y := (⟨"com/example/zspan/zspan/SearchedBytesAtPinLaw", "step", "(Lcom/example/zspan/zspan/PrefixWalk$SearchedBytes;[B[BII)Z"⟩ : MethodName)) 222 1 [.ref b62, .ref b4, .ref b6, .int (1 : Int32), .int p3] C at_219 rfl (hw _ (List.mem_of_getElem? (i := 37) rfl)) (hw _ (List.mem_of_getElem? (i := 38) rfl)) (hw _ (List.mem_of_getElem? (i := 3) rfl)) (hw _ (List.mem_of_getElem? (i := 39) rfl)) (by decide) (rm_step K.l Z a0 hw [] b62 b53 b4 b6 le ri (1 : Int32) p3 q1 q2 [y11, y16, y21] [y26, y31, y36, y41, y46, y51] [(3 : Int32), z1, z2] hS0 n0 hz E_b62 g_b62 F_z_b62 F_pattern_b62 F_text_b62 F_left_b62 F_right_b62 F_head_b62 F_headBits_b62 A_b53 A_b4 A_b6 ne_b53_b62 ne_b4_b62 ne_b6_b62 n nl nr 1 hle hri (by decide) IV (by simp; omega) (by simp) hli (by simp) (by simp) hzs (by rw [hnn]; decide)) pd_Lcom_example_zspan_zspan_PrefixWalk_SearchedBytesaBaBII_to_Z rfl (rest := [.int x65]) rfl rfl (Nat.le_of_eq rfl) (by decide) (by decide) (by decide) (by decide) ?_
  rintro v66 hS1 ⟨rfl, K_1, E_b62, le, ri, nl, nr, hle, hri, IV, hli, F_z_b62, F_pattern_b62, F_text_b62, F_left_b62, F_right_b62, F_head_b62, F_headBits_b62⟩
  show Go K hS1 4 19 222 [.val (.int p0), .val (.int p1), .val (.int p2), .val (.int p3), .val (.int x1), .val (.int x2), .val (.ref b4), .val (.ref b6), .val (.ref b53), .val (.ref b62), .val (.int x65)] [.int (1 : Int32), .int x65]
  replace hz := Nat.le_trans hz K_1.1
  replace A_b4 := A_b4.keep K_1 (ninS ne_b4_b62 nin0)
  replace A_b6 := A_b6.keep K_1 (ninS ne_b6_b62 nin0)
  replace A_b53 := A_b53.keep K_1 (ninS ne_b53_b62 nin0)
  refine w_iand 223 C at_222 rfl ?_
  refine w_istore 225 [.val (.int p0), .val (.int p1), .val (.int p2), .val (.int p3), .val (.int x1), .val (.int x2), .val (.ref b4), .val (.ref b6), .val (.ref b53), .val (.ref b62), .val (.int (x65 &&& (1 : Int32)))] C at_223 rfl rfl ?_
  generalize hv_x67 : (x65 &&& (1 : Int32)) = x67
  refine w_iload 227 C at_225 rfl rfl ?_
  refine w_aload 229 C at_227 rfl rfl rfl ?_
  refine w_aload 231 C at_229 rfl rfl rfl ?_
  refine w_aload 233 C at_231 rfl rfl rfl ?_
  refine w_iconst 234 (2 : Int32) C at_233 rfl rfl ?_
  refine w_iloadN 235 C at_234 rfl rfl ?_
  replace hli : nl ≤ 2 := by omega
  refine w_callS (y := (⟨"com/example/zspan/zspan/SearchedBytesAtPinLaw", "step", "(Lcom/example/zspan/zspan/PrefixWalk$SearchedBytes;[B[BII)Z"⟩ : MethodName)) 238 1 [.ref b62, .ref b4, .ref b6, .int (2 : Int32), .int p3] C at_235 rfl (hw _ (List.mem_of_getElem? (i := 37) rfl)) (hw _ (List.mem_of_getElem? (i := 38) rfl)) (hw _ (List.mem_of_getElem? (i := 3) rfl)) (hw _ (List.mem_of_getElem? (i := 39) rfl)) (by decide) (rm_step K.l Z a0 hw [] b62 b53 b4 b6 le ri (2 : Int32) p3 q1 q2 [y11, y16, y21] [y26, y31, y36, y41, y46, y51] [(3 : Int32), z1, z2] hS1 n0 hz E_b62 g_b62 F_z_b62 F_pattern_b62 F_text_b62 F_left_b62 F_right_b62 F_head_b62 F_headBits_b62 A_b53 A_b4 A_b6 ne_b53_b62 ne_b4_b62 ne_b6_b62 n nl nr 2 hle hri (by decide) IV (by simp; omega) (by simp) hli (by simp) (by simp) hzs (by rw [hnn]; decide)) pd_Lcom_example_zspan_zspan_PrefixWalk_SearchedBytesaBaBII_to_Z rfl (rest := [.int x67]) rfl rfl (Nat.le_of_eq rfl) (by decide) (by decide) (by decide) (by decide) ?_
  rintro v68 hS2 ⟨rfl, K_2, E_b62, le, ri, nl, nr, hle, hri, IV, hli, F_z_b62, F_pattern_b62, F_text_b62, F_left_b62, F_right_b62, F_head_b62, F_headBits_b62⟩
  show Go K hS2 4 19 238 [.val (.int p0), .val (.int p1), .val (.int p2), .val (.int p3), .val (.int x1), .val (.int x2), .val (.ref b4), .val (.ref b6), .val (.ref b53), .val (.ref b62), .val (.int x67)] [.int (1 : Int32), .int x67]
  replace hz := Nat.le_trans hz K_2.1
  replace A_b4 := A_b4.keep K_2 (ninS ne_b4_b62 nin0)
  replace A_b6 := A_b6.keep K_2 (ninS ne_b6_b62 nin0)
  replace A_b53 := A_b53.keep K_2 (ninS ne_b53_b62 nin0)
  refine w_iand 239 C at_238 rfl ?_
  refine w_istore 241 [.val (.int p0), .val (.int p1), .val (.int p2), .val (.int p3), .val (.int x1), .val (.int x2), .val (.ref b4), .val (.ref b6), .val (.ref b53), .val (.ref b62), .val (.int (x67 &&& (1 : Int32)))] C at_239 rfl rfl ?_
  generalize hv_x69 : (x67 &&& (1 : Int32)) = x69
  refine w_iload 243 C at_241 rfl rfl ?_
  refine w_aload 245 C at_243 rfl rfl rfl ?_
  refine w_aload 247 C at_245 rfl rfl rfl ?_
  refine w_aload 249 C at_247 rfl rfl rfl ?_
  refine w_iconst 250 (3 : Int32) C at_249 rfl rfl ?_
  refine w_iloadN 251 C at_250 rfl rfl ?_
  replace hli : nl ≤ 3 := by omega
  refine w_callS (y := (⟨"com/example/zspan/zspan/SearchedBytesAtPinLaw", "step", "(Lcom/example/zspan/zspan/PrefixWalk$SearchedBytes;[B[BII)Z"⟩ : MethodName)) 254 1 [.ref b62, .ref b4, .ref b6, .int (3 : Int32), .int p3] C at_251 rfl (hw _ (List.mem_of_getElem? (i := 37) rfl)) (hw _ (List.mem_of_getElem? (i := 38) rfl)) (hw _ (List.mem_of_getElem? (i := 3) rfl)) (hw _ (List.mem_of_getElem? (i := 39) rfl)) (by decide) (rm_step K.l Z a0 hw [] b62 b53 b4 b6 le ri (3 : Int32) p3 q1 q2 [y11, y16, y21] [y26, y31, y36, y41, y46, y51] [(3 : Int32), z1, z2] hS2 n0 hz E_b62 g_b62 F_z_b62 F_pattern_b62 F_text_b62 F_left_b62 F_right_b62 F_head_b62 F_headBits_b62 A_b53 A_b4 A_b6 ne_b53_b62 ne_b4_b62 ne_b6_b62 n nl nr 3 hle hri (by decide) IV (by simp; omega) (by simp) hli (by simp) (by simp) hzs (by rw [hnn]; decide)) pd_Lcom_example_zspan_zspan_PrefixWalk_SearchedBytesaBaBII_to_Z rfl (rest := [.int x69]) rfl rfl (Nat.le_of_eq rfl) (by decide) (by decide) (by decide) (by decide) ?_
  rintro v70 hS3 ⟨rfl, K_3, E_b62, le, ri, nl, nr, hle, hri, IV, hli, F_z_b62, F_pattern_b62, F_text_b62, F_left_b62, F_right_b62, F_head_b62, F_headBits_b62⟩
  show Go K hS3 4 19 254 [.val (.int p0), .val (.int p1), .val (.int p2), .val (.int p3), .val (.int x1), .val (.int x2), .val (.ref b4), .val (.ref b6), .val (.ref b53), .val (.ref b62), .val (.int x69)] [.int (1 : Int32), .int x69]
  replace hz := Nat.le_trans hz K_3.1
  replace A_b4 := A_b4.keep K_3 (ninS ne_b4_b62 nin0)
  replace A_b6 := A_b6.keep K_3 (ninS ne_b6_b62 nin0)
  replace A_b53 := A_b53.keep K_3 (ninS ne_b53_b62 nin0)
  refine w_iand 255 C at_254 rfl ?_
  refine w_istore 257 [.val (.int p0), .val (.int p1), .val (.int p2), .val (.int p3), .val (.int x1), .val (.int x2), .val (.ref b4), .val (.ref b6), .val (.ref b53), .val (.ref b62), .val (.int (x69 &&& (1 : Int32)))] C at_255 rfl rfl ?_
  generalize hv_x71 : (x69 &&& (1 : Int32)) = x71
  refine w_iload 259 C at_257 rfl rfl ?_
  refine w_aload 261 C at_259 rfl rfl rfl ?_
  refine w_aload 263 C at_261 rfl rfl rfl ?_
  refine w_aload 265 C at_263 rfl rfl rfl ?_
  refine w_iconst 266 (4 : Int32) C at_265 rfl rfl ?_
  refine w_iloadN 267 C at_266 rfl rfl ?_
  replace hli : nl ≤ 4 := by omega
  refine w_callS (y := (⟨"com/example/zspan/zspan/SearchedBytesAtPinLaw", "step", "(Lcom/example/zspan/zspan/PrefixWalk$SearchedBytes;[B[BII)Z"⟩ : MethodName)) 270 1 [.ref b62, .ref b4, .ref b6, .int (4 : Int32), .int p3] C at_267 rfl (hw _ (List.mem_of_getElem? (i := 37) rfl)) (hw _ (List.mem_of_getElem? (i := 38) rfl)) (hw _ (List.mem_of_getElem? (i := 3) rfl)) (hw _ (List.mem_of_getElem? (i := 39) rfl)) (by decide) (rm_step K.l Z a0 hw [] b62 b53 b4 b6 le ri (4 : Int32) p3 q1 q2 [y11, y16, y21] [y26, y31, y36, y41, y46, y51] [(3 : Int32), z1, z2] hS3 n0 hz E_b62 g_b62 F_z_b62 F_pattern_b62 F_text_b62 F_left_b62 F_right_b62 F_head_b62 F_headBits_b62 A_b53 A_b4 A_b6 ne_b53_b62 ne_b4_b62 ne_b6_b62 n nl nr 4 hle hri (by decide) IV (by simp; omega) (by simp) hli (by simp) (by simp) hzs (by rw [hnn]; decide)) pd_Lcom_example_zspan_zspan_PrefixWalk_SearchedBytesaBaBII_to_Z rfl (rest := [.int x71]) rfl rfl (Nat.le_of_eq rfl) (by decide) (by decide) (by decide) (by decide) ?_
  rintro v72 hS4 ⟨rfl, K_4, E_b62, le, ri, nl, nr, hle, hri, IV, hli, F_z_b62, F_pattern_b62, F_text_b62, F_left_b62, F_right_b62, F_head_b62, F_headBits_b62⟩
  show Go K hS4 4 19 270 [.val (.int p0), .val (.int p1), .val (.int p2), .val (.int p3), .val (.int x1), .val (.int x2), .val (.ref b4), .val (.ref b6), .val (.ref b53), .val (.ref b62), .val (.int x71)] [.int (1 : Int32), .int x71]
  replace hz := Nat.le_trans hz K_4.1
  replace A_b4 := A_b4.keep K_4 (ninS ne_b4_b62 nin0)
  replace A_b6 := A_b6.keep K_4 (ninS ne_b6_b62 nin0)
  replace A_b53 := A_b53.keep K_4 (ninS ne_b53_b62 nin0)
  refine w_iand 271 C at_270 rfl ?_
  refine w_istore 273 [.val (.int p0), .val (.int p1), .val (.int p2), .val (.int p3), .val (.int x1), .val (.int x2), .val (.ref b4), .val (.ref b6), .val (.ref b53), .val (.ref b62), .val (.int (x71 &&& (1 : Int32)))] C at_271 rfl rfl ?_
  generalize hv_x73 : (x71 &&& (1 : Int32)) = x73
  refine w_iload 275 C at_273 rfl rfl ?_
  refine w_aload 277 C at_275 rfl rfl rfl ?_
  refine w_aload 279 C at_277 rfl rfl rfl ?_
  refine w_aload 281 C at_279 rfl rfl rfl ?_
  refine w_iconst 282 (5 : Int32) C at_281 rfl rfl ?_
  refine w_iloadN 283 C at_282 rfl rfl ?_
  replace hli : nl ≤ 5 := by omega
  refine w_callS (y := (⟨"com/example/zspan/zspan/SearchedBytesAtPinLaw", "step", "(Lcom/example/zspan/zspan/PrefixWalk$SearchedBytes;[B[BII)Z"⟩ : MethodName)) 286 1 [.ref b62, .ref b4, .ref b6, .int (5 : Int32), .int p3] C at_283 rfl (hw _ (List.mem_of_getElem? (i := 37) rfl)) (hw _ (List.mem_of_getElem? (i := 38) rfl)) (hw _ (List.mem_of_getElem? (i := 3) rfl)) (hw _ (List.mem_of_getElem? (i := 39) rfl)) (by decide) (rm_step K.l Z a0 hw [] b62 b53 b4 b6 le ri (5 : Int32) p3 q1 q2 [y11, y16, y21] [y26, y31, y36, y41, y46, y51] [(3 : Int32), z1, z2] hS4 n0 hz E_b62 g_b62 F_z_b62 F_pattern_b62 F_text_b62 F_left_b62 F_right_b62 F_head_b62 F_headBits_b62 A_b53 A_b4 A_b6 ne_b53_b62 ne_b4_b62 ne_b6_b62 n nl nr 5 hle hri (by decide) IV (by simp; omega) (by simp) hli (by simp) (by simp) hzs (by rw [hnn]; decide)) pd_Lcom_example_zspan_zspan_PrefixWalk_SearchedBytesaBaBII_to_Z rfl (rest := [.int x73]) rfl rfl (Nat.le_of_eq rfl) (by decide) (by decide) (by decide) (by decide) ?_
  rintro v74 hS5 ⟨rfl, K_5, E_b62, le, ri, nl, nr, hle, hri, IV, hli, F_z_b62, F_pattern_b62, F_text_b62, F_left_b62, F_right_b62, F_head_b62, F_headBits_b62⟩
  show Go K hS5 4 19 286 [.val (.int p0), .val (.int p1), .val (.int p2), .val (.int p3), .val (.int x1), .val (.int x2), .val (.ref b4), .val (.ref b6), .val (.ref b53), .val (.ref b62), .val (.int x73)] [.int (1 : Int32), .int x73]
  replace hz := Nat.le_trans hz K_5.1
  replace A_b4 := A_b4.keep K_5 (ninS ne_b4_b62 nin0)
  replace A_b6 := A_b6.keep K_5 (ninS ne_b6_b62 nin0)
  replace A_b53 := A_b53.keep K_5 (ninS ne_b53_b62 nin0)
  refine w_iand 287 C at_286 rfl ?_
  refine w_istore 289 [.val (.int p0), .val (.int p1), .val (.int p2), .val (.int p3), .val (.int x1), .val (.int x2), .val (.ref b4), .val (.ref b6), .val (.ref b53), .val (.ref b62), .val (.int (x73 &&& (1 : Int32)))] C at_287 rfl rfl ?_
  generalize hv_x75 : (x73 &&& (1 : Int32)) = x75
  refine w_iload 291 C at_289 rfl rfl ?_
  refine w_retN C (by simp) at_291 rfl (by decide) (by decide) ?_
  exact (by rw [← hv_x75, ← hv_x73, ← hv_x71, ← hv_x69, ← hv_x67, ← hv_x65]; rfl)
set_option maxRecDepth 65536 in
set_option maxHeartbeats 40000000 in
theorem comes_1 {Post : Tables → Env → Array Value → State → Outcome → State → Prop} (hpost : ∀ tb e args s v u, (limb_1_1.after args s (.returned v) u = true ∧ limb_1_2.after args s (.returned v) u = true ∧ True) → FrameEnd s (.returned v) u (Jvm.fieldLocs frame_1_writes args s ++ Jvm.arrayLocs frame_1_arrays args s ++ Jvm.staticLocs frame_1_statics s) 16 128 → Post tb e args s (.returned v) u) :
    ArmFor flags0 classFile x code maxLocals ret World_1 tables_1 room_1 Calls_1 rest_1 Pre_1 Post := by
  intro l hfl _ _ p e ha hc hk s m args below hf hA hF happ hP
  obtain ⟨hcalls, hrest, hpre⟩ := hP
  obtain ⟨-, -, -, hnamed, -, -, -, hat⟩ := (Spec.applies_iff hf).mp happ
  obtain ⟨hg, hn⟩ := and_e (Cond.before_iff.mp (show (Jvm.Cond.and given_1 narrow_1).before args s = true from hpre))
  obtain ⟨gc, r0⟩ := and_e hg
  obtain ⟨g0, r1⟩ := and_e r0
  obtain ⟨g1, r2⟩ := and_e r1
  obtain ⟨g2, r3⟩ := and_e r2
  obtain ⟨w0, w1, w2, w3, rfl⟩ : ∃ w0 w1 w2 w3 : Value, args = #[w0, w1, w2, w3] := by
    have hs : args.size = 4 := by simpa [Cond.value, given_1] using gc
    obtain ⟨L⟩ := args
    match L, hs with
    | [w0, w1, w2, w3], _ => exact ⟨w0, w1, w2, w3, rfl⟩
  have hw := fun d (hd : d ∈ tables_1) => atoms_spec (ws := Jvm.Cond.code x code maxLocals ret :: tables_1) hat d (List.mem_cons_of_mem _ hd)
  obtain ⟨i0, ei0⟩ := is_v g0
  obtain rfl : w0 = (.int i0) := Option.some.inj ei0
  obtain ⟨i1, ei1⟩ := is_v g1
  obtain rfl : w1 = (.int i1) := Option.some.inj ei1
  obtain ⟨i2, ei2⟩ := is_v g2
  obtain rfl : w2 = (.int i2) := Option.some.inj ei2
  obtain ⟨i3, ei3⟩ := is_v r3
  obtain rfl : w3 = (.int i3) := Option.some.inj ei3
  obtain ⟨n, o, h1, h2, h3, _, L, rfl, ⟨N, rfl⟩, hq⟩ := rm0 l s _ hw tables_1 i0 i1 i2 i3 s.heap s.heap.size (Nat.le_refl _) p e ha hc hk s m _ below hf ((Spec.applies_iff_loose hf).mp happ).1 ⟨rfl, State.Warmed39.refl s, rfl⟩ trivial
  refine ⟨n, _, h1, h2, h3, hpost _ _ _ _ _ _ ⟨Cond.after_iff.mpr rfl, Cond.after_iff.mpr (eq_i res_at (Term.int_eval (1)) rfl), trivial⟩ ⟨hq.1, hq.2.1, (hq.2.2.sift fun y hy => Or.inr (N y hy)).mono (by decide) (by decide)⟩⟩
theorem main_1_1 : Claimed_1_1 := comes_1 fun _ _ _ _ _ _ h hF => ⟨h.1, hF⟩
theorem main_1_2 : Claimed_1_2 := comes_1 fun _ _ _ _ _ _ h hF => ⟨h.2.1, hF⟩
end Jvm.Pilot.@@N@@
namespace Jvm.Pilot.@@N@@
open Jvm Jvm.ClassFile Sem Op Lib Jvm.Free Jvm.Stand Jvm.Pilot.@@N@@.Jvm.D
/-! MADE BY PROGRAM (witnessworld.py) out of the Statement's table words and the real class files: 11 classes; the members and pool entries that the words name. The judged class is class 1, her method 4. -/
namespace start1
open Jvm.ClassFile
def u (s : String) : CpInfo := .utf8 (stringToUtf16 s)
/-- a pool by its gaps: so many unusable entries, then the entry; so many at the end -/
def gap : Nat → List CpInfo → List CpInfo
  | 0, r => r
  | n + 1, r => .unusable :: gap n r
def poolList (es : List (Nat × CpInfo)) (last : Nat) : List CpInfo := es.foldr (fun e r => gap e.1 (e.2 :: r)) (gap last [])
def pool (es : List (Nat × CpInfo)) (last : Nat) : Array CpInfo := ⟨poolList es last⟩
def fileOf (pool : Array CpInfo) (this : Nat) (attrs : Array Attribute := #[]) (ms : Array MethodInfo := #[]) (fl : Nat := 33) (sup : Nat := 0) (ifs : Array Nat := #[]) (fds : Array FieldInfo := #[]) : ClassFile where
  minorVersion := 0
  majorVersion := 65
  constantPool := pool
  accessFlags := fl
  thisClass := this
  superClass := sup
  interfaces := ifs
  fields := fds
  methods := ms
  attributes := attrs
def plain (name : String) (sup : Option ClassId) : Class where
  name := name
  kind := .ordinary
  loader := none
  accessFlags := 33
  super := sup
  interfaces := #[]
  cf := none
  fields := #[]
  methods := #[]
  instanceTypes := #[]
  staticTypes := #[]
  resolved := #[]
  callSites := []
  init := .initialized
  statics := none
  mirror := none

def pool0 : Array CpInfo := pool [(5, u "<init>"), (0, u "()V"), (1, .class_ 10), (1, u "java/lang/Object")] 113

def k0c0 : Code := { maxStack := 0, maxLocals := 1, code := object_method_1_code, exceptionTable := #[], attributes := #[] }
def k0m0 : Method := { name := "<init>", desc := "()V", sig := { parameters := [], returnType := none }, accessFlags := 1, code := some k0c0 }
/-- java/lang/Object -/
def k0 : Class := { plain "java/lang/Object" none with
  accessFlags := 33
  interfaces := #[]
  cf := some (fileOf pool0 8 #[] #[{ accessFlags := 1, nameIndex := 5, descriptorIndex := 6, attributes := #[] }] 33 0 #[] #[])
  fields := #[]
  methods := #[k0m0]
  instanceTypes := #[]
  staticTypes := #[]
  resolved := Array.replicate 124 none
  statics := none }

def pool1 : Array CpInfo := pool [(2, .class_ 4), (1, u "java/lang/Object"), (0, u "<init>"), (0, u "()V"), (0, .methodref 8 9), (0, .class_ 10), (0, .nameAndType 11 12), (0, u "java/lang/Math"), (0, u "min"), (0, u "(II)I"), (0, .methodref 14 15), (0, .class_ 16), (0, .nameAndType 17 12), (0, u "com/example/zspan/zspan/PrefixWalk$SearchedBytes"), (0, u "at"), (0, .methodref 19 20), (0, .class_ 21), (0, .nameAndType 22 23), (0, u "com/example/zspan/zspan/SearchedBytesAtPinLaw"), (0, u "lcp"), (0, u "([B[BII)I"), (0, .methodref 19 25), (0, .nameAndType 26 27), (0, u "sym"), (0, u "(IIBB)B"), (0, .methodref 14 29), (0, .nameAndType 5 30), (0, u "([I[B[B)V"), (0, .methodref 19 32), (0, .nameAndType 33 34), (0, u "step"), (0, u "(Lcom/example/zspan/zspan/PrefixWalk$SearchedBytes;[B[BII)Z"), (3, u "law"), (0, u "(IIII)Z")] 6

def k1m0 : Method := { name := "<init>", desc := "()V", sig := { parameters := [], returnType := none }, accessFlags := 1, code := none }
def k1c1 : Code := { maxStack := 2, maxLocals := 4, code := method_2_code, exceptionTable := #[], attributes := #[] }
def k1m1 : Method := { name := "sym", desc := "(IIBB)B", sig := { parameters := [.int, .int, .byte, .byte], returnType := some .byte }, accessFlags := 10, code := some k1c1 }
def k1c2 : Code := { maxStack := 4, maxLocals := 5, code := method_3_code, exceptionTable := #[], attributes := #[] }
def k1m2 : Method := { name := "lcp", desc := "([B[BII)I", sig := { parameters := [(.array .byte), (.array .byte), .int, .int], returnType := some .int }, accessFlags := 10, code := some k1c2 }
def k1c3 : Code := { maxStack := 5, maxLocals := 6, code := method_4_code, exceptionTable := #[], attributes := #[] }
def k1m3 : Method := { name := "step", desc := "(Lcom/example/zspan/zspan/PrefixWalk$SearchedBytes;[B[BII)Z", sig := { parameters := [(.object "com/example/zspan/zspan/PrefixWalk$SearchedBytes"), (.array .byte), (.array .byte), .int, .int], returnType := some .boolean }, accessFlags := 10, code := some k1c3 }
def k1c4 : Code := { maxStack := 6, maxLocals := 11, code := code, exceptionTable := #[], attributes := #[] }
def k1m4 : Method := { name := "law", desc := "(IIII)Z", sig := { parameters := [.int, .int, .int, .int], returnType := some .boolean }, accessFlags := 9, code := some k1c4 }
/-- com/example/zspan/zspan/SearchedBytesAtPinLaw -/
def k1 : Class := { plain "com/example/zspan/zspan/SearchedBytesAtPinLaw" (some 0) with
  accessFlags := 49
  interfaces := #[]
  cf := some (fileOf pool1 19 #[] #[{ accessFlags := 1, nameIndex := 5, descriptorIndex := 6, attributes := #[] }, { accessFlags := 10, nameIndex := 26, descriptorIndex := 27, attributes := #[] }, { accessFlags := 10, nameIndex := 22, descriptorIndex := 23, attributes := #[] }, { accessFlags := 10, nameIndex := 33, descriptorIndex := 34, attributes := #[] }, { accessFlags := 9, nameIndex := 38, descriptorIndex := 39, attributes := #[] }] 49 2 #[] #[])
  fields := #[]
  methods := #[k1m0, k1m1, k1m2, k1m3, k1m4]
  instanceTypes := #[]
  staticTypes := #[]
  resolved := Array.replicate 46 none
  statics := none }

def pool2 : Array CpInfo := pool [(1, .methodref 2 3), (0, .class_ 4), (0, .nameAndType 5 6), (0, u "java/lang/Object"), (0, u "<init>"), (0, u "()V"), (0, .fieldref 8 9), (0, .class_ 10), (0, .nameAndType 11 12), (0, u "com/example/zspan/zspan/PrefixWalk"), (0, u "z"), (0, u "[I"), (2, u "right"), (0, u "I"), (2, u "left"), (0, u "([I)V"), (11, .class_ 33), (0, u "com/example/zspan/zspan/PrefixWalk$Ints"), (0, .class_ 35), (0, u "com/example/zspan/zspan/PrefixWalk$SearchedChars"), (0, .class_ 37), (0, u "com/example/zspan/zspan/PrefixWalk$Chars"), (0, .class_ 39), (0, u "com/example/zspan/zspan/PrefixWalk$SearchedBytes"), (0, .class_ 41), (0, u "com/example/zspan/zspan/PrefixWalk$Bytes")] 6

def k2c0 : Code := { maxStack := 2, maxLocals := 2, code := prog_4_method_1_code, exceptionTable := #[], attributes := #[] }
def k2m0 : Method := { name := "<init>", desc := "([I)V", sig := { parameters := [(.array .int)], returnType := none }, accessFlags := 2, code := some k2c0 }
/-- com/example/zspan/zspan/PrefixWalk -/
def k2 : Class := { plain "com/example/zspan/zspan/PrefixWalk" (some 0) with
  accessFlags := 1056
  interfaces := #[]
  cf := some (fileOf pool2 8 #[.nestMembers #[32, 34, 36, 38, 40]] #[{ accessFlags := 2, nameIndex := 5, descriptorIndex := 20, attributes := #[] }] 1056 2 #[] #[{ accessFlags := 16, nameIndex := 11, descriptorIndex := 12, attributes := #[] }, { accessFlags := 0, nameIndex := 19, descriptorIndex := 16, attributes := #[] }, { accessFlags := 0, nameIndex := 15, descriptorIndex := 16, attributes := #[] }])
  fields := #[{ name := "z", type := (.array .int), accessFlags := 16, slot := 0, constantValue := 0 }, { name := "left", type := .int, accessFlags := 0, slot := 1, constantValue := 0 }, { name := "right", type := .int, accessFlags := 0, slot := 2, constantValue := 0 }]
  methods := #[k2m0]
  instanceTypes := #[(.array .int), .int, .int]
  staticTypes := #[]
  resolved := Array.replicate 48 none
  statics := none }

def pool3 : Array CpInfo := pool [(1, .methodref 2 3), (0, .class_ 4), (0, .nameAndType 5 6), (0, u "com/example/zspan/zspan/PrefixWalk"), (0, u "<init>"), (0, u "([I)V"), (0, .fieldref 8 9), (0, .class_ 10), (0, .nameAndType 11 12), (0, u "com/example/zspan/zspan/PrefixWalk$SearchedBytes"), (0, u "pattern"), (0, u "[B"), (0, .fieldref 8 14), (0, .nameAndType 15 12), (0, u "text"), (2, .methodref 19 20), (0, .class_ 21), (0, .nameAndType 22 23), (0, u "java/lang/Math"), (0, u "min"), (0, u "(II)I"), (0, .fieldref 8 25), (0, .nameAndType 26 27), (0, u "head"), (0, u "I"), (0, .fieldref 8 29), (0, .nameAndType 30 27), (0, u "headBits"), (2, u "FOUR"), (0, u "Ljava/lang/invoke/VarHandle;"), (6, .fieldref 8 42), (0, .nameAndType 43 27), (0, u "right"), (0, .fieldref 8 45), (0, .nameAndType 46 47), (0, u "z"), (0, u "[I"), (0, .fieldref 8 49), (0, .nameAndType 50 27), (0, u "left"), (13, u "([I[B[B)V"), (5, u "at")] 7

def k3c0 : Code := { maxStack := 4, maxLocals := 7, code := prog_8_method_1_code, exceptionTable := #[], attributes := #[] }
def k3m0 : Method := { name := "<init>", desc := "([I[B[B)V", sig := { parameters := [(.array .int), (.array .byte), (.array .byte)], returnType := none }, accessFlags := 0, code := some k3c0 }
def k3c1 : Code := { maxStack := 4, maxLocals := 4, code := prog_8_method_3_code, exceptionTable := #[], attributes := #[] }
def k3m1 : Method := { name := "at", desc := "(II)I", sig := { parameters := [.int, .int], returnType := some .int }, accessFlags := 0, code := some k3c1 }
/-- com/example/zspan/zspan/PrefixWalk$SearchedBytes -/
def k3 : Class := { plain "com/example/zspan/zspan/PrefixWalk$SearchedBytes" (some 2) with
  accessFlags := 48
  interfaces := #[]
  cf := some (fileOf pool3 8 #[.nestHost 2] #[{ accessFlags := 0, nameIndex := 5, descriptorIndex := 64, attributes := #[] }, { accessFlags := 0, nameIndex := 70, descriptorIndex := 23, attributes := #[] }] 48 2 #[] #[{ accessFlags := 26, nameIndex := 33, descriptorIndex := 34, attributes := #[] }, { accessFlags := 18, nameIndex := 11, descriptorIndex := 12, attributes := #[] }, { accessFlags := 18, nameIndex := 15, descriptorIndex := 12, attributes := #[] }, { accessFlags := 18, nameIndex := 26, descriptorIndex := 27, attributes := #[] }, { accessFlags := 18, nameIndex := 30, descriptorIndex := 27, attributes := #[] }])
  fields := #[{ name := "FOUR", type := (.object "java/lang/invoke/VarHandle"), accessFlags := 26, slot := 0, constantValue := 0 }, { name := "pattern", type := (.array .byte), accessFlags := 18, slot := 3, constantValue := 0 }, { name := "text", type := (.array .byte), accessFlags := 18, slot := 4, constantValue := 0 }, { name := "head", type := .int, accessFlags := 18, slot := 5, constantValue := 0 }, { name := "headBits", type := .int, accessFlags := 18, slot := 6, constantValue := 0 }]
  methods := #[k3m0, k3m1]
  instanceTypes := #[(.array .int), .int, .int, (.array .byte), (.array .byte), .int, .int]
  staticTypes := #[(.object "java/lang/invoke/VarHandle")]
  resolved := Array.replicate 78 none
  statics := none }

def pool4 : Array CpInfo := pool [(1, .class_ 2), (0, u "java/lang/Math"), (1, .class_ 6), (1, u "java/lang/Object"), (0, u "<init>"), (0, u "()V"), (89, .class_ 100), (1, u "java/lang/Math$RandomNumberGeneratorHolder"), (71, u "negativeZeroFloatBits"), (0, u "J"), (2, u "negativeZeroDoubleBits"), (24, u "min"), (43, u "$assertionsDisabled"), (0, u "Z"), (88, u "(II)I"), (2, u "twoToTheDoubleScaleDown"), (0, u "D"), (4, u "twoToTheDoubleScaleUp"), (9, u "E"), (3, u "PI"), (2, u "TAU"), (2, u "DEGREES_TO_RADIANS"), (0, u "RADIANS_TO_DEGREES")] 94

def k4m0 : Method := { name := "<init>", desc := "()V", sig := { parameters := [], returnType := none }, accessFlags := 2, code := none }
def k4c1 : Code := { maxStack := 2, maxLocals := 2, code := jdk_29_method_69_code, exceptionTable := #[], attributes := #[] }
def k4m1 : Method := { name := "min", desc := "(II)I", sig := { parameters := [.int, .int], returnType := some .int }, accessFlags := 9, code := some k4c1 }
/-- java/lang/Math -/
def k4 : Class := { plain "java/lang/Math" (some 0) with
  accessFlags := 49
  interfaces := #[]
  cf := some (fileOf pool4 1 #[.nestMembers #[98]] #[{ accessFlags := 2, nameIndex := 7, descriptorIndex := 8, attributes := #[] }, { accessFlags := 9, nameIndex := 201, descriptorIndex := 335, attributes := #[] }] 49 4 #[] #[{ accessFlags := 25, nameIndex := 354, descriptorIndex := 339, attributes := #[] }, { accessFlags := 25, nameIndex := 358, descriptorIndex := 339, attributes := #[] }, { accessFlags := 25, nameIndex := 361, descriptorIndex := 339, attributes := #[] }, { accessFlags := 26, nameIndex := 364, descriptorIndex := 339, attributes := #[] }, { accessFlags := 26, nameIndex := 365, descriptorIndex := 339, attributes := #[] }, { accessFlags := 26, nameIndex := 172, descriptorIndex := 173, attributes := #[] }, { accessFlags := 26, nameIndex := 176, descriptorIndex := 173, attributes := #[] }, { accessFlags := 8, nameIndex := 344, descriptorIndex := 339, attributes := #[] }, { accessFlags := 8, nameIndex := 338, descriptorIndex := 339, attributes := #[] }, { accessFlags := 4120, nameIndex := 245, descriptorIndex := 246, attributes := #[] }])
  fields := #[{ name := "E", type := .double, accessFlags := 25, slot := 0, constantValue := 0 }, { name := "PI", type := .double, accessFlags := 25, slot := 1, constantValue := 0 }, { name := "TAU", type := .double, accessFlags := 25, slot := 2, constantValue := 0 }, { name := "DEGREES_TO_RADIANS", type := .double, accessFlags := 26, slot := 3, constantValue := 0 }, { name := "RADIANS_TO_DEGREES", type := .double, accessFlags := 26, slot := 4, constantValue := 0 }, { name := "negativeZeroFloatBits", type := .long, accessFlags := 26, slot := 5, constantValue := 0 }, { name := "negativeZeroDoubleBits", type := .long, accessFlags := 26, slot := 6, constantValue := 0 }, { name := "twoToTheDoubleScaleUp", type := .double, accessFlags := 8, slot := 7, constantValue := 0 }, { name := "twoToTheDoubleScaleDown", type := .double, accessFlags := 8, slot := 8, constantValue := 0 }, { name := "$assertionsDisabled", type := .boolean, accessFlags := 4120, slot := 9, constantValue := 0 }]
  methods := #[k4m0, k4m1]
  instanceTypes := #[]
  staticTypes := #[.double, .double, .double, .double, .double, .long, .long, .double, .double, .boolean]
  resolved := Array.replicate 460 none
  statics := none }

def pool5 : Array CpInfo := pool [(1, u "java/lang/Cloneable"), (0, .class_ 1), (0, u "java/lang/Object"), (0, .class_ 3)] 3

/-- java/lang/Cloneable -/
def k5 : Class := { plain "java/lang/Cloneable" (some 0) with
  accessFlags := 1537
  interfaces := #[]
  cf := some (fileOf pool5 2 #[] #[] 1537 4 #[] #[])
  fields := #[]
  methods := #[]
  instanceTypes := #[]
  staticTypes := #[]
  resolved := Array.replicate 8 none
  statics := none }

def pool6 : Array CpInfo := pool [(1, u "java/io/Serializable"), (0, .class_ 1), (0, u "java/lang/Object"), (0, .class_ 3)] 3

/-- java/io/Serializable -/
def k6 : Class := { plain "java/io/Serializable" (some 0) with
  accessFlags := 1537
  interfaces := #[]
  cf := some (fileOf pool6 2 #[] #[] 1537 4 #[] #[])
  fields := #[]
  methods := #[]
  instanceTypes := #[]
  staticTypes := #[]
  resolved := Array.replicate 8 none
  statics := none }

/-- the primitive byte -/
def k7 : Class := { plain "byte" none with kind := .primitive 'B', accessFlags := 0x411 }
/-- [B -/
def k8 : Class := { plain "[B" (some 0) with kind := .array 7 .byte, interfaces := #[5, 6], accessFlags := 1041 }

/-- the primitive int -/
def k9 : Class := { plain "int" none with kind := .primitive 'I', accessFlags := 0x411 }
/-- [I -/
def k10 : Class := { plain "[I" (some 0) with kind := .array 9 .int, interfaces := #[5, 6], accessFlags := 1041 }

def heap : Heap := #[]
def classes : Array Class := #[k0, k1, k2, k3, k4, k5, k6, k7, k8, k9, k10]
def interned : List (Array UInt16 × Addr) := []
def slotsUsed : Nat := 0
def theMethod : MethodId := ⟨1, 4⟩
def args0 : Array Value := #[.int 5, .int 1, .int 3, .int 7]
def aboutOver (below : List Frame) : State where
  vm := { classes := classes, interned := interned.toArray }
  heap := heap
  slotsUsed := slotsUsed
  threads := #[{ frames := .invoking theMethod args0 :: below }]
def below0 : List Frame := [.native { method := ⟨0, 0⟩, args := #[] }]
def about1 : State := aboutOver below0
def p0 : Program := .bare "" "" ""
def e0 : Env := launch0.env 0 0 0
theorem w_frames : about1.frames = Frame.invoking theMethod args0 :: below0 := rfl
set_option maxRecDepth 65536 in
theorem w_args : argsFit about1.vm theMethod args0 = true := by decide +kernel
set_option maxRecDepth 65536 in
theorem w_heap : heapFits about1 = true := by decide +kernel
set_option maxRecDepth 65536 in
theorem w_runnable : about1.curStatus? = some .runnable := by decide +kernel
set_option maxRecDepth 65536 in
theorem w_alone : about1.alone = true := by decide +kernel
set_option maxRecDepth 65536 in
theorem w_named : about1.methodNamed? x = some theMethod := by decide +kernel
set_option maxRecDepth 65536 in
theorem w_hears : about1.hears theMethod below0 = true := by decide +kernel
set_option maxRecDepth 65536 in
theorem w_ripe : about1.ripe theMethod args0 below0 = true := by decide +kernel
theorem w_running : about1.status = .running := rfl
set_option maxRecDepth 65536 in
theorem w_room : about1.hasRoom e0.platform room_1 = true :=
  launch0.hasRoom_least _ room_1 (by decide +kernel) (by decide +kernel) (by decide +kernel) (by decide +kernel) (by decide +kernel) (by decide +kernel)
theorem allAtoms_all (ts : List Jvm.Cond) (a : Array Jvm.Value) (st : Jvm.State) : (allAtoms ts).before a st = ts.all (fun c => c.before a st) := by
  induction ts with
  | nil => rfl
  | cons c t ih =>
    show (Jvm.Cond.and c (allAtoms t)).before a st = _
    rw [Jvm.Cond.before_and, ih, List.all_cons]
def words1 : List Jvm.Cond := Jvm.Cond.code x code maxLocals ret :: tables_1
/-- a 'code' word, met by the world's own term for the bytes: nothing is compared byte by byte -/
theorem code_word {y : MethodName} {bytes : ByteArray} {mx : Nat} {rt : Option FieldType} {a : Array Value} {s : State} {m : MethodId} {meth : Method} {c : Code} (h1 : s.methodNamed? y = some m) (h2 : s.vm.method? m = some meth) (h3 : meth.code = some c) (h4 : c.code = bytes)
    (h5 : (c.maxLocals == mx && c.exceptionTable.isEmpty && decide (c.maxStack ≤ mostOperands) && decide (meth.sig.returnType = rt) && !meth.locks && decide (parseMethodDescriptor y.desc = some meth.sig)) = true) : (Jvm.Cond.code y bytes mx rt).before a s = true := by
  simp only [Bool.and_eq_true, beq_iff_eq, Bool.not_eq_true', decide_eq_true_eq] at h5
  obtain ⟨⟨⟨⟨⟨g1, g2⟩, g3⟩, g4⟩, g5⟩, g6⟩ := h5
  simp [Cond.before, Cond.holds, Cond.value, h1, h2, h3, h4, g1, g2, g3, g4, g5, g6]
def isCode : Jvm.Cond → Bool
  | .code _ _ _ _ => true
  | _ => false
theorem all_split {L : List Jvm.Cond} {P : Jvm.Cond → Bool} (h1 : L.all (fun c => isCode c || P c) = true) (h2 : ∀ c ∈ L.filter isCode, P c = true) : L.all P = true := by
  refine List.all_eq_true.mpr fun c hc => ?_
  have h := List.all_eq_true.mp h1 c hc
  rcases Bool.eq_false_or_eq_true (isCode c) with hi | hi
  · exact h2 c (List.mem_filter.mpr ⟨hc, hi⟩)
  · simpa [hi] using h
set_option maxRecDepth 65536 in
theorem w_c0 : (Jvm.Cond.code x code maxLocals ret).before args0 about1 = true := code_word (m := ⟨1, 4⟩) (meth := k1m4) (c := k1c4) (by decide +kernel) rfl rfl rfl (by decide +kernel)
set_option maxRecDepth 65536 in
theorem w_c1 : (Jvm.Cond.code ({ cls := "com/example/zspan/zspan/SearchedBytesAtPinLaw", name := "sym", desc := "(IIBB)B" } : Jvm.MethodName) method_2_code (4 : Nat) (Option.some Jvm.ClassFile.FieldType.byte)).before args0 about1 = true := code_word (m := ⟨1, 1⟩) (meth := k1m1) (c := k1c1) (by decide +kernel) rfl rfl rfl (by decide +kernel)
set_option maxRecDepth 65536 in
theorem w_c2 : (Jvm.Cond.code ({ cls := "com/example/zspan/zspan/SearchedBytesAtPinLaw", name := "lcp", desc := "([B[BII)I" } : Jvm.MethodName) method_3_code (5 : Nat) (Option.some Jvm.ClassFile.FieldType.int)).before args0 about1 = true := code_word (m := ⟨1, 2⟩) (meth := k1m2) (c := k1c2) (by decide +kernel) rfl rfl rfl (by decide +kernel)
set_option maxRecDepth 65536 in
theorem w_c3 : (Jvm.Cond.code ({ cls := "com/example/zspan/zspan/PrefixWalk$SearchedBytes", name := "<init>", desc := "([I[B[B)V" } : Jvm.MethodName) prog_8_method_1_code (7 : Nat) (Option.none : Option Jvm.ClassFile.FieldType)).before args0 about1 = true := code_word (m := ⟨3, 0⟩) (meth := k3m0) (c := k3c0) (by decide +kernel) rfl rfl rfl (by decide +kernel)
set_option maxRecDepth 65536 in
theorem w_c4 : (Jvm.Cond.code ({ cls := "com/example/zspan/zspan/PrefixWalk", name := "<init>", desc := "([I)V" } : Jvm.MethodName) prog_4_method_1_code (2 : Nat) (Option.none : Option Jvm.ClassFile.FieldType)).before args0 about1 = true := code_word (m := ⟨2, 0⟩) (meth := k2m0) (c := k2c0) (by decide +kernel) rfl rfl rfl (by decide +kernel)
set_option maxRecDepth 65536 in
theorem w_c5 : (Jvm.Cond.code ({ cls := "java/lang/Object", name := "<init>", desc := "()V" } : Jvm.MethodName) object_method_1_code (1 : Nat) (Option.none : Option Jvm.ClassFile.FieldType)).before args0 about1 = true := code_word (m := ⟨0, 0⟩) (meth := k0m0) (c := k0c0) (by decide +kernel) rfl rfl rfl (by decide +kernel)
set_option maxRecDepth 65536 in
theorem w_c6 : (Jvm.Cond.code ({ cls := "java/lang/Math", name := "min", desc := "(II)I" } : Jvm.MethodName) jdk_29_method_69_code (2 : Nat) (Option.some Jvm.ClassFile.FieldType.int)).before args0 about1 = true := code_word (m := ⟨4, 1⟩) (meth := k4m1) (c := k4c1) (by decide +kernel) rfl rfl rfl (by decide +kernel)
set_option maxRecDepth 65536 in
theorem w_c7 : (Jvm.Cond.code ({ cls := "com/example/zspan/zspan/SearchedBytesAtPinLaw", name := "step", desc := "(Lcom/example/zspan/zspan/PrefixWalk$SearchedBytes;[B[BII)Z" } : Jvm.MethodName) method_4_code (6 : Nat) (Option.some Jvm.ClassFile.FieldType.boolean)).before args0 about1 = true := code_word (m := ⟨1, 3⟩) (meth := k1m3) (c := k1c3) (by decide +kernel) rfl rfl rfl (by decide +kernel)
set_option maxRecDepth 65536 in
theorem w_c8 : (Jvm.Cond.code ({ cls := "com/example/zspan/zspan/PrefixWalk$SearchedBytes", name := "at", desc := "(II)I" } : Jvm.MethodName) prog_8_method_3_code (4 : Nat) (Option.some Jvm.ClassFile.FieldType.int)).before args0 about1 = true := code_word (m := ⟨3, 1⟩) (meth := k3m1) (c := k3c1) (by decide +kernel) rfl rfl rfl (by decide +kernel)
def codes1 : List Jvm.Cond := [Jvm.Cond.code x code maxLocals ret, Jvm.Cond.code ({ cls := "com/example/zspan/zspan/SearchedBytesAtPinLaw", name := "sym", desc := "(IIBB)B" } : Jvm.MethodName) method_2_code (4 : Nat) (Option.some Jvm.ClassFile.FieldType.byte), Jvm.Cond.code ({ cls := "com/example/zspan/zspan/SearchedBytesAtPinLaw", name := "lcp", desc := "([B[BII)I" } : Jvm.MethodName) method_3_code (5 : Nat) (Option.some Jvm.ClassFile.FieldType.int), Jvm.Cond.code ({ cls := "com/example/zspan/zspan/PrefixWalk$SearchedBytes", name := "<init>", desc := "([I[B[B)V" } : Jvm.MethodName) prog_8_method_1_code (7 : Nat) (Option.none : Option Jvm.ClassFile.FieldType), Jvm.Cond.code ({ cls := "com/example/zspan/zspan/PrefixWalk", name := "<init>", desc := "([I)V" } : Jvm.MethodName) prog_4_method_1_code (2 : Nat) (Option.none : Option Jvm.ClassFile.FieldType), Jvm.Cond.code ({ cls := "java/lang/Object", name := "<init>", desc := "()V" } : Jvm.MethodName) object_method_1_code (1 : Nat) (Option.none : Option Jvm.ClassFile.FieldType), Jvm.Cond.code ({ cls := "java/lang/Math", name := "min", desc := "(II)I" } : Jvm.MethodName) jdk_29_method_69_code (2 : Nat) (Option.some Jvm.ClassFile.FieldType.int), Jvm.Cond.code ({ cls := "com/example/zspan/zspan/SearchedBytesAtPinLaw", name := "step", desc := "(Lcom/example/zspan/zspan/PrefixWalk$SearchedBytes;[B[BII)Z" } : Jvm.MethodName) method_4_code (6 : Nat) (Option.some Jvm.ClassFile.FieldType.boolean), Jvm.Cond.code ({ cls := "com/example/zspan/zspan/PrefixWalk$SearchedBytes", name := "at", desc := "(II)I" } : Jvm.MethodName) prog_8_method_3_code (4 : Nat) (Option.some Jvm.ClassFile.FieldType.int)]
set_option maxRecDepth 65536 in
theorem codes_eq : words1.filter isCode = codes1 := rfl
theorem w_codes : ∀ c ∈ words1.filter isCode, c.before args0 about1 = true := by
  rw [codes_eq]
  intro c hc
  simp only [codes1, List.mem_cons, List.not_mem_nil, or_false] at hc
  rcases hc with rfl | rfl | rfl | rfl | rfl | rfl | rfl | rfl | rfl
  · exact w_c0
  · exact w_c1
  · exact w_c2
  · exact w_c3
  · exact w_c4
  · exact w_c5
  · exact w_c6
  · exact w_c7
  · exact w_c8
set_option maxRecDepth 65536 in
theorem w_t1 : (words1.take 24).all (fun c => isCode c || c.before args0 about1) = true := by decide +kernel
set_option maxRecDepth 65536 in
theorem w_t2 : ((words1.drop 24).take 24).all (fun c => isCode c || c.before args0 about1) = true := by decide +kernel
set_option maxRecDepth 65536 in
theorem w_t3 : ((words1.drop 24).drop 24).all (fun c => isCode c || c.before args0 about1) = true := by decide +kernel
theorem w_tables : (allAtoms (Jvm.Cond.code x code maxLocals ret :: tables_1)).before args0 about1 = true := by
  rw [allAtoms_all]
  show words1.all (fun c => c.before args0 about1) = true
  refine all_split ?_ w_codes
  rw [← List.take_append_drop 24 words1, List.all_append, w_t1, ← List.take_append_drop 24 (words1.drop 24), List.all_append, w_t2, w_t3]
  rfl
set_option maxRecDepth 65536 in
theorem w_case : (Jvm.Cond.and given_1 narrow_1).before args0 about1 = true := by decide +kernel
theorem w_applies : (headSpec (Jvm.Cond.code x code maxLocals ret :: tables_1) room_1).applies x e0.platform about1 = true :=
  (Spec.applies_iff w_frames).mpr ⟨w_running, w_runnable, w_alone, w_named, w_hears, w_ripe, w_room, w_tables⟩
theorem atStart : AtStart classFile x code maxLocals ret World_1 tables_1 room_1 Calls_1 rest_1 Pre_1 launch0 p0 e0 about1 theMethod args0 below0 :=
  ⟨lists_1, trivial, launch0.admits_env _ _ _, launch0.least_env, fairChoices_fair.cas, fairChoices_fair.clock, w_frames, w_args, w_heap, w_applies, trivial, trivial, w_case⟩
end start1
theorem witness_1 : WitnessClaimed_1 := ⟨start1.p0, start1.e0, start1.about1, start1.theMethod, start1.args0, start1.below0, start1.atStart⟩
end Jvm.Pilot.@@N@@
