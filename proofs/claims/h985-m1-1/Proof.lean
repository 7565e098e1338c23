import JvmDerived
import JvmDerived.Pilot.@@N@@Statement
import JvmDerived.Pilot.@@N@@Code
set_option linter.unusedVariables false
set_option linter.unusedSimpArgs false
@@BLOCK:NumsL.lean.txt@@
namespace Jvm.Pilot.@@N@@
open Jvm Jvm.ClassFile Sem Op Lib Jvm.Free Jvm.Stand Jvm.LawKit Jvm.RoadKit Bundle Jvm.Pilot.@@N@@.Jvm.D
/-! OWN LAYER (one text for all claims of this seat): a walk's goal with its state hidden ('Go'), one rule an instruction. -/
/-- all that a walk through one body holds fixed -/
abbrev OwnK : Type := Program × Launch × Env × Room × State × MethodId × Array Value × List Frame × Method × Code × Nat × (Option Value → Heap → Prop)
namespace OwnK
abbrev p (K : OwnK) : Program := K.1
abbrev l (K : OwnK) : Launch := K.2.1
abbrev e (K : OwnK) : Env := K.2.2.1
abbrev R (K : OwnK) : Room := K.2.2.2.1
abbrev s (K : OwnK) : State := K.2.2.2.2.1
abbrev m (K : OwnK) : MethodId := K.2.2.2.2.2.1
abbrev args (K : OwnK) : Array Value := K.2.2.2.2.2.2.1
abbrev below (K : OwnK) : List Frame := K.2.2.2.2.2.2.2.1
abbrev meth (K : OwnK) : Method := K.2.2.2.2.2.2.2.2.1
abbrev c (K : OwnK) : Code := K.2.2.2.2.2.2.2.2.2.1
abbrev n0 (K : OwnK) : Nat := K.2.2.2.2.2.2.2.2.2.2.1
abbrev Post (K : OwnK) : Option Value → Heap → Prop := K.2.2.2.2.2.2.2.2.2.2.2
end OwnK
/-- a place of the walk -/
abbrev OwnSt (K : OwnK) (T : State) (locs : List Loc) (cells slots : Nat) : Prop := Stand K.p K.l K.e K.R K.s K.m K.args K.below K.meth K.c T locs cells slots
/-- from this state the run ends as the contract says -/
def OwnDone (K : OwnK) (t : State) : Prop :=
  ∃ s₂ o, Steps K.p.tables K.e K.below t s₂ ∧ s₂.status = .running ∧ Ended s₂ K.below o ∧ ∃ v L, o = .returned v ∧ (Fr K.n0 L ∧ K.Post v s₂.heap) ∧ FrameEnd K.s o s₂ L K.R.cells K.R.slots
/-- from every state at this pc, with these locals, this stack and this heap the run ends as the contract says -/
def Go (K : OwnK) (h : Heap) (cells slots pc : Nat) (Ls : List Slot) (st : List Value) : Prop :=
  ∀ T locs, OwnSt K T locs cells slots → T.heap = h → Fr K.n0 locs → OwnDone K (T.setTop (mkF K.m pc Ls.toArray st))
/-- what the walk through one body may lean on -/
def Cx (K : OwnK) (Z : State) (own name : String) (code : ByteArray) (maxL : Nat) (ret : Option FieldType) (R : Room) (n0 : Nat) (Post : Option Value → Heap → Prop) : Prop :=
  K.p.tables.exec = Jvm.exec ∧ K.c.code = code ∧ K.c.maxLocals = maxL ∧ K.s.vm.findClass own = some K.m.cls ∧ K.meth.name = name ∧ K.meth.sig.returnType = ret ∧ K.meth.locks = false ∧ Z.Warmed39 K.s.vm ∧ K.R = R ∧ K.n0 = n0 ∧ K.Post = Post
/-- a body's contract -/
def OwnMet (l : Launch) (y : MethodName) (bytes : ByteArray) (maxL : Nat) (ret : Option FieldType) (ws : List Jvm.Cond) (rm : Room) (Z : State) (h : Heap) (n0 : Nat) (as : Array Value) (P : Option Value → Heap → Prop) : Prop :=
  MetFree l y (head1 (Jvm.Cond.code y bytes maxL ret :: ws) rm) (fun a U => a = as ∧ Z.Warmed39 U.vm ∧ U.heap = h) (fun _ _ _ _ _ => True) (fun _ U o U' => ∃ v L, o = .returned v ∧ (Fr n0 L ∧ P v U'.heap) ∧ FrameEnd U o U' L rm.cells rm.slots)
theorem own_clamp (n : Int32) : n.toNatClampNeg = n.toInt.toNat := rfl
theorem own_newA (cA : ClassId) (ty : FieldType) (n : Int32) : (newA cA ty n).slots = Array.replicate n.toNatClampNeg (defaultValue ty) := rfl
theorem own_setSlot (c : Cell) (i : Nat) (v : Value) : (c.setSlot i v).slots = c.slots.setIfInBounds i v := rfl
theorem own_dnull (C : String) : defaultValue (.object C) = .null := rfl
section OwnLaws
variable {K : OwnK} {Z : State} {own name : String} {code : ByteArray} {maxL : Nat} {ret : Option FieldType} {R : Room} {n0 : Nat} {Post : Option Value → Heap → Prop} {h : Heap} {cells slots pc : Nat} {Ls Ls' : List Slot} {st rest : List Value} {a0 : Array Value}
theorem OwnDone.of {t t' : State} (k : ∀ target, Steps K.p.tables K.e K.below t' target → Steps K.p.tables K.e K.below t target) (d : OwnDone K t') : OwnDone K t := by
  obtain ⟨s₂, o, h1, r⟩ := d
  exact ⟨s₂, o, k _ h1, r⟩
theorem OwnMet.of {l : Launch} {desc : String} {bytes : ByteArray} {ws : List Jvm.Cond} {as : Array Value} (hp : plainFor (⟨own, name, desc⟩ : MethodName) = true) (ef : ∀ m, entryFrame m as maxL = mkF m 0 Ls.toArray [])
    (go : ∀ K : OwnK, K.l = l → Cx K Z own name bytes maxL ret R n0 Post → Go K h 0 0 0 Ls []) : OwnMet l ⟨own, name, desc⟩ bytes maxL ret ws R Z h n0 as Post := by
  refine MetFree.of_bodySF hp hisR ?_
  intro p e s m args below meth c s₁ Bd hml0 hP hK
  obtain ⟨rfl, hZ, hh⟩ := hP
  have g := go (p, l, e, R, s, m, args, below, meth, c, n0, Post) rfl ⟨Bd.exec, Bd.bytes, hml0, findClass_of_methodNamed Bd.named, (name_of_methodNamed Bd.named Bd.method).1, Bd.returns, Bd.notSynchronized, hZ, rfl, rfl, rfl⟩
  have d := g s₁ [] (Stand.of_body Bd) (by rw [← hh, Bd.state]; rfl) (Fr.nil n0)
  rw [ef m]
  exact d
theorem own_cut0 {A : Prop} (G : Prop) (h1 : G → A) (h2 : G) : A := h1 h2
theorem own_cut1 {α : Type} {A : Prop} (P G : α → Prop) (h1 : (∀ z, P z → G z) → A) (h2 : ∀ z, P z → G z) : A := h1 h2
theorem own_cut2 {α β : Type} {A : Prop} (P G : α → β → Prop) (h1 : (∀ z w, P z w → G z w) → A) (h2 : ∀ z w, P z w → G z w) : A := h1 h2
theorem own_cut3 {α β γ : Type} {A : Prop} (P G : α → β → γ → Prop) (h1 : (∀ z w u, P z w u → G z w u) → A) (h2 : ∀ z w u, P z w u → G z w u) : A := h1 h2
theorem Go.step {pc' : Nat} {st' : List Value} (g : Go K h cells slots pc' Ls' st') (f : ∀ T locs, OwnSt K T locs cells slots → ∀ target, Steps K.p.tables K.e K.below (T.setTop (mkF K.m pc' Ls'.toArray st')) target → Steps K.p.tables K.e K.below (T.setTop (mkF K.m pc Ls.toArray st)) target) : Go K h cells slots pc Ls st :=
  fun T locs X e N => OwnDone.of (f T locs X) (g T locs X e N)
/-! 1. loads, constants, stores -/
theorem w_iload (pc' : Nat) (C : Cx K Z own name code maxL ret R n0 Post) {k : Nat} {v : Int32} (hd : decode code pc = .ok (.iload k, 2)) (hp : pc + 2 = pc') (hl : Ls[k]? = some (.val (.int v))) (g : Go K h cells slots pc' Ls (.int v :: st)) : Go K h cells slots pc Ls st := by
  subst hp; exact g.step fun T locs X t q => XS.iload X.here C.1 rfl (hb C.2.1 hd) (by simpa using hl) q
theorem w_iloadN (pc' : Nat) (C : Cx K Z own name code maxL ret R n0 Post) {k : Fin 4} {v : Int32} (hd : decode code pc = .ok (.iload_n k, 1)) (hp : pc + 1 = pc') (hl : Ls[k.val]? = some (.val (.int v))) (g : Go K h cells slots pc' Ls (.int v :: st)) : Go K h cells slots pc Ls st := by
  subst hp; exact g.step fun T locs X t q => XS.iloadN X.here C.1 rfl (hb C.2.1 hd) (by simpa using hl) q
theorem w_lload (pc' : Nat) (C : Cx K Z own name code maxL ret R n0 Post) {k : Nat} {v : Int64} (hd : decode code pc = .ok (.lload k, 2)) (hp : pc + 2 = pc') (hl : Ls[k]? = some (.val (.long v))) (g : Go K h cells slots pc' Ls (.long v :: st)) : Go K h cells slots pc Ls st := by
  subst hp; exact g.step fun T locs X t q => XS.lload X.here C.1 rfl (hb C.2.1 hd) (by simpa using hl) q
theorem w_lloadN (pc' : Nat) (C : Cx K Z own name code maxL ret R n0 Post) {k : Fin 4} {v : Int64} (hd : decode code pc = .ok (.lload_n k, 1)) (hp : pc + 1 = pc') (hl : Ls[k.val]? = some (.val (.long v))) (g : Go K h cells slots pc' Ls (.long v :: st)) : Go K h cells slots pc Ls st := by
  subst hp; exact g.step fun T locs X t q => XS.lloadN X.here C.1 rfl (hb C.2.1 hd) (by simpa using hl) q
theorem w_aload (pc' : Nat) (C : Cx K Z own name code maxL ret R n0 Post) {k : Nat} {v : Value} (hd : decode code pc = .ok (.aload k, 2)) (hp : pc + 2 = pc') (hl : Ls[k]? = some (.val v)) (hv : v.isRef = true) (g : Go K h cells slots pc' Ls (v :: st)) : Go K h cells slots pc Ls st := by
  subst hp; exact g.step fun T locs X t q => XS.aload X.here C.1 rfl (hb C.2.1 hd) (by simpa using hl) hv q
theorem w_aloadN (pc' : Nat) (C : Cx K Z own name code maxL ret R n0 Post) {k : Fin 4} {v : Value} (hd : decode code pc = .ok (.aload_n k, 1)) (hp : pc + 1 = pc') (hl : Ls[k.val]? = some (.val v)) (hv : v.isRef = true) (g : Go K h cells slots pc' Ls (v :: st)) : Go K h cells slots pc Ls st := by
  subst hp; exact g.step fun T locs X t q => XS.aloadN X.here C.1 rfl (hb C.2.1 hd) (by simpa using hl) hv q
theorem w_iconst (pc' : Nat) (n : Int32) (C : Cx K Z own name code maxL ret R n0 Post) {i : Int} (hd : decode code pc = .ok (.iconst i, 1)) (hp : pc + 1 = pc') (hn : Int32.ofInt i = n) (g : Go K h cells slots pc' Ls (.int n :: st)) : Go K h cells slots pc Ls st := by
  subst hp hn; exact g.step fun T locs X t q => XS.iconst X.here C.1 rfl (hb C.2.1 hd) q
theorem w_bipush (pc' : Nat) (n : Int32) (C : Cx K Z own name code maxL ret R n0 Post) {i : Int} (hd : decode code pc = .ok (.bipush i, 2)) (hp : pc + 2 = pc') (hn : (Int8.ofInt i).toInt32 = n) (g : Go K h cells slots pc' Ls (.int n :: st)) : Go K h cells slots pc Ls st := by
  subst hp hn; exact g.step fun T locs X t q => XS.bipush X.here C.1 rfl (hb C.2.1 hd) q
theorem w_sipush (pc' : Nat) (n : Int32) (C : Cx K Z own name code maxL ret R n0 Post) {i : Int} (hd : decode code pc = .ok (.sipush i, 3)) (hp : pc + 3 = pc') (hn : (Int16.ofInt i).toInt32 = n) (g : Go K h cells slots pc' Ls (.int n :: st)) : Go K h cells slots pc Ls st := by
  subst hp hn; exact g.step fun T locs X t q => XS.sipush X.here C.1 rfl (hb C.2.1 hd) q
theorem w_lconst (pc' : Nat) (n : Int64) (C : Cx K Z own name code maxL ret R n0 Post) {k : Fin 2} (hd : decode code pc = .ok (.lconst k, 1)) (hp : pc + 1 = pc') (hn : Int64.ofNat k = n) (g : Go K h cells slots pc' Ls (.long n :: st)) : Go K h cells slots pc Ls st := by
  subst hp hn; exact g.step fun T locs X t q => XS.lconst X.here C.1 rfl (hb C.2.1 hd) q
theorem w_null (pc' : Nat) (C : Cx K Z own name code maxL ret R n0 Post) (hd : decode code pc = .ok (.aconst_null, 1)) (hp : pc + 1 = pc') (g : Go K h cells slots pc' Ls (.null :: st)) : Go K h cells slots pc Ls st := by
  subst hp; exact g.step fun T locs X t q => XS.aconstNull X.here C.1 rfl (hb C.2.1 hd) q
theorem w_ldc (pc' : Nat) (C : Cx K Z own name code maxL ret R n0 Post) {i : Nat} {v : Int32} (hd : decode code pc = .ok (.ldc i, 2)) (hp : pc + 2 = pc') (w : (Cond.constant own i v).before a0 Z = true) (g : Go K h cells slots pc' Ls (.int v :: st)) : Go K h cells slots pc Ls st := by
  subst hp; exact g.step fun T locs X t q => X.ldcInt C.1 C.2.2.2.1 (mvT C.2.2.2.2.2.2.2.1 w) (g := mkF K.m pc Ls.toArray st) rfl (hb C.2.1 hd) _ q
theorem w_ldcw (pc' : Nat) (C : Cx K Z own name code maxL ret R n0 Post) {i : Nat} {v : Int32} (hd : decode code pc = .ok (.ldc_w i, 3)) (hp : pc + 3 = pc') (w : (Cond.constant own i v).before a0 Z = true) (g : Go K h cells slots pc' Ls (.int v :: st)) : Go K h cells slots pc Ls st := by
  subst hp; exact g.step fun T locs X t q => X.ldcwInt C.1 C.2.2.2.1 (mvT C.2.2.2.2.2.2.2.1 w) (g := mkF K.m pc Ls.toArray st) rfl (hb C.2.1 hd) _ q
theorem w_ldc2 (pc' : Nat) (C : Cx K Z own name code maxL ret R n0 Post) {i : Nat} {v : Int64} (hd : decode code pc = .ok (.ldc2_w i, 3)) (hp : pc + 3 = pc') (w : (Cond.constantLong own i v).before a0 Z = true) (g : Go K h cells slots pc' Ls (.long v :: st)) : Go K h cells slots pc Ls st := by
  subst hp; exact g.step fun T locs X t q => X.ldc2Long C.1 C.2.2.2.1 (mvT C.2.2.2.2.2.2.2.1 w) (g := mkF K.m pc Ls.toArray st) rfl (hb C.2.1 hd) _ q
theorem w_istore (pc' : Nat) (Ls' : List Slot) (C : Cx K Z own name code maxL ret R n0 Post) {k : Nat} {x : Int32} (hd : decode code pc = .ok (.istore k, 2)) (hp : pc + 2 = pc') (hl : storeLocals Ls.toArray k (.int x) = some Ls'.toArray) (g : Go K h cells slots pc' Ls' st) : Go K h cells slots pc Ls (.int x :: st) := by
  subst hp; exact g.step fun T locs X t q => XS.istore X.here C.1 rfl (hb C.2.1 hd) rfl hl q
theorem w_istoreN (pc' : Nat) (Ls' : List Slot) (C : Cx K Z own name code maxL ret R n0 Post) {k : Fin 4} {x : Int32} (hd : decode code pc = .ok (.istore_n k, 1)) (hp : pc + 1 = pc') (hl : storeLocals Ls.toArray k.val (.int x) = some Ls'.toArray) (g : Go K h cells slots pc' Ls' st) : Go K h cells slots pc Ls (.int x :: st) := by
  subst hp; exact g.step fun T locs X t q => XS.istoreN X.here C.1 rfl (hb C.2.1 hd) rfl hl q
theorem w_lstore (pc' : Nat) (Ls' : List Slot) (C : Cx K Z own name code maxL ret R n0 Post) {k : Nat} {x : Int64} (hd : decode code pc = .ok (.lstore k, 2)) (hp : pc + 2 = pc') (hl : storeLocals Ls.toArray k (.long x) = some Ls'.toArray) (g : Go K h cells slots pc' Ls' st) : Go K h cells slots pc Ls (.long x :: st) := by
  subst hp; exact g.step fun T locs X t q => XS.lstore X.here C.1 rfl (hb C.2.1 hd) rfl hl q
theorem w_lstoreN (pc' : Nat) (Ls' : List Slot) (C : Cx K Z own name code maxL ret R n0 Post) {k : Fin 4} {x : Int64} (hd : decode code pc = .ok (.lstore_n k, 1)) (hp : pc + 1 = pc') (hl : storeLocals Ls.toArray k.val (.long x) = some Ls'.toArray) (g : Go K h cells slots pc' Ls' st) : Go K h cells slots pc Ls (.long x :: st) := by
  subst hp; exact g.step fun T locs X t q => XS.lstoreN X.here C.1 rfl (hb C.2.1 hd) rfl hl q
theorem w_astore (pc' : Nat) (Ls' : List Slot) (C : Cx K Z own name code maxL ret R n0 Post) {k : Nat} {x : Value} (hd : decode code pc = .ok (.astore k, 2)) (hp : pc + 2 = pc') (hv : x.isRef = true) (hl : storeLocals Ls.toArray k x = some Ls'.toArray) (g : Go K h cells slots pc' Ls' st) : Go K h cells slots pc Ls (x :: st) := by
  subst hp; exact g.step fun T locs X t q => XS.astore X.here C.1 rfl (hb C.2.1 hd) rfl hv hl q
theorem w_astoreN (pc' : Nat) (Ls' : List Slot) (C : Cx K Z own name code maxL ret R n0 Post) {k : Fin 4} {x : Value} (hd : decode code pc = .ok (.astore_n k, 1)) (hp : pc + 1 = pc') (hv : x.isRef = true) (hl : storeLocals Ls.toArray k.val x = some Ls'.toArray) (g : Go K h cells slots pc' Ls' st) : Go K h cells slots pc Ls (x :: st) := by
  subst hp; exact g.step fun T locs X t q => XS.astoreN X.here C.1 rfl (hb C.2.1 hd) rfl hv hl q
theorem w_iinc (pc' : Nat) (Ls' : List Slot) (C : Cx K Z own name code maxL ret R n0 Post) {k : Nat} {cst : Int} {x z : Int32} (hd : decode code pc = .ok (.iinc k cst, 3)) (hp : pc + 3 = pc') (hl : Ls[k]? = some (.val (.int x))) (hz : x + Int32.ofInt cst = z) (hs : storeLocals Ls.toArray k (.int z) = some Ls'.toArray) (g : Go K h cells slots pc' Ls' st) : Go K h cells slots pc Ls st := by
  subst hp hz; exact g.step fun T locs X t q => XS.iinc X.here C.1 rfl (hb C.2.1 hd) (by simpa using hl) hs q
/-! 2. arithmetic -/
theorem w_iadd (pc' : Nat) (C : Cx K Z own name code maxL ret R n0 Post) {x y : Int32} (hd : decode code pc = .ok (.iadd, 1)) (hp : pc + 1 = pc') (g : Go K h cells slots pc' Ls (.int (x + y) :: st)) : Go K h cells slots pc Ls (.int y :: .int x :: st) := by
  subst hp; exact g.step fun T locs X t q => XS.iadd X.here C.1 rfl (hb C.2.1 hd) rfl q
theorem w_isub (pc' : Nat) (C : Cx K Z own name code maxL ret R n0 Post) {x y : Int32} (hd : decode code pc = .ok (.isub, 1)) (hp : pc + 1 = pc') (g : Go K h cells slots pc' Ls (.int (x - y) :: st)) : Go K h cells slots pc Ls (.int y :: .int x :: st) := by
  subst hp; exact g.step fun T locs X t q => XS.isub X.here C.1 rfl (hb C.2.1 hd) rfl q
theorem w_imul (pc' : Nat) (C : Cx K Z own name code maxL ret R n0 Post) {x y : Int32} (hd : decode code pc = .ok (.imul, 1)) (hp : pc + 1 = pc') (g : Go K h cells slots pc' Ls (.int (x * y) :: st)) : Go K h cells slots pc Ls (.int y :: .int x :: st) := by
  subst hp; exact g.step fun T locs X t q => XS.imul X.here C.1 rfl (hb C.2.1 hd) rfl q
theorem w_iand (pc' : Nat) (C : Cx K Z own name code maxL ret R n0 Post) {x y : Int32} (hd : decode code pc = .ok (.iand, 1)) (hp : pc + 1 = pc') (g : Go K h cells slots pc' Ls (.int (x &&& y) :: st)) : Go K h cells slots pc Ls (.int y :: .int x :: st) := by
  subst hp; exact g.step fun T locs X t q => XS.iand X.here C.1 rfl (hb C.2.1 hd) rfl q
theorem w_ior (pc' : Nat) (C : Cx K Z own name code maxL ret R n0 Post) {x y : Int32} (hd : decode code pc = .ok (.ior, 1)) (hp : pc + 1 = pc') (g : Go K h cells slots pc' Ls (.int (x ||| y) :: st)) : Go K h cells slots pc Ls (.int y :: .int x :: st) := by
  subst hp; exact g.step fun T locs X t q => XS.ior X.here C.1 rfl (hb C.2.1 hd) rfl q
theorem w_ixor (pc' : Nat) (C : Cx K Z own name code maxL ret R n0 Post) {x y : Int32} (hd : decode code pc = .ok (.ixor, 1)) (hp : pc + 1 = pc') (g : Go K h cells slots pc' Ls (.int (x ^^^ y) :: st)) : Go K h cells slots pc Ls (.int y :: .int x :: st) := by
  subst hp; exact g.step fun T locs X t q => XS.ixor X.here C.1 rfl (hb C.2.1 hd) rfl q
theorem w_ishl (pc' : Nat) (C : Cx K Z own name code maxL ret R n0 Post) {x y : Int32} (hd : decode code pc = .ok (.ishl, 1)) (hp : pc + 1 = pc') (g : Go K h cells slots pc' Ls (.int (x <<< (y &&& 31)) :: st)) : Go K h cells slots pc Ls (.int y :: .int x :: st) := by
  subst hp; exact g.step fun T locs X t q => XS.ishl X.here C.1 rfl (hb C.2.1 hd) rfl q
theorem w_ishr (pc' : Nat) (C : Cx K Z own name code maxL ret R n0 Post) {x y : Int32} (hd : decode code pc = .ok (.ishr, 1)) (hp : pc + 1 = pc') (g : Go K h cells slots pc' Ls (.int (x >>> (y &&& 31)) :: st)) : Go K h cells slots pc Ls (.int y :: .int x :: st) := by
  subst hp; exact g.step fun T locs X t q => XS.ishr X.here C.1 rfl (hb C.2.1 hd) rfl q
theorem w_iushr (pc' : Nat) (C : Cx K Z own name code maxL ret R n0 Post) {x y : Int32} (hd : decode code pc = .ok (.iushr, 1)) (hp : pc + 1 = pc') (g : Go K h cells slots pc' Ls (.int ((x.toUInt32 >>> (y &&& 31).toUInt32).toInt32) :: st)) : Go K h cells slots pc Ls (.int y :: .int x :: st) := by
  subst hp; exact g.step fun T locs X t q => XS.iushr X.here C.1 rfl (hb C.2.1 hd) rfl q
theorem w_ladd (pc' : Nat) (C : Cx K Z own name code maxL ret R n0 Post) {x y : Int64} (hd : decode code pc = .ok (.ladd, 1)) (hp : pc + 1 = pc') (g : Go K h cells slots pc' Ls (.long (x + y) :: st)) : Go K h cells slots pc Ls (.long y :: .long x :: st) := by
  subst hp; exact g.step fun T locs X t q => XS.ladd X.here C.1 rfl (hb C.2.1 hd) rfl q
theorem w_lsub (pc' : Nat) (C : Cx K Z own name code maxL ret R n0 Post) {x y : Int64} (hd : decode code pc = .ok (.lsub, 1)) (hp : pc + 1 = pc') (g : Go K h cells slots pc' Ls (.long (x - y) :: st)) : Go K h cells slots pc Ls (.long y :: .long x :: st) := by
  subst hp; exact g.step fun T locs X t q => XS.lsub X.here C.1 rfl (hb C.2.1 hd) rfl q
theorem w_lmul (pc' : Nat) (C : Cx K Z own name code maxL ret R n0 Post) {x y : Int64} (hd : decode code pc = .ok (.lmul, 1)) (hp : pc + 1 = pc') (g : Go K h cells slots pc' Ls (.long (x * y) :: st)) : Go K h cells slots pc Ls (.long y :: .long x :: st) := by
  subst hp; exact g.step fun T locs X t q => XS.lmul X.here C.1 rfl (hb C.2.1 hd) rfl q
theorem w_land (pc' : Nat) (C : Cx K Z own name code maxL ret R n0 Post) {x y : Int64} (hd : decode code pc = .ok (.land, 1)) (hp : pc + 1 = pc') (g : Go K h cells slots pc' Ls (.long (x &&& y) :: st)) : Go K h cells slots pc Ls (.long y :: .long x :: st) := by
  subst hp; exact g.step fun T locs X t q => XS.land X.here C.1 rfl (hb C.2.1 hd) rfl q
theorem w_lor (pc' : Nat) (C : Cx K Z own name code maxL ret R n0 Post) {x y : Int64} (hd : decode code pc = .ok (.lor, 1)) (hp : pc + 1 = pc') (g : Go K h cells slots pc' Ls (.long (x ||| y) :: st)) : Go K h cells slots pc Ls (.long y :: .long x :: st) := by
  subst hp; exact g.step fun T locs X t q => XS.lor X.here C.1 rfl (hb C.2.1 hd) rfl q
theorem w_lxor (pc' : Nat) (C : Cx K Z own name code maxL ret R n0 Post) {x y : Int64} (hd : decode code pc = .ok (.lxor, 1)) (hp : pc + 1 = pc') (g : Go K h cells slots pc' Ls (.long (x ^^^ y) :: st)) : Go K h cells slots pc Ls (.long y :: .long x :: st) := by
  subst hp; exact g.step fun T locs X t q => XS.lxor X.here C.1 rfl (hb C.2.1 hd) rfl q
theorem w_lshl (pc' : Nat) (C : Cx K Z own name code maxL ret R n0 Post) {x : Int64} {y : Int32} (hd : decode code pc = .ok (.lshl, 1)) (hp : pc + 1 = pc') (g : Go K h cells slots pc' Ls (.long (x <<< (y &&& 0x3f).toInt64) :: st)) : Go K h cells slots pc Ls (.int y :: .long x :: st) := by
  subst hp; exact g.step fun T locs X t q => XS.lshl X.here C.1 rfl (hb C.2.1 hd) rfl q
theorem w_lshr (pc' : Nat) (C : Cx K Z own name code maxL ret R n0 Post) {x : Int64} {y : Int32} (hd : decode code pc = .ok (.lshr, 1)) (hp : pc + 1 = pc') (g : Go K h cells slots pc' Ls (.long (x >>> (y &&& 0x3f).toInt64) :: st)) : Go K h cells slots pc Ls (.int y :: .long x :: st) := by
  subst hp; exact g.step fun T locs X t q => XS.lshr X.here C.1 rfl (hb C.2.1 hd) rfl q
theorem w_lushr (pc' : Nat) (C : Cx K Z own name code maxL ret R n0 Post) {x : Int64} {y : Int32} (hd : decode code pc = .ok (.lushr, 1)) (hp : pc + 1 = pc') (g : Go K h cells slots pc' Ls (.long ((x.toUInt64 >>> (y &&& 0x3f).toInt64.toUInt64).toInt64) :: st)) : Go K h cells slots pc Ls (.int y :: .long x :: st) := by
  subst hp; exact g.step fun T locs X t q => XS.lushr X.here C.1 rfl (hb C.2.1 hd) rfl q
theorem w_ineg (pc' : Nat) (C : Cx K Z own name code maxL ret R n0 Post) {x : Int32} (hd : decode code pc = .ok (.ineg, 1)) (hp : pc + 1 = pc') (g : Go K h cells slots pc' Ls (.int (-x) :: st)) : Go K h cells slots pc Ls (.int x :: st) := by
  subst hp; exact g.step fun T locs X t q => XS.ineg X.here C.1 rfl (hb C.2.1 hd) rfl q
theorem w_lneg (pc' : Nat) (C : Cx K Z own name code maxL ret R n0 Post) {x : Int64} (hd : decode code pc = .ok (.lneg, 1)) (hp : pc + 1 = pc') (g : Go K h cells slots pc' Ls (.long (-x) :: st)) : Go K h cells slots pc Ls (.long x :: st) := by
  subst hp; exact g.step fun T locs X t q => XS.lneg X.here C.1 rfl (hb C.2.1 hd) rfl q
theorem w_i2l (pc' : Nat) (C : Cx K Z own name code maxL ret R n0 Post) {x : Int32} (hd : decode code pc = .ok (.i2l, 1)) (hp : pc + 1 = pc') (g : Go K h cells slots pc' Ls (.long (x.toInt64) :: st)) : Go K h cells slots pc Ls (.int x :: st) := by
  subst hp; exact g.step fun T locs X t q => XS.i2l X.here C.1 rfl (hb C.2.1 hd) rfl q
theorem w_l2i (pc' : Nat) (C : Cx K Z own name code maxL ret R n0 Post) {x : Int64} (hd : decode code pc = .ok (.l2i, 1)) (hp : pc + 1 = pc') (g : Go K h cells slots pc' Ls (.int (x.toInt32) :: st)) : Go K h cells slots pc Ls (.long x :: st) := by
  subst hp; exact g.step fun T locs X t q => XS.l2i X.here C.1 rfl (hb C.2.1 hd) rfl q
theorem w_i2b (pc' : Nat) (C : Cx K Z own name code maxL ret R n0 Post) {x : Int32} (hd : decode code pc = .ok (.i2b, 1)) (hp : pc + 1 = pc') (g : Go K h cells slots pc' Ls (.int (x.toInt8.toInt32) :: st)) : Go K h cells slots pc Ls (.int x :: st) := by
  subst hp; exact g.step fun T locs X t q => XS.i2b X.here C.1 rfl (hb C.2.1 hd) rfl q
theorem w_i2s (pc' : Nat) (C : Cx K Z own name code maxL ret R n0 Post) {x : Int32} (hd : decode code pc = .ok (.i2s, 1)) (hp : pc + 1 = pc') (g : Go K h cells slots pc' Ls (.int (x.toInt16.toInt32) :: st)) : Go K h cells slots pc Ls (.int x :: st) := by
  subst hp; exact g.step fun T locs X t q => XS.i2s X.here C.1 rfl (hb C.2.1 hd) rfl q
theorem w_i2c (pc' : Nat) (C : Cx K Z own name code maxL ret R n0 Post) {x : Int32} (hd : decode code pc = .ok (.i2c, 1)) (hp : pc + 1 = pc') (g : Go K h cells slots pc' Ls (.int (x.toUInt32.toUInt16.toUInt32.toInt32) :: st)) : Go K h cells slots pc Ls (.int x :: st) := by
  subst hp; exact g.step fun T locs X t q => XS.i2c X.here C.1 rfl (hb C.2.1 hd) rfl q
theorem w_idiv (pc' : Nat) (C : Cx K Z own name code maxL ret R n0 Post) {x y : Int32} (hd : decode code pc = .ok (.idiv, 1)) (hp : pc + 1 = pc') (hy : y ≠ 0) (g : Go K h cells slots pc' Ls (.int (x / y) :: st)) : Go K h cells slots pc Ls (.int y :: .int x :: st) := by
  subst hp; exact g.step fun T locs X t q => XS.idiv X.here C.1 rfl (hb C.2.1 hd) rfl hy q
theorem w_ldiv (pc' : Nat) (C : Cx K Z own name code maxL ret R n0 Post) {x y : Int64} (hd : decode code pc = .ok (.ldiv, 1)) (hp : pc + 1 = pc') (hy : y ≠ 0) (g : Go K h cells slots pc' Ls (.long (x / y) :: st)) : Go K h cells slots pc Ls (.long y :: .long x :: st) := by
  subst hp; exact g.step fun T locs X t q => XS.ldiv X.here C.1 rfl (hb C.2.1 hd) rfl hy q
theorem w_irem (pc' : Nat) (C : Cx K Z own name code maxL ret R n0 Post) {x y : Int32} (hd : decode code pc = .ok (.irem, 1)) (hp : pc + 1 = pc') (hy : y ≠ 0) (g : Go K h cells slots pc' Ls (.int (x % y) :: st)) : Go K h cells slots pc Ls (.int y :: .int x :: st) := by
  subst hp; exact g.step fun T locs X t q => iremM (g := mkF K.m pc Ls.toArray (.int y :: .int x :: st)) X C.1 rfl (hb C.2.1 hd) rfl hy q
theorem own_lrem (x y : Int64) : x - x / y * y = x % y := by
  apply Int64.toInt_inj.mp
  rw [Int64.toInt_sub, Int64.toInt_mul, Int64.toInt_div, Int64.toInt_mod, Int.tmod_def]
  have h1 := x.le_toInt; have h2 := x.toInt_lt
  have q : ((x.toInt.tdiv y.toInt).bmod (2 ^ 64) * y.toInt).bmod (2 ^ 64) = (x.toInt.tdiv y.toInt * y.toInt).bmod (2 ^ 64) := by rw [Int.bmod_mul_bmod]
  rw [q, Int.sub_bmod_bmod]
  rw [show x.toInt - x.toInt.tdiv y.toInt * y.toInt = x.toInt - y.toInt * x.toInt.tdiv y.toInt from by rw [Int.mul_comm], ← Int.tmod_def]
  have h3 : (x.toInt.tmod y.toInt).natAbs ≤ x.toInt.natAbs := by rw [Int.natAbs_tmod]; exact Nat.mod_le _ _
  have h4 := Int.tmod_nonneg (a := x.toInt) y.toInt
  have h5 := Int.tmod_nonneg (a := -x.toInt) y.toInt
  rw [Int.neg_tmod] at h5
  apply Int.bmod_eq_of_le <;> omega
theorem w_lrem (pc' : Nat) (C : Cx K Z own name code maxL ret R n0 Post) {x y : Int64} (hd : decode code pc = .ok (.lrem, 1)) (hp : pc + 1 = pc') (hy : y ≠ 0) (g : Go K h cells slots pc' Ls (.long (x % y) :: st)) : Go K h cells slots pc Ls (.long y :: .long x :: st) := by
  subst hp; exact g.step fun T locs X t q => XS.lrem X.here C.1 rfl (hb C.2.1 hd) rfl hy (by rw [own_lrem]; exact q)
theorem w_dup (pc' : Nat) (C : Cx K Z own name code maxL ret R n0 Post) {x : Value} (hd : decode code pc = .ok (.dup, 1)) (hp : pc + 1 = pc') (hc : x.category = 1) (g : Go K h cells slots pc' Ls (x :: x :: st)) : Go K h cells slots pc Ls (x :: st) := by
  subst hp; exact g.step fun T locs X t q => XS.dup X.here C.1 rfl (hb C.2.1 hd) rfl hc q
theorem w_pop (pc' : Nat) (C : Cx K Z own name code maxL ret R n0 Post) {x : Value} (hd : decode code pc = .ok (.pop, 1)) (hp : pc + 1 = pc') (hc : x.category = 1) (g : Go K h cells slots pc' Ls st) : Go K h cells slots pc Ls (x :: st) := by
  subst hp; exact g.step fun T locs X t q => XS.pop X.here C.1 rfl (hb C.2.1 hd) rfl hc q
theorem w_dupX1 (pc' : Nat) (C : Cx K Z own name code maxL ret R n0 Post) {x y : Value} (hd : decode code pc = .ok (.dup_x1, 1)) (hp : pc + 1 = pc') (hc : x.category = 1) (hc' : y.category = 1) (g : Go K h cells slots pc' Ls (x :: y :: x :: st)) : Go K h cells slots pc Ls (x :: y :: st) := by
  subst hp; exact g.step fun T locs X t q => XS.dupX1 X.here C.1 rfl (hb C.2.1 hd) rfl hc hc' q
/-! 3. jumps -/
theorem w_goto (pc' : Nat) (C : Cx K Z own name code maxL ret R n0 Post) {o : Int} (hd : decode code pc = .ok (.goto o, 3)) (hp : (pc : Int) + o = (pc' : Nat)) (g : Go K h cells slots pc' Ls st) : Go K h cells slots pc Ls st :=
  g.step fun T locs X t q => XS.goto X.here C.1 rfl (pc0 := pc) (pc' := pc') rfl (hb C.2.1 hd) (by omega) (by omega) q
/-- what a comparison asks, in plain words -/
def cP : ClassFile.Cond → Int32 → Int32 → Prop
  | .eq, x, y => x = y
  | .ne, x, y => ¬ (x = y)
  | .lt, x, y => x.toInt < y.toInt
  | .ge, x, y => y.toInt ≤ x.toInt
  | .gt, x, y => y.toInt < x.toInt
  | .le, x, y => x.toInt ≤ y.toInt
theorem own_icmpT {cd : ClassFile.Cond} {x y : Int32} (q : cP cd x y) : if_icmp.holds cd x y = true := by
  cases cd <;> simp only [cP] at q <;> simp [if_icmp.holds, Int32.lt_iff_toInt_lt, Int32.le_iff_toInt_le] <;> first | exact q | omega
theorem own_icmpF {cd : ClassFile.Cond} {x y : Int32} (q : ¬ cP cd x y) : if_icmp.holds cd x y = false := by
  cases cd <;> simp only [cP] at q <;> simp [if_icmp.holds, Int32.lt_iff_toInt_lt, Int32.le_iff_toInt_le] <;> first | exact q | omega | (simpa using q)
theorem w_icmpY (pc' : Nat) (C : Cx K Z own name code maxL ret R n0 Post) {cd : ClassFile.Cond} {x y : Int32} {o : Int} (hd : decode code pc = .ok (.if_icmp cd o, 3)) (hp : (pc : Int) + o = (pc' : Nat)) (q : cP cd x y) (g : Go K h cells slots pc' Ls st) : Go K h cells slots pc Ls (.int y :: .int x :: st) :=
  g.step fun T locs X t k => XS.icmpYes X.here C.1 rfl (pc0 := pc) (pc' := pc') rfl (hb C.2.1 hd) rfl (own_icmpT q) (by omega) (by omega) k
theorem w_icmpN (pc' : Nat) (C : Cx K Z own name code maxL ret R n0 Post) {cd : ClassFile.Cond} {x y : Int32} {o : Int} (hd : decode code pc = .ok (.if_icmp cd o, 3)) (hp : pc + 3 = pc') (q : ¬ cP cd x y) (g : Go K h cells slots pc' Ls st) : Go K h cells slots pc Ls (.int y :: .int x :: st) := by
  subst hp; exact g.step fun T locs X t k => XS.icmpNo X.here C.1 rfl (hb C.2.1 hd) rfl (own_icmpF q) k
theorem w_icmp (pcY pcN : Nat) (C : Cx K Z own name code maxL ret R n0 Post) {cd : ClassFile.Cond} {x y : Int32} {o : Int} (hd : decode code pc = .ok (.if_icmp cd o, 3)) (hp : (pc : Int) + o = (pcY : Nat)) (hn : pc + 3 = pcN) (gY : cP cd x y → Go K h cells slots pcY Ls st) (gN : ¬ cP cd x y → Go K h cells slots pcN Ls st) : Go K h cells slots pc Ls (.int y :: .int x :: st) := by
  by_cases q : cP cd x y
  · exact w_icmpY pcY C hd hp q (gY q)
  · exact w_icmpN pcN C hd hn q (gN q)
theorem w_ifY (pc' : Nat) (C : Cx K Z own name code maxL ret R n0 Post) {cd : ClassFile.Cond} {x : Int32} {o : Int} (hd : decode code pc = .ok (.ifCond cd o, 3)) (hp : (pc : Int) + o = (pc' : Nat)) (q : cP cd x 0) (g : Go K h cells slots pc' Ls st) : Go K h cells slots pc Ls (.int x :: st) :=
  g.step fun T locs X t k => XS.ifYes X.here C.1 rfl (pc0 := pc) (pc' := pc') rfl (hb C.2.1 hd) rfl ((if0 _ _).trans (own_icmpT q)) (by omega) (by omega) k
theorem w_ifN (pc' : Nat) (C : Cx K Z own name code maxL ret R n0 Post) {cd : ClassFile.Cond} {x : Int32} {o : Int} (hd : decode code pc = .ok (.ifCond cd o, 3)) (hp : pc + 3 = pc') (q : ¬ cP cd x 0) (g : Go K h cells slots pc' Ls st) : Go K h cells slots pc Ls (.int x :: st) := by
  subst hp; exact g.step fun T locs X t k => XS.ifNo X.here C.1 rfl (hb C.2.1 hd) rfl ((if0 _ _).trans (own_icmpF q)) k
theorem w_if (pcY pcN : Nat) (C : Cx K Z own name code maxL ret R n0 Post) {cd : ClassFile.Cond} {x : Int32} {o : Int} (hd : decode code pc = .ok (.ifCond cd o, 3)) (hp : (pc : Int) + o = (pcY : Nat)) (hn : pc + 3 = pcN) (gY : cP cd x 0 → Go K h cells slots pcY Ls st) (gN : ¬ cP cd x 0 → Go K h cells slots pcN Ls st) : Go K h cells slots pc Ls (.int x :: st) := by
  by_cases q : cP cd x 0
  · exact w_ifY pcY C hd hp q (gY q)
  · exact w_ifN pcN C hd hn q (gN q)
/-- lcmp and the branch behind it -/
def cL : ClassFile.Cond → Int64 → Int64 → Prop
  | .eq, x, y => x = y
  | .ne, x, y => ¬ (x = y)
  | .lt, x, y => x.toInt < y.toInt
  | .ge, x, y => y.toInt ≤ x.toInt
  | .gt, x, y => y.toInt < x.toInt
  | .le, x, y => x.toInt ≤ y.toInt
theorem own_lc (cd : ClassFile.Cond) (x y : Int64) : cP cd (lcmpW x y) 0 ↔ cL cd x y := by
  have h1 := lw_lt x y; have h2 := lw_gt x y; have h3 := lw_eq x y
  rw [Int32.lt_iff_toInt_lt, Int64.lt_iff_toInt_lt] at h1 h2
  cases cd <;> simp only [cP, cL]
  · exact h3
  · exact not_congr h3
  · exact h1
  · constructor <;> intro q <;> omega
  · exact h2
  · constructor <;> intro q <;> omega
theorem w_lcmp (pc' : Nat) (C : Cx K Z own name code maxL ret R n0 Post) {x y : Int64} (hd : decode code pc = .ok (.lcmp, 1)) (hp : pc + 1 = pc') (g : Go K h cells slots pc' Ls (.int (lcmpW x y) :: st)) : Go K h cells slots pc Ls (.long y :: .long x :: st) := by
  subst hp; exact g.step fun T locs X t q => XS.lcmp X.here C.1 rfl (hb C.2.1 hd) rfl q
theorem w_lifY (pc1 pc' : Nat) (C : Cx K Z own name code maxL ret R n0 Post) {cd : ClassFile.Cond} {x y : Int64} {o : Int} (hd0 : decode code pc = .ok (.lcmp, 1)) (hp0 : pc + 1 = pc1) (hd : decode code pc1 = .ok (.ifCond cd o, 3)) (hp : (pc1 : Int) + o = (pc' : Nat)) (q : cL cd x y) (g : Go K h cells slots pc' Ls st) : Go K h cells slots pc Ls (.long y :: .long x :: st) :=
  w_lcmp pc1 C hd0 hp0 (w_ifY pc' C hd hp ((own_lc cd x y).mpr q) g)
theorem w_lifN (pc1 pc' : Nat) (C : Cx K Z own name code maxL ret R n0 Post) {cd : ClassFile.Cond} {x y : Int64} {o : Int} (hd0 : decode code pc = .ok (.lcmp, 1)) (hp0 : pc + 1 = pc1) (hd : decode code pc1 = .ok (.ifCond cd o, 3)) (hp : pc1 + 3 = pc') (q : ¬ cL cd x y) (g : Go K h cells slots pc' Ls st) : Go K h cells slots pc Ls (.long y :: .long x :: st) :=
  w_lcmp pc1 C hd0 hp0 (w_ifN pc' C hd hp (fun z => q ((own_lc cd x y).mp z)) g)
theorem w_lif (pc1 pcY pcN : Nat) (C : Cx K Z own name code maxL ret R n0 Post) {cd : ClassFile.Cond} {x y : Int64} {o : Int} (hd0 : decode code pc = .ok (.lcmp, 1)) (hp0 : pc + 1 = pc1) (hd : decode code pc1 = .ok (.ifCond cd o, 3)) (hp : (pc1 : Int) + o = (pcY : Nat)) (hn : pc1 + 3 = pcN) (gY : cL cd x y → Go K h cells slots pcY Ls st) (gN : ¬ cL cd x y → Go K h cells slots pcN Ls st) : Go K h cells slots pc Ls (.long y :: .long x :: st) := by
  by_cases q : cL cd x y
  · exact w_lifY pc1 pcY C hd0 hp0 hd hp q (gY q)
  · exact w_lifN pc1 pcN C hd0 hp0 hd hn q (gN q)
theorem w_nullN (pc' : Nat) (C : Cx K Z own name code maxL ret R n0 Post) {b : Addr} {o : Int} (hd : decode code pc = .ok (.ifnull o, 3)) (hp : pc + 3 = pc') (g : Go K h cells slots pc' Ls st) : Go K h cells slots pc Ls (.ref b :: st) := by
  subst hp; exact g.step fun T locs X t k => XS.ifnullNo X.here C.1 rfl (hb C.2.1 hd) rfl k
theorem w_nonnullY (pc' : Nat) (C : Cx K Z own name code maxL ret R n0 Post) {b : Addr} {o : Int} (hd : decode code pc = .ok (.ifnonnull o, 3)) (hp : (pc : Int) + o = (pc' : Nat)) (g : Go K h cells slots pc' Ls st) : Go K h cells slots pc Ls (.ref b :: st) :=
  g.step fun T locs X t k => XS.ifnonnullYes X.here C.1 rfl (pc0 := pc) (pc' := pc') rfl (hb C.2.1 hd) rfl (by omega) (by omega) k
/-! 4. the end -/
theorem own_ret (C : Cx K Z own name code maxL ret R n0 Post) {v : Option Value} (hv : ret = none → v = none) (hc : cells ≤ R.cells) (hs : slots ≤ R.slots) (hq : Post v h)
    (hend : ∀ T locs, OwnSt K T locs cells slots → ∀ fs, (∀ (f : JFrame) (acts : List Action), f.method = K.m → f.locked = none → f.entered = [] → (doReturn K.e (T.setTop f) acts v).1 = T.setFrames fs) → Steps K.p.tables K.e K.below (T.setTop (mkF K.m pc Ls.toArray st)) (T.setFrames fs)) : Go K h cells slots pc Ls st := by
  obtain ⟨hx, hby, hml, hown, hnm, hret, hlk, hZ, hR, hn0, hPost⟩ := C
  intro T locs X eT N
  obtain ⟨fs, hr, hrun, hended, hW, hsame⟩ := X.leave (v := v) (fun q => hv (hret ▸ q)) hlk
  refine ⟨_, _, hend T locs X fs hr, hrun, hended, v, locs, rfl, ⟨N, ?_⟩, ⟨_, rfl⟩, hW, hsame.mono (by rw [hR]; exact hc) (by rw [hR]; exact hs)⟩
  rw [hPost]
  show Post v T.heap
  rw [eT]; exact hq
theorem w_retN {t : FieldType} (C : Cx K Z own name code maxL (some t) R n0 Post) (ht : t = .boolean ∨ t = .byte ∨ t = .char ∨ t = .short) {z z' : Int32} (hd : decode code pc = .ok (.ireturn, 1)) (hz : nar t z = z') (hc : cells ≤ R.cells) (hs : slots ≤ R.slots) (hq : Post (some (.int z')) h) : Go K h cells slots pc Ls (.int z :: st) := by
  subst hz
  exact own_ret C (fun q => by cases q) hc hs hq fun T locs X fs hr => retN X C.1 C.2.2.2.2.2.1 ht (hb C.2.1 hd) hr
theorem w_retI (C : Cx K Z own name code maxL (some .int) R n0 Post) {z : Int32} (hd : decode code pc = .ok (.ireturn, 1)) (hc : cells ≤ R.cells) (hs : slots ≤ R.slots) (hq : Post (some (.int z)) h) : Go K h cells slots pc Ls (.int z :: st) :=
  own_ret C (fun q => by cases q) hc hs hq fun T locs X fs hr => retOut X C.1 C.2.2.2.2.2.1 rfl (Or.inl ⟨rfl, Or.inl rfl, z, rfl⟩) (hb C.2.1 hd) hr
theorem w_retL (C : Cx K Z own name code maxL (some .long) R n0 Post) {z : Int64} (hd : decode code pc = .ok (.lreturn, 1)) (hc : cells ≤ R.cells) (hs : slots ≤ R.slots) (hq : Post (some (.long z)) h) : Go K h cells slots pc Ls (.long z :: st) :=
  own_ret C (fun q => by cases q) hc hs hq fun T locs X fs hr => retOut X C.1 C.2.2.2.2.2.1 rfl (Or.inr (Or.inl ⟨rfl, rfl, z, rfl⟩)) (hb C.2.1 hd) hr
theorem w_retA {t : FieldType} (C : Cx K Z own name code maxL (some t) R n0 Post) (ht : t.isReference = true) {z : Value} (hz : z.isRef = true) (hn : narrow t z = z) (hd : decode code pc = .ok (.areturn, 1)) (hc : cells ≤ R.cells) (hs : slots ≤ R.slots) (hq : Post (some z) h) : Go K h cells slots pc Ls (z :: st) :=
  own_ret C (fun q => by cases q) hc hs hq fun T locs X fs hr => retOut X C.1 C.2.2.2.2.2.1 hn (Or.inr (Or.inr (Or.inr (Or.inr ⟨rfl, ht, hz⟩)))) (hb C.2.1 hd) hr
theorem w_ret (C : Cx K Z own name code maxL none R n0 Post) (hd : decode code pc = .ok (.return_, 1)) (hc : cells ≤ R.cells) (hs : slots ≤ R.slots) (hq : Post none h) : Go K h cells slots pc Ls [] :=
  own_ret C (fun _ => rfl) hc hs hq fun T locs X fs hr => X.returnOut C.1 C.2.2.2.2.2.1 (hb C.2.1 hd) hr
/-! 5. arrays of ints, bytes .. -/
/-- the array at a holds these ints -/
def Ai (Z : State) (h : Heap) (a : Addr) (ty : FieldType) (vs : List Int32) : Prop := ∃ c : Cell, Arr Z h a c ty ∧ c.slots = (vs.map Value.int).toArray
theorem Ai.lt {a : Addr} {ty : FieldType} {vs : List Int32} (A : Ai Z h a ty vs) : a < h.size := by obtain ⟨c, A, -⟩ := A; exact A.lt
theorem Ai.keep {h' : Heap} {a : Addr} {ty : FieldType} {vs : List Int32} {ws : List Addr} (A : Ai Z h a ty vs) (K : Keep h h' ws) (q : a ∉ ws) : Ai Z h' a ty vs := by
  obtain ⟨c, A, r⟩ := A; exact ⟨c, ⟨K.2.1 a c A.1 q, A.2⟩, r⟩
theorem Ai.ext {h' : Heap} {a : Addr} {ty : FieldType} {vs : List Int32} (A : Ai Z h a ty vs) (E : Ext h h') : Ai Z h' a ty vs := by
  obtain ⟨c, A, r⟩ := A; exact ⟨c, A.ext E, r⟩
theorem own_idx {j : Int32} {i n : Nat} (hj : j.toInt = (i : Int)) (hi : i < n) : ¬ (j < 0 ∨ n ≤ j.toNatClampNeg) ∧ j.toNatClampNeg = i := by
  have q : j.toNatClampNeg = i := by rw [own_clamp, hj]; simp
  refine ⟨?_, q⟩
  rw [q, Int32.lt_iff_toInt_lt, hj]
  simp only [Int32.reduceToInt]
  omega
theorem w_newarr (pc' : Nat) (cap : Nat) (k : Nat) (C : Cx K Z own name code maxL ret R n0 Post) (hn0 : n0 ≤ h.size) {aty : ArrayType} {n : Int32} (hd : decode code pc = .ok (.newarray aty, 2)) (hp : pc + 2 = pc') (w : (Cond.arrayClass (newarray.typeOf aty)).before a0 Z = true) (hdef : defaultValue (newarray.typeOf aty) = .int 0) (hk : n.toInt = (k : Int)) (hcap : k ≤ cap) (hb0 : cap * 8 ≤ 536870912) (hc : cells + 1 ≤ R.cells) (hs : slots + cap ≤ R.slots)
    (g : ∀ h' a, Ext h h' → n0 ≤ a → h.size ≤ a → Ai Z h' a (newarray.typeOf aty) (List.replicate k 0) → n0 ≤ h'.size → Go K h' (cells + 1) (slots + cap) pc' Ls (.ref a :: st)) : Go K h cells slots pc Ls (.int n :: st) := by
  obtain ⟨hx, hby, hml, hown, hnm, hret, hlk, hZ, hR, hn, hPost⟩ := C
  subst hp
  intro T locs X eT N
  have hnn : ¬ n < 0 := by rw [Int32.lt_iff_toInt_lt, hk]; simp only [Int32.reduceToInt]; omega
  have hkn : n.toNatClampNeg = k := by rw [own_clamp, hk]; simp
  obtain ⟨T', h', cA, X', e', E, A, st'⟩ := newP X hx hZ w eT (g := mkF K.m pc Ls.toArray (.int n :: st)) rfl (hb hby hd) rfl hnn (cap := cap) (by omega) hb0 (by rw [hR]; exact hc) (by rw [hR]; exact hs)
  refine OwnDone.of (st' ·) (g h' h.size E hn0 (Nat.le_refl _) ⟨_, A, ?_⟩ (Nat.le_trans hn0 E.1) T' locs X' e' N)
  rw [own_newA, hkn, hdef]
  simp
theorem w_len (pc' : Nat) (z : Int32) (C : Cx K Z own name code maxL ret R n0 Post) {a : Addr} {ty : FieldType} {vs : List Int32} (A : Ai Z h a ty vs) (hd : decode code pc = .ok (.arraylength, 1)) (hp : pc + 1 = pc') (hz : vs.length.toInt32 = z) (g : Go K h cells slots pc' Ls (.int z :: st)) : Go K h cells slots pc Ls (.ref a :: st) := by
  obtain ⟨c, A, hc⟩ := A
  have hn : c.slots.size = vs.length := by rw [hc]; simp
  subst hp hz
  intro T locs X eT N
  refine OwnDone.of (fun t q => X.arraylength C.1 (by rw [eT]; exact A.1) (State.isArrayOf_alike C.2.2.2.2.2.2.2.1.alike A.2.1) (g := mkF K.m pc Ls.toArray (.ref a :: st)) rfl rfl (hb C.2.1 hd) t (by rw [hn]; exact q)) (g T locs X eT N)
theorem w_iaload (pc' : Nat) (i : Nat) (v : Int32) (C : Cx K Z own name code maxL ret R n0 Post) {a : Addr} {vs : List Int32} {j : Int32} (A : Ai Z h a .int vs) (hd : decode code pc = .ok (.iaload, 1)) (hp : pc + 1 = pc') (hj : j.toInt = (i : Int)) (hv : vs[i]? = some v) (g : Go K h cells slots pc' Ls (.int v :: st)) : Go K h cells slots pc Ls (.int j :: .ref a :: st) := by
  obtain ⟨c, A, hc⟩ := A
  have hi : i < vs.length := (List.getElem?_eq_some_iff.mp hv).1
  have hn : c.slots.size = vs.length := by rw [hc]; simp
  obtain ⟨q1, q2⟩ := own_idx (n := c.slots.size) hj (by rw [hn]; exact hi)
  have hat : c.slots[j.toNatClampNeg]? = some (.int v) := by rw [hc, q2]; simp [hv]
  subst hp
  intro T locs X eT N
  exact OwnDone.of (fun t q => X.iaload C.1 (by rw [eT]; exact A.1) (State.isArrayOf_alike C.2.2.2.2.2.2.2.1.alike A.2.1) A.2.2 q1 hat (g := mkF K.m pc Ls.toArray (.int j :: .ref a :: st)) rfl rfl (hb C.2.1 hd) t q) (g T locs X eT N)
theorem w_baload (pc' : Nat) (i : Nat) (v : Int32) (C : Cx K Z own name code maxL ret R n0 Post) {a : Addr} {vs : List Int32} {j : Int32} (A : Ai Z h a .byte vs) (hd : decode code pc = .ok (.baload, 1)) (hp : pc + 1 = pc') (hj : j.toInt = (i : Int)) (hv : vs[i]? = some v) (g : Go K h cells slots pc' Ls (.int v :: st)) : Go K h cells slots pc Ls (.int j :: .ref a :: st) := by
  obtain ⟨c, A, hc⟩ := A
  have hi : i < vs.length := (List.getElem?_eq_some_iff.mp hv).1
  have hn : c.slots.size = vs.length := by rw [hc]; simp
  obtain ⟨q1, q2⟩ := own_idx (n := c.slots.size) hj (by rw [hn]; exact hi)
  have hat : c.slots[j.toNatClampNeg]? = some (.int v) := by rw [hc, q2]; simp [hv]
  subst hp
  intro T locs X eT N
  exact OwnDone.of (fun t q => X.baloadBytes C.1 (by rw [eT]; exact A.1) (State.isArrayOf_alike C.2.2.2.2.2.2.2.1.alike A.2.1) A.2.2 q1 hat (g := mkF K.m pc Ls.toArray (.int j :: .ref a :: st)) rfl rfl (hb C.2.1 hd) t q) (g T locs X eT N)
theorem own_set {h' : Heap} {a : Addr} {ty : FieldType} {vs : List Int32} {c : Cell} {i : Nat} {x : Int32} (A : Arr Z h a c ty) (hc : c.slots = (vs.map Value.int).toArray) (W : Wr h h' a i (.int x)) : Ai Z h' a ty (vs.set i x) :=
  ⟨_, A.same W, by rw [own_setSlot, hc]; simp [List.map_set]⟩
theorem w_iastore (pc' : Nat) (i : Nat) (C : Cx K Z own name code maxL ret R n0 Post) {a : Addr} {vs : List Int32} {j x : Int32} (A : Ai Z h a .int vs) (ha : n0 ≤ a) (hd : decode code pc = .ok (.iastore, 1)) (hp : pc + 1 = pc') (hj : j.toInt = (i : Int)) (hi : i < vs.length)
    (g : ∀ h', Keep h h' [a] → Ai Z h' a .int (vs.set i x) → Go K h' cells slots pc' Ls st) : Go K h cells slots pc Ls (.int x :: .int j :: .ref a :: st) := by
  obtain ⟨c, A, hc⟩ := A
  have hn : c.slots.size = vs.length := by rw [hc]; simp
  obtain ⟨q1, q2⟩ := own_idx (n := c.slots.size) hj (by rw [hn]; exact hi)
  subst hp
  intro T locs X eT N
  obtain ⟨T', h', X', e', W, st'⟩ := stI X C.1 C.2.2.2.2.2.2.2.1 eT A (j := j) (x := x) q1 (g := mkF K.m pc Ls.toArray (.int x :: .int j :: .ref a :: st)) rfl rfl (hb C.2.1 hd)
  rw [q2] at X' W
  exact OwnDone.of (st' ·) (g h' (Keep.of_wr W) (own_set A hc W) T' _ X' e' (Fr.snoc X' N (by rw [C.2.2.2.2.2.2.2.2.2.1]; exact ha)))
theorem w_bastore (pc' : Nat) (i : Nat) (x' : Int32) (C : Cx K Z own name code maxL ret R n0 Post) {a : Addr} {vs : List Int32} {j x : Int32} (A : Ai Z h a .byte vs) (ha : n0 ≤ a) (hd : decode code pc = .ok (.bastore, 1)) (hp : pc + 1 = pc') (hj : j.toInt = (i : Int)) (hi : i < vs.length) (hx' : x.toInt8.toInt32 = x')
    (g : ∀ h', Keep h h' [a] → Ai Z h' a .byte (vs.set i x') → Go K h' cells slots pc' Ls st) : Go K h cells slots pc Ls (.int x :: .int j :: .ref a :: st) := by
  obtain ⟨c, A, hc⟩ := A
  have hn : c.slots.size = vs.length := by rw [hc]; simp
  obtain ⟨q1, q2⟩ := own_idx (n := c.slots.size) hj (by rw [hn]; exact hi)
  subst hp hx'
  intro T locs X eT N
  obtain ⟨T', h', X', e', W, st'⟩ := stB X C.1 C.2.2.2.2.2.2.2.1 eT A (j := j) (x := x) q1 (g := mkF K.m pc Ls.toArray (.int x :: .int j :: .ref a :: st)) rfl rfl (hb C.2.1 hd)
  rw [q2] at X' W
  exact OwnDone.of (st' ·) (g h' (Keep.of_wr W) (own_set A hc W) T' _ X' e' (Fr.snoc X' N (by rw [C.2.2.2.2.2.2.2.2.2.1]; exact ha)))
/-! 6. objects -/
theorem w_new (pc' : Nat) {Cn : String} {n i : Nat} (C : Cx K Z own name code maxL ret R n0 Post) (hn0 : n0 ≤ h.size) (hd : decode code pc = .ok (.new i, 3)) (hp : pc + 3 = pc') (w1 : (Cond.classLink own i Cn).before a0 Z = true) (w2 : (Cond.instantiable Cn n).before a0 Z = true) (w3 : (Cond.initialized Cn).before a0 Z = true) (hc : cells + 1 ≤ R.cells) (hs : slots + n ≤ R.slots)
    (g : ∀ h' a, Ext h h' → n0 ≤ a → h.size ≤ a → Exa Z h' a Cn → (∀ {O nm d : String} {ty : FieldType}, Laid Z a0 Cn O nm d → parseFieldDescriptor d = some ty → Fld Z h' a O nm d (defaultValue ty)) → n0 ≤ h'.size → Go K h' (cells + 1) (slots + n) pc' Ls (.ref a :: st)) : Go K h cells slots pc Ls st := by
  obtain ⟨hx, hby, hml, hown, hnm, hret, hlk, hZ, hR, hn, hPost⟩ := C
  subst hp
  intro T locs X eT N
  obtain ⟨T', h', X', e', E, A, D, -, st'⟩ := newO X hx hZ hown w1 w2 w3 eT (g := mkF K.m pc Ls.toArray st) rfl (hb hby hd) (by rw [hR]; exact hc) (by rw [hR]; exact hs)
  exact OwnDone.of (st' ·) (g h' h.size E hn0 (Nat.le_refl _) A D (Nat.le_trans hn0 E.1) T' locs X' e' N)
theorem w_getF (pc' : Nat) {R0 O n d host : String} {i : Nat} (C : Cx K Z own name code maxL ret R n0 Post) {a : Addr} {v : Value} (F : Fld Z h a O n d v) (hd : decode code pc = .ok (.getfield i, 3)) (hp : pc + 3 = pc') (w : (Cond.fieldLink own i R0 n d).before a0 Z = true ∨ (Cond.fieldLinkNest own i R0 n d host).before a0 Z = true) (via : Via Z R0 O n d) (g : Go K h cells slots pc' Ls (v :: st)) : Go K h cells slots pc Ls (.ref a :: st) := by
  subst hp
  intro T locs X eT N
  obtain ⟨T', X', e', st'⟩ := getF X C.1 C.2.2.2.2.2.2.2.1 C.2.2.2.1 w via eT F (g := mkF K.m pc Ls.toArray (.ref a :: st)) rfl rfl (hb C.2.1 hd)
  exact OwnDone.of (st' ·) (g T' locs X' e' N)
theorem w_putF (pc' : Nat) {R0 O n d host Cn : String} {i kk : Nat} {ty : FieldType} (C : Cx K Z own name code maxL ret R n0 Post) {a : Addr} {v old : Value} (F : Fld Z h a O n d old) (E : Exa Z h a Cn) (ha : n0 ≤ a) (hd : decode code pc = .ok (.putfield i, 3)) (hp : pc + 3 = pc') (w : (Cond.fieldLink own i R0 n d).before a0 Z = true ∨ (Cond.fieldLinkNest own i R0 n d host).before a0 Z = true) (via : Via Z R0 O n d)
    (L : (Cond.lays Cn O n d).before a0 Z = true ∨ ((Cond.laysFinal Cn O n d).before a0 Z = true ∧ own = O ∧ name = "<init>")) (wi : (Cond.instantiable Cn kk).before a0 Z = true) (hty : parseFieldDescriptor d = some ty) (hn : narrow ty v = v) (hf : fits ty v = true)
    (g : ∀ h', Keep h h' [a] → Wr h h' a (Jvm.RoadKit.slotOf Z O n d) v → Fld Z h' a O n d v → Exa Z h' a Cn → Go K h' cells slots pc' Ls st) : Go K h cells slots pc Ls (v :: .ref a :: st) := by
  subst hp
  intro T locs X eT N
  obtain ⟨T', h', X', e', W, st'⟩ := putF X C.1 C.2.2.2.2.2.2.2.1 C.2.2.2.1 w via eT F E (L.imp id fun q => ⟨q.1, q.2.1, C.2.2.2.2.1.trans q.2.2⟩) wi hty hn hf (g := mkF K.m pc Ls.toArray (v :: .ref a :: st)) rfl rfl (hb C.2.1 hd)
  exact OwnDone.of (st' ·) (g h' (Keep.of_wr W) W (F.same W) (E.wr W) T' _ X' e' (Fr.snoc X' N (by rw [C.2.2.2.2.2.2.2.2.2.1]; exact ha)))
theorem w_initO (pc' W : Nat) {i : Nat} (C : Cx K Z own name code maxL ret R n0 Post) {a : Addr} (hd : decode code pc = .ok (.invokespecial i, 3)) (hp : pc + 3 = pc') (w1 : (Cond.methodLink own i Lib.objectInit).before a0 Z = true) (w2 : (Cond.instanceMethod Lib.objectInit).before a0 Z = true) (w3 : (Cond.code Lib.objectInit ⟨#[0xb1]⟩ 1 none).before a0 Z = true)
    (hsz : Ls.length = maxL) (hf : 1 ≤ R.frames) (hW : (st.map fun v => v.category).sum ≤ W) (hl : W + 12 ≤ R.locals) (g : Go K h cells slots pc' Ls st) : Go K h cells slots pc Ls (.ref a :: st) := by
  obtain ⟨hx, hby, hml, hown, hnm, hret, hlk, hZ, hR, hn, hPost⟩ := C
  subst hp
  intro T locs X eT N
  obtain ⟨T', X', e', st'⟩ := initO X hx hZ hown w1 w2 w3 eT (g := mkF K.m pc Ls.toArray (.ref a :: st)) rfl (by rw [hml]; simpa using hsz) rfl (hb hby hd) (by rw [hR]; exact hf) (W := W) (by show 2 * 0 + _ ≤ _; simpa using hW) (by rw [hR]; exact hl)
  exact OwnDone.of (st' ·) (g T' locs X' e' N)
/-! 7. calls -/
theorem w_callS (pc' W : Nat) {y : MethodName} {bytes : ByteArray} {mL i : Nat} {rt : Option FieldType} {rm : Room} {P : Option Value → Heap → Prop} (argsL : List Value) (C : Cx K Z own name code maxL ret R n0 Post) (hd : decode code pc = .ok (.invokestatic i, 3)) (hp : pc + 3 = pc')
    (w1 : (Cond.methodLink own i y).before a0 Z = true) (w2 : (Cond.static y).before a0 Z = true) (w3 : (Cond.initialized y.cls).before a0 Z = true) (w4 : (Cond.code y bytes mL rt).before a0 Z = true) (hy : y.cls ≠ "java/lang/invoke/MethodHandle" ∧ y.cls ≠ "java/lang/invoke/VarHandle")
    (hM : OwnMet K.l y bytes mL rt [] rm Z h n0 argsL.toArray P) {ps : List FieldType} {r : Option FieldType} (hpd : parseMethodDescriptor y.desc = some ⟨ps, r⟩) (hlen : argsL.length = ps.length)
    (hst : st = argsL.reverse ++ rest) (hsz : Ls.length = maxL) (hW : (rest.map fun v => v.category).sum ≤ W) (hf : rm.frames + 1 ≤ R.frames) (hl : W + (mL + 11) + rm.locals ≤ R.locals) (hc : cells + rm.cells ≤ R.cells) (hs : slots + rm.slots ≤ R.slots)
    (g : ∀ v h', P v h' → Go K h' (cells + rm.cells) (slots + rm.slots) pc' Ls (v.toList ++ rest)) : Go K h cells slots pc Ls st := by
  obtain ⟨hx, hby, hml, hown, hnm, hret, hlk, hZ, hR, hn, hPost⟩ := C
  subst hp hst
  intro T locs X eT N
  obtain ⟨v, vm₁, ⟨T', L', k', n'⟩, -, X', ⟨Lc, hQ, l1, y1, z1⟩, st'⟩ := Jvm.LawKit.callS X hx (y := y) hown (mvT hZ w1) (mvT hZ w2) (mvT hZ w3) (mvT hZ w4) hy (backOf (W := W) (Q := fun v h L => Fr n0 L ∧ P v h) hM hZ w4 w3 (by rw [hR]; exact hf) (by rw [hR]; exact hl)) (g := mkF K.m pc Ls.toArray (argsL.reverse ++ rest)) rfl (by rw [hml]; simpa using hsz) (argsL := argsL) (rest := rest) (lenOf hpd hlen) rfl (by show 2 * 0 + _ ≤ _; simpa using hW) (hb hby hd) (fun _ _ => ⟨rfl, eT, by rw [hR]; exact hc, by rw [hR]; exact hs⟩)
  dsimp only [Pt.U, Pt.locs, Pt.cells, Pt.slots] at X' l1 y1 z1 st' hQ
  subst l1 y1 z1
  exact OwnDone.of (st' ·) (g v T'.heap hQ.2 T' _ X' rfl (Fr.app N (by rw [hn]; exact hQ.1)))
theorem w_callI (pc' W : Nat) {y : MethodName} {bytes : ByteArray} {mL i : Nat} {rm : Room} {P : Option Value → Heap → Prop} (argsL : List Value) (C : Cx K Z own name code maxL ret R n0 Post) {a : Addr} (hd : decode code pc = .ok (.invokespecial i, 3)) (hp : pc + 3 = pc') (hy1 : y.name = "<init>")
    (w1 : (Cond.methodLink own i y).before a0 Z = true) (w2 : (Cond.instanceMethod y).before a0 Z = true) (w3 : (Cond.initialized y.cls).before a0 Z = true) (w4 : (Cond.code y bytes mL none).before a0 Z = true) (hy : y.cls ≠ "java/lang/invoke/MethodHandle" ∧ y.cls ≠ "java/lang/invoke/VarHandle")
    (hM : OwnMet K.l y bytes mL none [] rm Z h n0 (.ref a :: argsL).toArray P) {ps : List FieldType} {r : Option FieldType} (hpd : parseMethodDescriptor y.desc = some ⟨ps, r⟩) (hlen : argsL.length = ps.length)
    (hst : st = argsL.reverse ++ .ref a :: rest) (hsz : Ls.length = maxL) (hW : (rest.map fun v => v.category).sum ≤ W) (hf : rm.frames + 1 ≤ R.frames) (hl : W + (mL + 11) + rm.locals ≤ R.locals) (hc : cells + rm.cells ≤ R.cells) (hs : slots + rm.slots ≤ R.slots)
    (g : ∀ v h', P v h' → Go K h' (cells + rm.cells) (slots + rm.slots) pc' Ls (v.toList ++ rest)) : Go K h cells slots pc Ls st := by
  obtain ⟨hx, hby, hml, hown, hnm, hret, hlk, hZ, hR, hn, hPost⟩ := C
  subst hp hst
  intro T locs X eT N
  obtain ⟨v, vm₁, ⟨T', L', k', n'⟩, -, X', ⟨Lc, hQ, l1, y1, z1⟩, st'⟩ := X.specialBack hx (y := y) hy1 hown (mvT hZ w1) (mvT hZ w2) (mvT hZ w4) hy (backOf (W := W) (Q := fun v h L => Fr n0 L ∧ P v h) hM hZ w4 w3 (by rw [hR]; exact hf) (by rw [hR]; exact hl)) (g := mkF K.m pc Ls.toArray (argsL.reverse ++ .ref a :: rest)) rfl (by rw [hml]; simpa using hsz) (Steps.refl _) (a := a) (argsL := argsL) (rest := rest) (lenOf hpd hlen) rfl (by show 2 * 0 + _ ≤ _; simpa using hW) (hb hby hd) (fun _ _ => ⟨rfl, eT, by rw [hR]; exact hc, by rw [hR]; exact hs⟩)
  dsimp only [Pt.U, Pt.locs, Pt.cells, Pt.slots] at X' l1 y1 z1 st' hQ
  subst l1 y1 z1
  exact OwnDone.of (fun t q => st'.trans q) (g v T'.heap hQ.2 T' _ X' rfl (Fr.app N (by rw [hn]; exact hQ.1)))
theorem w_callIN (pc' W : Nat) {host : String} {y : MethodName} {bytes : ByteArray} {mL i : Nat} {rm : Room} {P : Option Value → Heap → Prop} (argsL : List Value) (C : Cx K Z own name code maxL ret R n0 Post) {a : Addr} (hd : decode code pc = .ok (.invokespecial i, 3)) (hp : pc + 3 = pc') (hy1 : y.name = "<init>")
    (w1 : (Cond.methodLinkNest own i y host).before a0 Z = true) (w2 : (Cond.instanceMethod y).before a0 Z = true) (w3 : (Cond.initialized y.cls).before a0 Z = true) (w4 : (Cond.code y bytes mL none).before a0 Z = true) (hy : y.cls ≠ "java/lang/invoke/MethodHandle" ∧ y.cls ≠ "java/lang/invoke/VarHandle")
    (hM : OwnMet K.l y bytes mL none [] rm Z h n0 (.ref a :: argsL).toArray P) {ps : List FieldType} {r : Option FieldType} (hpd : parseMethodDescriptor y.desc = some ⟨ps, r⟩) (hlen : argsL.length = ps.length)
    (hst : st = argsL.reverse ++ .ref a :: rest) (hsz : Ls.length = maxL) (hW : (rest.map fun v => v.category).sum ≤ W) (hf : rm.frames + 1 ≤ R.frames) (hl : W + (mL + 11) + rm.locals ≤ R.locals) (hc : cells + rm.cells ≤ R.cells) (hs : slots + rm.slots ≤ R.slots)
    (g : ∀ v h', P v h' → Go K h' (cells + rm.cells) (slots + rm.slots) pc' Ls (v.toList ++ rest)) : Go K h cells slots pc Ls st := by
  obtain ⟨hx, hby, hml, hown, hnm, hret, hlk, hZ, hR, hn, hPost⟩ := C
  subst hp hst
  intro T locs X eT N
  obtain ⟨v, vm₁, ⟨T', L', k', n'⟩, -, X', ⟨Lc, hQ, l1, y1, z1⟩, st'⟩ := X.specialBackNest hx (y := y) hy1 hown (Cond.methodLinkNest_wide hZ w1 :) (mvT hZ w2) (mvT hZ w4) hy (backOf (W := W) (Q := fun v h L => Fr n0 L ∧ P v h) hM hZ w4 w3 (by rw [hR]; exact hf) (by rw [hR]; exact hl)) (g := mkF K.m pc Ls.toArray (argsL.reverse ++ .ref a :: rest)) rfl (by rw [hml]; simpa using hsz) (Steps.refl _) (a := a) (argsL := argsL) (rest := rest) (lenOf hpd hlen) rfl (by show 2 * 0 + _ ≤ _; simpa using hW) (hb hby hd) (fun _ _ => ⟨rfl, eT, by rw [hR]; exact hc, by rw [hR]; exact hs⟩)
  dsimp only [Pt.U, Pt.locs, Pt.cells, Pt.slots] at X' l1 y1 z1 st' hQ
  subst l1 y1 z1
  exact OwnDone.of (fun t q => st'.trans q) (g v T'.heap hQ.2 T' _ X' rfl (Fr.app N (by rw [hn]; exact hQ.1)))
theorem w_callV (pc' W : Nat) {Cn : String} {y : MethodName} {bytes : ByteArray} {mL i : Nat} {rt : Option FieldType} {rm : Room} {P : Option Value → Heap → Prop} (argsL : List Value) (C : Cx K Z own name code maxL ret R n0 Post) {a : Addr} (E : Exa Z h a Cn) (hd : decode code pc = .ok (.invokevirtual i, 3)) (hp : pc + 3 = pc')
    (w1 : (Cond.methodLink own i y).before a0 Z = true) (w2 : (Cond.declares y).before a0 Z = true) (w5 : (Cond.selects Cn y y).before a0 Z = true) (w6 : (Cond.instanceMethod y).before a0 Z = true) (w3 : (Cond.initialized y.cls).before a0 Z = true) (w4 : (Cond.code y bytes mL rt).before a0 Z = true) (hy : y.cls ≠ "java/lang/invoke/MethodHandle" ∧ y.cls ≠ "java/lang/invoke/VarHandle")
    (hM : OwnMet K.l y bytes mL rt [] rm Z h n0 (.ref a :: argsL).toArray P) {ps : List FieldType} {r : Option FieldType} (hpd : parseMethodDescriptor y.desc = some ⟨ps, r⟩) (hlen : argsL.length = ps.length)
    (hst : st = argsL.reverse ++ .ref a :: rest) (hsz : Ls.length = maxL) (hW : (rest.map fun v => v.category).sum ≤ W) (hf : rm.frames + 1 ≤ R.frames) (hl : W + (mL + 11) + rm.locals ≤ R.locals) (hc : cells + rm.cells ≤ R.cells) (hs : slots + rm.slots ≤ R.slots)
    (g : ∀ v h', P v h' → Go K h' (cells + rm.cells) (slots + rm.slots) pc' Ls (v.toList ++ rest)) : Go K h cells slots pc Ls st := by
  obtain ⟨hx, hby, hml, hown, hnm, hret, hlk, hZ, hR, hn, hPost⟩ := C
  subst hp hst
  intro T locs X eT N
  obtain ⟨cq, kq, qa, qb, qc⟩ := isOf hZ eT E
  obtain ⟨v, vm₁, ⟨T', L', k', n'⟩, -, X', ⟨Lc, hQ, l1, y1, z1⟩, st'⟩ := X.virtualBack hx (y := y) (z := y) hown (mvT hZ w1) (mvT hZ w2) (notFace_of_selects (args := #[]) (mvT hZ w5)) (mvT hZ w5) (mvT hZ w6) hy (backOf (W := W) (Q := fun v h L => Fr n0 L ∧ P v h) hM hZ w4 w3 (by rw [hR]; exact hf) (by rw [hR]; exact hl)) qa qc (g := mkF K.m pc Ls.toArray (argsL.reverse ++ .ref a :: rest)) rfl (by rw [hml]; simpa using hsz) (Steps.refl _) (argsL := argsL) (rest := rest) (lenOf hpd hlen) rfl (by show 2 * 0 + _ ≤ _; simpa using hW) (hb hby hd) (fun _ _ => ⟨rfl, eT, by rw [hR]; exact hc, by rw [hR]; exact hs⟩)
  dsimp only [Pt.U, Pt.locs, Pt.cells, Pt.slots] at X' l1 y1 z1 st' hQ
  subst l1 y1 z1
  exact OwnDone.of (fun t q => st'.trans q) (g v T'.heap hQ.2 T' _ X' rfl (Fr.app N (by rw [hn]; exact hQ.1)))
theorem w_callP (pc' W : Nat) {Cn : String} {y z : MethodName} {bytes : ByteArray} {mL i : Nat} {rt : Option FieldType} {rm : Room} {P : Option Value → Heap → Prop} (argsL : List Value) (C : Cx K Z own name code maxL ret R n0 Post) {a : Addr} (E : Exa Z h a Cn) (hd : decode code pc = .ok (.invokevirtual i, 3)) (hp : pc + 3 = pc')
    (w1 : (Cond.methodLink own i y).before a0 Z = true) (w7 : (Cond.privateMethod y).before a0 Z = true) (w5 : (Cond.selects z.cls z z).before a0 Z = true) (hzy : z.cls = y.cls) (w6 : (Cond.instanceMethod y).before a0 Z = true) (w3 : (Cond.initialized y.cls).before a0 Z = true) (w4 : (Cond.code y bytes mL rt).before a0 Z = true) (hy : y.cls ≠ "java/lang/invoke/MethodHandle" ∧ y.cls ≠ "java/lang/invoke/VarHandle")
    (hM : OwnMet K.l y bytes mL rt [] rm Z h n0 (.ref a :: argsL).toArray P) {ps : List FieldType} {r : Option FieldType} (hpd : parseMethodDescriptor y.desc = some ⟨ps, r⟩) (hlen : argsL.length = ps.length)
    (hst : st = argsL.reverse ++ .ref a :: rest) (hsz : Ls.length = maxL) (hW : (rest.map fun v => v.category).sum ≤ W) (hf : rm.frames + 1 ≤ R.frames) (hl : W + (mL + 11) + rm.locals ≤ R.locals) (hc : cells + rm.cells ≤ R.cells) (hs : slots + rm.slots ≤ R.slots)
    (g : ∀ v h', P v h' → Go K h' (cells + rm.cells) (slots + rm.slots) pc' Ls (v.toList ++ rest)) : Go K h cells slots pc Ls st := by
  obtain ⟨hx, hby, hml, hown, hnm, hret, hlk, hZ, hR, hn, hPost⟩ := C
  subst hp hst
  intro T locs X eT N
  have hpriv : K.s.PrivateAt y := Cond.privateMethod_at (mvP hZ w7 (args := #[]))
  have hsel : (Cond.selects y.cls y y).before K.args K.s = true := by
    obtain ⟨c2, r2, m2, q1, q2, q3, q4, kP, hkP, hkPi⟩ := Cond.selects_spec (mvT hZ w5 (args := #[]))
    exact selects_self_of_private (by rw [← hzy]; exact findClass_of_methodNamed q3) hkP hkPi hpriv (mvT hZ w6) hy
  obtain ⟨cq, q1, q2⟩ := E.cell
  obtain ⟨v, vm₁, ⟨T', L', k', n'⟩, -, X', ⟨Lc, hQ, l1, y1, z1⟩, st'⟩ := X.privateBack hx (y := y) hown (mvT hZ w1) (mvT hZ w6) hsel hpriv (mvT hZ w4) hy (backOf (W := W) (Q := fun v h L => Fr n0 L ∧ P v h) hM hZ w4 w3 (by rw [hR]; exact hf) (by rw [hR]; exact hl)) (g := mkF K.m pc Ls.toArray (argsL.reverse ++ .ref a :: rest)) rfl (by rw [hml]; simpa using hsz) (Steps.refl _) (a := a) (by rw [eT]; exact q1) q2 (argsL := argsL) (rest := rest) (lenOf hpd hlen) rfl (by show 2 * 0 + _ ≤ _; simpa using hW) (hb hby hd) (fun _ _ => ⟨rfl, eT, by rw [hR]; exact hc, by rw [hR]; exact hs⟩)
  dsimp only [Pt.U, Pt.locs, Pt.cells, Pt.slots] at X' l1 y1 z1 st' hQ
  subst l1 y1 z1
  exact OwnDone.of (fun t q => st'.trans q) (g v T'.heap hQ.2 T' _ X' rfl (Fr.app N (by rw [hn]; exact hQ.1)))
theorem Go.more {c' s' : Nat} (g : Go K h c' s' pc Ls st) (h1 : cells ≤ c') (h2 : slots ≤ s') : Go K h cells slots pc Ls st := fun T locs X e N => g T locs (X.more h1 h2) e N
end OwnLaws
/-! 8. numbers -/
theorem own_un (x : Int32) : (x.toUInt32.toNat : Int) = x.toInt % 4294967296 := by
  have h1 : x.toInt = x.toBitVec.toInt := rfl
  have h2 : x.toUInt32.toNat = x.toBitVec.toNat := rfl
  rw [h1, h2, BitVec.toInt_eq_toNat_cond]
  have := x.toBitVec.isLt
  split <;> omega
theorem own_ul (x : Int64) : (x.toUInt64.toNat : Int) = x.toInt % 18446744073709551616 := by
  have h1 : x.toInt = x.toBitVec.toInt := rfl
  have h2 : x.toUInt64.toNat = x.toBitVec.toNat := rfl
  rw [h1, h2, BitVec.toInt_eq_toNat_cond]
  have := x.toBitVec.isLt
  split <;> omega
theorem own_in (u : UInt32) : (u.toInt32).toInt = ((u.toNat : Int) + 2147483648) % 4294967296 - 2147483648 := by
  have h1 : (u.toInt32).toInt = u.toBitVec.toInt := rfl
  have h2 : u.toNat = u.toBitVec.toNat := rfl
  rw [h1, h2, BitVec.toInt_eq_toNat_cond]
  have := u.toBitVec.isLt
  split <;> omega
theorem own_il (u : UInt64) : (u.toInt64).toInt = ((u.toNat : Int) + 9223372036854775808) % 18446744073709551616 - 9223372036854775808 := by
  have h1 : (u.toInt64).toInt = u.toBitVec.toInt := rfl
  have h2 : u.toNat = u.toBitVec.toNat := rfl
  rw [h1, h2, BitVec.toInt_eq_toNat_cond]
  have := u.toBitVec.isLt
  split <;> omega
theorem own_i2b (x : Int32) : (x.toInt8.toInt32).toInt = (x.toInt + 128) % 256 - 128 := by
  rw [Int8.toInt_toInt32, Int32.toInt_toInt8, Int.bmod_def]
  split <;> omega
theorem own_u16 (u : UInt16) : (u.toUInt32.toInt32).toInt = u.toNat := by
  have hu := u.toNat_lt
  rw [own_in, UInt16.toNat_toUInt32]
  omega
theorem own_i2c (x : Int32) : (x.toUInt32.toUInt16.toUInt32.toInt32).toInt = x.toInt % 65536 := by
  rw [own_u16, UInt32.toNat_toUInt16]
  have := own_un x
  omega
theorem own_l2i (x : Int64) : (x.toInt32).toInt = (x.toInt + 2147483648) % 4294967296 - 2147483648 := by
  rw [Int64.toInt_toInt32, Int.bmod_def]
  split <;> omega
theorem own_i2l (x : Int32) : (x.toInt64).toInt = x.toInt := Int32.toInt_toInt64 x
theorem own_iadd (x y : Int32) : (x + y).toInt = (x.toInt + y.toInt + 2147483648) % 4294967296 - 2147483648 := by
  rw [Int32.toInt_add, Int.bmod_def]; split <;> omega
theorem own_isub (x y : Int32) : (x - y).toInt = (x.toInt - y.toInt + 2147483648) % 4294967296 - 2147483648 := by
  rw [Int32.toInt_sub, Int.bmod_def]; split <;> omega
theorem own_imul (x y : Int32) : (x * y).toInt = (x.toInt * y.toInt + 2147483648) % 4294967296 - 2147483648 := by
  rw [Int32.toInt_mul, Int.bmod_def]; split <;> omega
theorem own_ladd (x y : Int64) : (x + y).toInt = (x.toInt + y.toInt + 9223372036854775808) % 18446744073709551616 - 9223372036854775808 := by
  rw [Int64.toInt_add, Int.bmod_def]; split <;> omega
theorem own_lsub (x y : Int64) : (x - y).toInt = (x.toInt - y.toInt + 9223372036854775808) % 18446744073709551616 - 9223372036854775808 := by
  rw [Int64.toInt_sub, Int.bmod_def]; split <;> omega
theorem own_iushr (x : Int32) {n : UInt32} (k : Nat) (hn : n.toNat = k) (h0 : 0 < k) (hk : k < 32) : ((x.toUInt32 >>> n).toInt32).toInt = x.toInt % 4294967296 / 2 ^ k := by
  have h1 : (x.toUInt32 >>> n).toNat = x.toUInt32.toNat / 2 ^ k := by rw [UInt32.toNat_shiftRight, hn, Nat.mod_eq_of_lt hk, Nat.shiftRight_eq_div_pow]
  have h2 := own_un x
  have h3 : x.toUInt32.toNat / 2 ^ k < 2147483648 := by
    have q : x.toUInt32.toNat < 4294967296 := x.toUInt32.toNat_lt
    have r : 2 ^ 1 ≤ 2 ^ k := Nat.pow_le_pow_right (by omega) h0
    exact Nat.div_lt_of_lt_mul (by omega)
  rw [own_in, h1, ← h2]
  have h4 : ((x.toUInt32.toNat : Int)) / 2 ^ k = ((x.toUInt32.toNat / 2 ^ k : Nat) : Int) := by simp
  rw [h4]
  omega
theorem own_lushr (x : Int64) {n : UInt64} (k : Nat) (hn : n.toNat = k) (h0 : 0 < k) (hk : k < 64) : ((x.toUInt64 >>> n).toInt64).toInt = x.toInt % 18446744073709551616 / 2 ^ k := by
  have h1 : (x.toUInt64 >>> n).toNat = x.toUInt64.toNat / 2 ^ k := by rw [UInt64.toNat_shiftRight, hn, Nat.mod_eq_of_lt hk, Nat.shiftRight_eq_div_pow]
  have h2 := own_ul x
  have h3 : x.toUInt64.toNat / 2 ^ k < 9223372036854775808 := by
    have q : x.toUInt64.toNat < 18446744073709551616 := x.toUInt64.toNat_lt
    have r : 2 ^ 1 ≤ 2 ^ k := Nat.pow_le_pow_right (by omega) h0
    exact Nat.div_lt_of_lt_mul (by omega)
  rw [own_il, h1, ← h2]
  have h4 : ((x.toUInt64.toNat : Int)) / 2 ^ k = ((x.toUInt64.toNat / 2 ^ k : Nat) : Int) := by simp
  rw [h4]
  omega
theorem own_mask (x m : Int32) (k : Nat) (hk : k < 32) (hm : m.toBitVec.toNat = 2 ^ k - 1) : (x &&& m).toInt = x.toInt % 2 ^ k := Jvm.Kit.i32_mask x m hk hm
theorem own_maskL (x m : Int64) (k : Nat) (hk : k < 64) (hm : m.toBitVec.toNat = 2 ^ k - 1) : (x &&& m).toInt = x.toInt % 2 ^ k := Jvm.Kit.i64_mask x m hk hm
theorem own_orN (a b q k : Nat) (ha : a < 2 ^ k) (hb : b = 2 ^ k * q) : a ||| b = a + b := by
  rw [Nat.or_comm, hb, ← Nat.two_pow_add_eq_or_of_lt ha, Nat.add_comm]
theorem own_or (x y : Int32) (k : Nat) (q : Nat) (h0 : 0 ≤ x.toInt) (h1 : x.toInt < 2 ^ k) (h2 : y.toInt = 2 ^ k * (q : Int)) (h3 : x.toInt + y.toInt < 2147483648) : (x ||| y).toInt = x.toInt + y.toInt := by
  have e1 := own_un x; have e2 := own_un y
  have n2 : (0 : Int) ≤ y.toInt := by rw [h2]; exact Int.mul_nonneg (Int.le_of_lt (Int.pow_pos (by decide))) (by omega)
  have a1 : x.toUInt32.toNat < 2 ^ k := by
    have : (x.toUInt32.toNat : Int) < ((2 ^ k : Nat) : Int) := by rw [e1, Int.natCast_pow]; have := x.toInt_lt; have := Int.emod_eq_of_lt h0 (by omega : x.toInt < 4294967296); rw [this]; exact h1
    omega
  have a2 : y.toUInt32.toNat = 2 ^ k * q := by
    have : (y.toUInt32.toNat : Int) = ((2 ^ k * q : Nat) : Int) := by rw [e2, Int.natCast_mul, Int.natCast_pow]; have := y.toInt_lt; rw [Int.emod_eq_of_lt n2 (by omega)]; exact h2
    omega
  have e3 : (x ||| y).toUInt32.toNat = x.toUInt32.toNat ||| y.toUInt32.toNat := rfl
  have e4 := own_un (x ||| y)
  rw [e3, own_orN _ _ q k a1 a2] at e4
  have r1 := (x ||| y).toInt_lt; have r2 := (x ||| y).le_toInt
  have s1 := x.toInt_lt; have s2 := y.toInt_lt
  omega
theorem own_xor1 (x : Int32) : (x ^^^ 1).toInt = x.toInt + 1 - 2 * (x.toInt % 2) := by
  have e1 := own_un x
  have e3 : (x ^^^ 1).toUInt32.toNat = x.toUInt32.toNat ^^^ 1 := rfl
  have e4 := own_un (x ^^^ 1)
  rw [e3] at e4
  have d1 : (x.toUInt32.toNat ^^^ 1) / 2 = x.toUInt32.toNat / 2 := by rw [Nat.xor_div_two]; simp
  have d2 : (x.toUInt32.toNat ^^^ 1) % 2 = (x.toUInt32.toNat + 1) % 2 := by
    have t0 : (x.toUInt32.toNat ^^^ 1).testBit 0 = (x.toUInt32.toNat.testBit 0 ^^ (1 : Nat).testBit 0) := Nat.testBit_xor _ _ _
    rw [Nat.testBit_zero, Nat.testBit_zero, Nat.testBit_zero] at t0
    rcases Nat.mod_two_eq_zero_or_one x.toUInt32.toNat with q | q <;> rcases Nat.mod_two_eq_zero_or_one (x.toUInt32.toNat ^^^ 1) with r | r <;> rw [q, r] at t0 <;> first | (exfalso; revert t0; decide) | omega
  have r1 := (x ^^^ 1).toInt_lt; have r2 := (x ^^^ 1).le_toInt
  have s1 := x.toInt_lt; have s2 := x.le_toInt
  omega
theorem own_eqi {x y : Int32} : x = y ↔ x.toInt = y.toInt := Int32.toInt_inj.symm
theorem own_eqli {x y : Int64} : x = y ↔ x.toInt = y.toInt := Int64.toInt_inj.symm
theorem own_eq {x y : Int32} (h : x.toInt = y.toInt) : x = y := Int32.toInt_inj.mp h
theorem own_eqL {x y : Int64} (h : x.toInt = y.toInt) : x = y := Int64.toInt_inj.mp h
theorem own_ne {x y : Int32} (h : ¬ x = y) : x.toInt ≠ y.toInt := fun q => h (Int32.toInt_inj.mp q)
theorem own_neL {x y : Int64} (h : ¬ x = y) : x.toInt ≠ y.toInt := fun q => h (Int64.toInt_inj.mp q)
theorem own_or32N (n : Nat) : n ||| 32 = n + 32 - 32 * (n / 32 % 2) := by
  have hs : ∀ s, s < 64 → s ||| 32 = s + 32 - 32 * (s / 32 % 2) ∧ s ||| 32 < 64 := by decide
  have h1 := hs (n % 64) (Nat.mod_lt _ (by decide))
  have h2 : n = 2 ^ 6 * (n / 64) ||| (n % 64) := by rw [← Nat.two_pow_add_eq_or_of_lt (i := 6) (Nat.mod_lt _ (by decide))]; omega
  have h3 : n ||| 32 = 2 ^ 6 * (n / 64) + (n % 64 ||| 32) := by
    rw [Nat.two_pow_add_eq_or_of_lt (i := 6) h1.2, ← Nat.or_assoc, ← h2]
  rw [h3, h1.1]
  omega
theorem own_or32 (x : Int32) (h0 : 0 ≤ x.toInt) (h1 : x.toInt < 65536) : (x ||| 32).toInt = x.toInt + 32 - 32 * (x.toInt / 32 % 2) := by
  have e1 := own_un x; have e4 := own_un (x ||| 32)
  have e3 : (x ||| 32).toUInt32.toNat = x.toUInt32.toNat ||| 32 := rfl
  rw [e3, own_or32N] at e4
  have r1 := (x ||| 32).toInt_lt; have r2 := (x ||| 32).le_toInt
  omega
theorem d1_0 : decode method_3_code 0 = .ok (.lload_n 0, 1) := by decide +kernel
theorem d1_1 : decode method_3_code 1 = .ok (.bipush 8, 2) := by decide +kernel
theorem d1_3 : decode method_3_code 3 = .ok (.iload_n 3, 1) := by decide +kernel
theorem d1_4 : decode method_3_code 4 = .ok (.imul, 1) := by decide +kernel
theorem d1_5 : decode method_3_code 5 = .ok (.lushr, 1) := by decide +kernel
theorem d1_6 : decode method_3_code 6 = .ok (.ldc2_w 23, 3) := by decide +kernel
theorem d1_9 : decode method_3_code 9 = .ok (.land, 1) := by decide +kernel
theorem d1_10 : decode method_3_code 10 = .ok (.l2i, 1) := by decide +kernel
theorem d1_11 : decode method_3_code 11 = .ok (.istore 4, 2) := by decide +kernel
theorem d1_13 : decode method_3_code 13 = .ok (.iload_n 2, 1) := by decide +kernel
theorem d1_14 : decode method_3_code 14 = .ok (.iload_n 3, 1) := by decide +kernel
theorem d1_15 : decode method_3_code 15 = .ok (.iushr, 1) := by decide +kernel
theorem d1_16 : decode method_3_code 16 = .ok (.iconst 1, 1) := by decide +kernel
theorem d1_17 : decode method_3_code 17 = .ok (.iand, 1) := by decide +kernel
theorem d1_18 : decode method_3_code 18 = .ok (.ifCond .eq 13, 3) := by decide +kernel
theorem d1_21 : decode method_3_code 21 = .ok (.bipush 48, 2) := by decide +kernel
theorem d1_23 : decode method_3_code 23 = .ok (.iload 4, 2) := by decide +kernel
theorem d1_25 : decode method_3_code 25 = .ok (.bipush 10, 2) := by decide +kernel
theorem d1_27 : decode method_3_code 27 = .ok (.irem, 1) := by decide +kernel
theorem d1_28 : decode method_3_code 28 = .ok (.iadd, 1) := by decide +kernel
theorem d1_29 : decode method_3_code 29 = .ok (.i2b, 1) := by decide +kernel
theorem d1_30 : decode method_3_code 30 = .ok (.ireturn, 1) := by decide +kernel
theorem d1_31 : decode method_3_code 31 = .ok (.iload 4, 2) := by decide +kernel
theorem d1_33 : decode method_3_code 33 = .ok (.i2b, 1) := by decide +kernel
theorem d1_34 : decode method_3_code 34 = .ok (.ireturn, 1) := by decide +kernel
theorem pn_com_example_chronofield_chronofield_io_Iso2709RecordDigitsPinLaw : plainName "com/example/chronofield/chronofield/io/Iso2709RecordDigitsPinLaw" = true := by first | (simp [plainName, overriddenIn]; done) | decide +kernel
theorem pd_JII_to_B : parseMethodDescriptor "(JII)B" = some ⟨[.long, .int, .int], some .byte⟩ := by decide +kernel
theorem d6_0 : decode method_5_code 0 = .ok (.iload_n 0, 1) := by decide +kernel
theorem d6_1 : decode method_5_code 1 = .ok (.ifCond .ne 5, 3) := by decide +kernel
theorem d6_4 : decode method_5_code 4 = .ok (.iconst 1, 1) := by decide +kernel
theorem d6_5 : decode method_5_code 5 = .ok (.ireturn, 1) := by decide +kernel
theorem d6_6 : decode method_5_code 6 = .ok (.iload_n 0, 1) := by decide +kernel
theorem d6_7 : decode method_5_code 7 = .ok (.iconst 1, 1) := by decide +kernel
theorem d6_8 : decode method_5_code 8 = .ok (.if_icmp .ne 6, 3) := by decide +kernel
theorem d6_11 : decode method_5_code 11 = .ok (.bipush 10, 2) := by decide +kernel
theorem d6_13 : decode method_5_code 13 = .ok (.ireturn, 1) := by decide +kernel
theorem d6_14 : decode method_5_code 14 = .ok (.iload_n 0, 1) := by decide +kernel
theorem d6_15 : decode method_5_code 15 = .ok (.iconst 2, 1) := by decide +kernel
theorem d6_16 : decode method_5_code 16 = .ok (.if_icmp .ne 6, 3) := by decide +kernel
theorem d6_19 : decode method_5_code 19 = .ok (.bipush 100, 2) := by decide +kernel
theorem d6_21 : decode method_5_code 21 = .ok (.ireturn, 1) := by decide +kernel
theorem d6_22 : decode method_5_code 22 = .ok (.iload_n 0, 1) := by decide +kernel
theorem d6_23 : decode method_5_code 23 = .ok (.iconst 3, 1) := by decide +kernel
theorem d6_24 : decode method_5_code 24 = .ok (.if_icmp .ne 7, 3) := by decide +kernel
theorem d6_27 : decode method_5_code 27 = .ok (.sipush 1000, 3) := by decide +kernel
theorem d6_30 : decode method_5_code 30 = .ok (.ireturn, 1) := by decide +kernel
theorem d6_31 : decode method_5_code 31 = .ok (.iload_n 0, 1) := by decide +kernel
theorem d6_32 : decode method_5_code 32 = .ok (.iconst 4, 1) := by decide +kernel
theorem d6_33 : decode method_5_code 33 = .ok (.if_icmp .ne 7, 3) := by decide +kernel
theorem d6_36 : decode method_5_code 36 = .ok (.sipush 10000, 3) := by decide +kernel
theorem d6_39 : decode method_5_code 39 = .ok (.ireturn, 1) := by decide +kernel
theorem d6_40 : decode method_5_code 40 = .ok (.iload_n 0, 1) := by decide +kernel
theorem d6_41 : decode method_5_code 41 = .ok (.iconst 5, 1) := by decide +kernel
theorem d6_42 : decode method_5_code 42 = .ok (.if_icmp .ne 6, 3) := by decide +kernel
theorem d6_45 : decode method_5_code 45 = .ok (.ldc 25, 2) := by decide +kernel
theorem d6_47 : decode method_5_code 47 = .ok (.ireturn, 1) := by decide +kernel
theorem d6_48 : decode method_5_code 48 = .ok (.iconst 0, 1) := by decide +kernel
theorem d6_49 : decode method_5_code 49 = .ok (.ireturn, 1) := by decide +kernel
theorem pd_I_to_I : parseMethodDescriptor "(I)I" = some ⟨[.int], some .int⟩ := by decide +kernel
theorem d3_0 : decode method_4_code 0 = .ok (.iload_n 1, 1) := by decide +kernel
theorem d3_1 : decode method_4_code 1 = .ok (.iload_n 2, 1) := by decide +kernel
theorem d3_2 : decode method_4_code 2 = .ok (.if_icmp .lt 30, 3) := by decide +kernel
theorem d3_5 : decode method_4_code 5 = .ok (.iload_n 1, 1) := by decide +kernel
theorem d3_6 : decode method_4_code 6 = .ok (.iload_n 2, 1) := by decide +kernel
theorem d3_7 : decode method_4_code 7 = .ok (.iload_n 3, 1) := by decide +kernel
theorem d3_8 : decode method_4_code 8 = .ok (.iadd, 1) := by decide +kernel
theorem d3_9 : decode method_4_code 9 = .ok (.if_icmp .ge 23, 3) := by decide +kernel
theorem d3_12 : decode method_4_code 12 = .ok (.aload_n 0, 1) := by decide +kernel
theorem d3_13 : decode method_4_code 13 = .ok (.iload_n 1, 1) := by decide +kernel
theorem d3_14 : decode method_4_code 14 = .ok (.baload, 1) := by decide +kernel
theorem d3_15 : decode method_4_code 15 = .ok (.bipush 48, 2) := by decide +kernel
theorem d3_17 : decode method_4_code 17 = .ok (.if_icmp .lt 11, 3) := by decide +kernel
theorem d3_20 : decode method_4_code 20 = .ok (.aload_n 0, 1) := by decide +kernel
theorem d3_21 : decode method_4_code 21 = .ok (.iload_n 1, 1) := by decide +kernel
theorem d3_22 : decode method_4_code 22 = .ok (.baload, 1) := by decide +kernel
theorem d3_23 : decode method_4_code 23 = .ok (.bipush 57, 2) := by decide +kernel
theorem d3_25 : decode method_4_code 25 = .ok (.if_icmp .le 7, 3) := by decide +kernel
theorem d3_28 : decode method_4_code 28 = .ok (.iconst 1, 1) := by decide +kernel
theorem d3_29 : decode method_4_code 29 = .ok (.goto 4, 3) := by decide +kernel
theorem d3_32 : decode method_4_code 32 = .ok (.iconst 0, 1) := by decide +kernel
theorem d3_33 : decode method_4_code 33 = .ok (.ireturn, 1) := by decide +kernel
theorem pd_aBIII_to_Z : parseMethodDescriptor "([BIII)Z" = some ⟨[(.array .byte), .int, .int, .int], some .boolean⟩ := by decide +kernel
theorem d4_0 : decode method_6_code 0 = .ok (.iload_n 1, 1) := by decide +kernel
theorem d4_1 : decode method_6_code 1 = .ok (.iload_n 2, 1) := by decide +kernel
theorem d4_2 : decode method_6_code 2 = .ok (.if_icmp .lt 10, 3) := by decide +kernel
theorem d4_5 : decode method_6_code 5 = .ok (.iload_n 1, 1) := by decide +kernel
theorem d4_6 : decode method_6_code 6 = .ok (.iload_n 2, 1) := by decide +kernel
theorem d4_7 : decode method_6_code 7 = .ok (.iload_n 3, 1) := by decide +kernel
theorem d4_8 : decode method_6_code 8 = .ok (.iadd, 1) := by decide +kernel
theorem d4_9 : decode method_6_code 9 = .ok (.if_icmp .lt 5, 3) := by decide +kernel
theorem d4_12 : decode method_6_code 12 = .ok (.iconst 0, 1) := by decide +kernel
theorem d4_13 : decode method_6_code 13 = .ok (.ireturn, 1) := by decide +kernel
theorem d4_14 : decode method_6_code 14 = .ok (.aload_n 0, 1) := by decide +kernel
theorem d4_15 : decode method_6_code 15 = .ok (.iload_n 1, 1) := by decide +kernel
theorem d4_16 : decode method_6_code 16 = .ok (.baload, 1) := by decide +kernel
theorem d4_17 : decode method_6_code 17 = .ok (.bipush 48, 2) := by decide +kernel
theorem d4_19 : decode method_6_code 19 = .ok (.isub, 1) := by decide +kernel
theorem d4_20 : decode method_6_code 20 = .ok (.iload_n 2, 1) := by decide +kernel
theorem d4_21 : decode method_6_code 21 = .ok (.iload_n 3, 1) := by decide +kernel
theorem d4_22 : decode method_6_code 22 = .ok (.iadd, 1) := by decide +kernel
theorem d4_23 : decode method_6_code 23 = .ok (.iconst 1, 1) := by decide +kernel
theorem d4_24 : decode method_6_code 24 = .ok (.isub, 1) := by decide +kernel
theorem d4_25 : decode method_6_code 25 = .ok (.iload_n 1, 1) := by decide +kernel
theorem d4_26 : decode method_6_code 26 = .ok (.isub, 1) := by decide +kernel
theorem d4_27 : decode method_6_code 27 = .ok (.invokestatic 26, 3) := by decide +kernel
theorem d4_30 : decode method_6_code 30 = .ok (.imul, 1) := by decide +kernel
theorem d4_31 : decode method_6_code 31 = .ok (.ireturn, 1) := by decide +kernel
theorem pd_aBIII_to_I : parseMethodDescriptor "([BIII)I" = some ⟨[(.array .byte), .int, .int, .int], some .int⟩ := by decide +kernel
theorem d2_0 : decode method_7_code 0 = .ok (.aload_n 0, 1) := by decide +kernel
theorem d2_1 : decode method_7_code 1 = .ok (.iconst 0, 1) := by decide +kernel
theorem d2_2 : decode method_7_code 2 = .ok (.iload_n 1, 1) := by decide +kernel
theorem d2_3 : decode method_7_code 3 = .ok (.iload_n 2, 1) := by decide +kernel
theorem d2_4 : decode method_7_code 4 = .ok (.invokestatic 30, 3) := by decide +kernel
theorem d2_7 : decode method_7_code 7 = .ok (.ifCond .ne 53, 3) := by decide +kernel
theorem d2_10 : decode method_7_code 10 = .ok (.aload_n 0, 1) := by decide +kernel
theorem d2_11 : decode method_7_code 11 = .ok (.iconst 1, 1) := by decide +kernel
theorem d2_12 : decode method_7_code 12 = .ok (.iload_n 1, 1) := by decide +kernel
theorem d2_13 : decode method_7_code 13 = .ok (.iload_n 2, 1) := by decide +kernel
theorem d2_14 : decode method_7_code 14 = .ok (.invokestatic 30, 3) := by decide +kernel
theorem d2_17 : decode method_7_code 17 = .ok (.ifCond .ne 43, 3) := by decide +kernel
theorem d2_20 : decode method_7_code 20 = .ok (.aload_n 0, 1) := by decide +kernel
theorem d2_21 : decode method_7_code 21 = .ok (.iconst 2, 1) := by decide +kernel
theorem d2_22 : decode method_7_code 22 = .ok (.iload_n 1, 1) := by decide +kernel
theorem d2_23 : decode method_7_code 23 = .ok (.iload_n 2, 1) := by decide +kernel
theorem d2_24 : decode method_7_code 24 = .ok (.invokestatic 30, 3) := by decide +kernel
theorem d2_27 : decode method_7_code 27 = .ok (.ifCond .ne 33, 3) := by decide +kernel
theorem d2_30 : decode method_7_code 30 = .ok (.aload_n 0, 1) := by decide +kernel
theorem d2_31 : decode method_7_code 31 = .ok (.iconst 3, 1) := by decide +kernel
theorem d2_32 : decode method_7_code 32 = .ok (.iload_n 1, 1) := by decide +kernel
theorem d2_33 : decode method_7_code 33 = .ok (.iload_n 2, 1) := by decide +kernel
theorem d2_34 : decode method_7_code 34 = .ok (.invokestatic 30, 3) := by decide +kernel
theorem d2_37 : decode method_7_code 37 = .ok (.ifCond .ne 23, 3) := by decide +kernel
theorem d2_40 : decode method_7_code 40 = .ok (.aload_n 0, 1) := by decide +kernel
theorem d2_41 : decode method_7_code 41 = .ok (.iconst 4, 1) := by decide +kernel
theorem d2_42 : decode method_7_code 42 = .ok (.iload_n 1, 1) := by decide +kernel
theorem d2_43 : decode method_7_code 43 = .ok (.iload_n 2, 1) := by decide +kernel
theorem d2_44 : decode method_7_code 44 = .ok (.invokestatic 30, 3) := by decide +kernel
theorem d2_47 : decode method_7_code 47 = .ok (.ifCond .ne 13, 3) := by decide +kernel
theorem d2_50 : decode method_7_code 50 = .ok (.aload_n 0, 1) := by decide +kernel
theorem d2_51 : decode method_7_code 51 = .ok (.iconst 5, 1) := by decide +kernel
theorem d2_52 : decode method_7_code 52 = .ok (.iload_n 1, 1) := by decide +kernel
theorem d2_53 : decode method_7_code 53 = .ok (.iload_n 2, 1) := by decide +kernel
theorem d2_54 : decode method_7_code 54 = .ok (.invokestatic 30, 3) := by decide +kernel
theorem d2_57 : decode method_7_code 57 = .ok (.ifCond .eq 5, 3) := by decide +kernel
theorem d2_60 : decode method_7_code 60 = .ok (.iconst (-1), 1) := by decide +kernel
theorem d2_61 : decode method_7_code 61 = .ok (.ireturn, 1) := by decide +kernel
theorem d2_62 : decode method_7_code 62 = .ok (.aload_n 0, 1) := by decide +kernel
theorem d2_63 : decode method_7_code 63 = .ok (.iconst 0, 1) := by decide +kernel
theorem d2_64 : decode method_7_code 64 = .ok (.iload_n 1, 1) := by decide +kernel
theorem d2_65 : decode method_7_code 65 = .ok (.iload_n 2, 1) := by decide +kernel
theorem d2_66 : decode method_7_code 66 = .ok (.invokestatic 34, 3) := by decide +kernel
theorem d2_69 : decode method_7_code 69 = .ok (.aload_n 0, 1) := by decide +kernel
theorem d2_70 : decode method_7_code 70 = .ok (.iconst 1, 1) := by decide +kernel
theorem d2_71 : decode method_7_code 71 = .ok (.iload_n 1, 1) := by decide +kernel
theorem d2_72 : decode method_7_code 72 = .ok (.iload_n 2, 1) := by decide +kernel
theorem d2_73 : decode method_7_code 73 = .ok (.invokestatic 34, 3) := by decide +kernel
theorem d2_76 : decode method_7_code 76 = .ok (.iadd, 1) := by decide +kernel
theorem d2_77 : decode method_7_code 77 = .ok (.aload_n 0, 1) := by decide +kernel
theorem d2_78 : decode method_7_code 78 = .ok (.iconst 2, 1) := by decide +kernel
theorem d2_79 : decode method_7_code 79 = .ok (.iload_n 1, 1) := by decide +kernel
theorem d2_80 : decode method_7_code 80 = .ok (.iload_n 2, 1) := by decide +kernel
theorem d2_81 : decode method_7_code 81 = .ok (.invokestatic 34, 3) := by decide +kernel
theorem d2_84 : decode method_7_code 84 = .ok (.iadd, 1) := by decide +kernel
theorem d2_85 : decode method_7_code 85 = .ok (.aload_n 0, 1) := by decide +kernel
theorem d2_86 : decode method_7_code 86 = .ok (.iconst 3, 1) := by decide +kernel
theorem d2_87 : decode method_7_code 87 = .ok (.iload_n 1, 1) := by decide +kernel
theorem d2_88 : decode method_7_code 88 = .ok (.iload_n 2, 1) := by decide +kernel
theorem d2_89 : decode method_7_code 89 = .ok (.invokestatic 34, 3) := by decide +kernel
theorem d2_92 : decode method_7_code 92 = .ok (.iadd, 1) := by decide +kernel
theorem d2_93 : decode method_7_code 93 = .ok (.aload_n 0, 1) := by decide +kernel
theorem d2_94 : decode method_7_code 94 = .ok (.iconst 4, 1) := by decide +kernel
theorem d2_95 : decode method_7_code 95 = .ok (.iload_n 1, 1) := by decide +kernel
theorem d2_96 : decode method_7_code 96 = .ok (.iload_n 2, 1) := by decide +kernel
theorem d2_97 : decode method_7_code 97 = .ok (.invokestatic 34, 3) := by decide +kernel
theorem d2_100 : decode method_7_code 100 = .ok (.iadd, 1) := by decide +kernel
theorem d2_101 : decode method_7_code 101 = .ok (.aload_n 0, 1) := by decide +kernel
theorem d2_102 : decode method_7_code 102 = .ok (.iconst 5, 1) := by decide +kernel
theorem d2_103 : decode method_7_code 103 = .ok (.iload_n 1, 1) := by decide +kernel
theorem d2_104 : decode method_7_code 104 = .ok (.iload_n 2, 1) := by decide +kernel
theorem d2_105 : decode method_7_code 105 = .ok (.invokestatic 34, 3) := by decide +kernel
theorem d2_108 : decode method_7_code 108 = .ok (.iadd, 1) := by decide +kernel
theorem d2_109 : decode method_7_code 109 = .ok (.ireturn, 1) := by decide +kernel
theorem pd_aBII_to_I : parseMethodDescriptor "([BII)I" = some ⟨[(.array .byte), .int, .int], some .int⟩ := by decide +kernel
theorem d5_0 : decode prog_3_method_21_code 0 = .ok (.iconst 0, 1) := by decide +kernel
theorem d5_1 : decode prog_3_method_21_code 1 = .ok (.istore_n 3, 1) := by decide +kernel
theorem d5_2 : decode prog_3_method_21_code 2 = .ok (.iload_n 1, 1) := by decide +kernel
theorem d5_3 : decode prog_3_method_21_code 3 = .ok (.istore 4, 2) := by decide +kernel
theorem d5_5 : decode prog_3_method_21_code 5 = .ok (.iload 4, 2) := by decide +kernel
theorem d5_7 : decode prog_3_method_21_code 7 = .ok (.iload_n 1, 1) := by decide +kernel
theorem d5_8 : decode prog_3_method_21_code 8 = .ok (.iload_n 2, 1) := by decide +kernel
theorem d5_9 : decode prog_3_method_21_code 9 = .ok (.iadd, 1) := by decide +kernel
theorem d5_10 : decode prog_3_method_21_code 10 = .ok (.if_icmp .ge 42, 3) := by decide +kernel
theorem d5_13 : decode prog_3_method_21_code 13 = .ok (.aload_n 0, 1) := by decide +kernel
theorem d5_14 : decode prog_3_method_21_code 14 = .ok (.iload 4, 2) := by decide +kernel
theorem d5_16 : decode prog_3_method_21_code 16 = .ok (.baload, 1) := by decide +kernel
theorem d5_17 : decode prog_3_method_21_code 17 = .ok (.bipush 48, 2) := by decide +kernel
theorem d5_19 : decode prog_3_method_21_code 19 = .ok (.if_icmp .lt 12, 3) := by decide +kernel
theorem d5_22 : decode prog_3_method_21_code 22 = .ok (.aload_n 0, 1) := by decide +kernel
theorem d5_23 : decode prog_3_method_21_code 23 = .ok (.iload 4, 2) := by decide +kernel
theorem d5_25 : decode prog_3_method_21_code 25 = .ok (.baload, 1) := by decide +kernel
theorem d5_26 : decode prog_3_method_21_code 26 = .ok (.bipush 57, 2) := by decide +kernel
theorem d5_28 : decode prog_3_method_21_code 28 = .ok (.if_icmp .le 5, 3) := by decide +kernel
theorem d5_31 : decode prog_3_method_21_code 31 = .ok (.iconst (-1), 1) := by decide +kernel
theorem d5_32 : decode prog_3_method_21_code 32 = .ok (.ireturn, 1) := by decide +kernel
theorem d5_33 : decode prog_3_method_21_code 33 = .ok (.iload_n 3, 1) := by decide +kernel
theorem d5_34 : decode prog_3_method_21_code 34 = .ok (.bipush 10, 2) := by decide +kernel
theorem d5_36 : decode prog_3_method_21_code 36 = .ok (.imul, 1) := by decide +kernel
theorem d5_37 : decode prog_3_method_21_code 37 = .ok (.aload_n 0, 1) := by decide +kernel
theorem d5_38 : decode prog_3_method_21_code 38 = .ok (.iload 4, 2) := by decide +kernel
theorem d5_40 : decode prog_3_method_21_code 40 = .ok (.baload, 1) := by decide +kernel
theorem d5_41 : decode prog_3_method_21_code 41 = .ok (.iadd, 1) := by decide +kernel
theorem d5_42 : decode prog_3_method_21_code 42 = .ok (.bipush 48, 2) := by decide +kernel
theorem d5_44 : decode prog_3_method_21_code 44 = .ok (.isub, 1) := by decide +kernel
theorem d5_45 : decode prog_3_method_21_code 45 = .ok (.istore_n 3, 1) := by decide +kernel
theorem d5_46 : decode prog_3_method_21_code 46 = .ok (.iinc 4 1, 3) := by decide +kernel
theorem d5_49 : decode prog_3_method_21_code 49 = .ok (.goto (-44), 3) := by decide +kernel
theorem d5_52 : decode prog_3_method_21_code 52 = .ok (.iload_n 3, 1) := by decide +kernel
theorem d5_53 : decode prog_3_method_21_code 53 = .ok (.ireturn, 1) := by decide +kernel
theorem pn_com_example_chronofield_chronofield_io_Iso2709Record : plainName "com/example/chronofield/chronofield/io/Iso2709Record" = true := by first | (simp [plainName, overriddenIn]; done) | decide +kernel
theorem pd_JIII_to_Z : parseMethodDescriptor "(JIII)Z" = some ⟨[.long, .int, .int, .int], some .boolean⟩ := by decide +kernel
def own_p (e : Int) : Int := if e = 0 then 1 else if e = 1 then 10 else if e = 2 then 100 else if e = 3 then 1000 else if e = 4 then 10000 else if e = 5 then 100000 else 0
def own_bad (f n k : Int) (y : Int32) : Prop := f ≤ k ∧ k < f + n ∧ (y.toInt < 48 ∨ 57 < y.toInt)
def own_t (f n k : Int) (y : Int32) : Int := if f ≤ k ∧ k < f + n then (y.toInt - 48) * own_p (f + n - 1 - k) else 0
def own_dig : List Int32 → Int → Int
  | [], s => s
  | y :: ys, s => if y.toInt < 48 ∨ 57 < y.toInt then -1 else own_dig ys (s * 10 + y.toInt - 48)
def own_cap : Nat → Int
  | 0 => 1000000
  | 1 => 100000
  | 2 => 10000
  | 3 => 1000
  | 4 => 100
  | 5 => 10
  | 6 => 1
  | _ => 0
theorem own_cap1 (n : Nat) (s d : Int) (h : s < own_cap (n + 1)) (h0 : 0 ≤ s) (hd : 0 ≤ d ∧ d ≤ 9) : s * 10 + d < own_cap n ∧ own_cap n ≤ 1000000 ∧ s ≤ 100000 := by
  match n, h with
  | 0, h => simp only [own_cap] at *; omega
  | 1, h => simp only [own_cap] at *; omega
  | 2, h => simp only [own_cap] at *; omega
  | 3, h => simp only [own_cap] at *; omega
  | 4, h => simp only [own_cap] at *; omega
  | 5, h => simp only [own_cap] at *; omega
  | (k + 6), h => simp only [own_cap] at h; omega
theorem own_p_cases (e : Int) : own_p e = 1 ∨ own_p e = 10 ∨ own_p e = 100 ∨ own_p e = 1000 ∨ own_p e = 10000 ∨ own_p e = 100000 ∨ own_p e = 0 := by
  obtain ⟨z, hz⟩ : ∃ z, z = own_p e := ⟨_, rfl⟩
  rw [← hz]
  unfold own_p at hz
  repeat' split at hz
  all_goals omega
theorem own_wrap (P : Int) (h : -17600000 ≤ P ∧ P ≤ 17600000) : (P + 2147483648) % 4294967296 - 2147483648 = P := by omega
set_option maxRecDepth 65536 in
set_option maxHeartbeats 40000000 in
theorem rm_pick (l : Launch) (Z : State) (a0 : Array Value) (hw : ∀ d ∈ tables_1, d.before a0 Z = true) (ws : List Jvm.Cond) (q : Int64) (m i : Int32) (h0 : Heap) (n0 : Nat) (hz : n0 ≤ h0.size) :
    OwnMet l (⟨"com/example/chronofield/chronofield/io/Iso2709RecordDigitsPinLaw", "pick", "(JII)B"⟩ : MethodName) method_3_code 5 (some .byte) ws ({ frames := 0, cells := 0, slots := 0, locals := 0 } : Room) Z h0 n0 #[.long q, .int m, .int i] (fun v h => (∃ z, v = some (.int z)) ∧ h0 = h) := by
  refine OwnMet.of (own := "com/example/chronofield/chronofield/io/Iso2709RecordDigitsPinLaw") (name := "pick") (desc := "(JII)B") (Ls := [.val (.long q), .second, .val (.int m), .val (.int i), .unset]) (plainFor_of_name pn_com_example_chronofield_chronofield_io_Iso2709RecordDigitsPinLaw) (fun m => by first | (simp [entryFrame, mkF, argsToLocals, Value.category]; done) | rfl) ?_
  intro K hK C
  refine w_lloadN 1 C d1_0 rfl rfl ?_
  refine w_bipush 3 (8 : Int32) C d1_1 rfl rfl ?_
  refine w_iloadN 4 C d1_3 rfl rfl ?_
  refine w_imul 5 C d1_4 rfl ?_
  refine w_lushr 6 C d1_5 rfl ?_
  refine w_ldc2 (v := (255 : Int64)) 9 C d1_6 rfl (hw _ (List.mem_of_getElem? (i := 6) rfl)) ?_
  refine w_land 10 C d1_9 rfl ?_
  refine w_l2i 11 C d1_10 rfl ?_
  refine w_istore 13 [.val (.long q), .second, .val (.int m), .val (.int i), .val (.int ((((q.toUInt64 >>> (((8 : Int32) * i) &&& 0x3f).toInt64.toUInt64).toInt64) &&& (255 : Int64)).toInt32))] C d1_11 rfl rfl ?_
  generalize hv_x1 : ((((q.toUInt64 >>> (((8 : Int32) * i) &&& 0x3f).toInt64.toUInt64).toInt64) &&& (255 : Int64)).toInt32) = x1
  refine w_iloadN 14 C d1_13 rfl rfl ?_
  refine w_iloadN 15 C d1_14 rfl rfl ?_
  refine w_iushr 16 C d1_15 rfl ?_
  refine w_iconst 17 (1 : Int32) C d1_16 rfl rfl ?_
  refine w_iand 18 C d1_17 rfl ?_
  refine w_if 31 21 C d1_18 rfl rfl (fun (hc18 : (((m.toUInt32 >>> (i &&& 31).toUInt32).toInt32) &&& (1 : Int32)) = (0 : Int32)) => ?_) (fun (hc18 : ¬ ((((m.toUInt32 >>> (i &&& 31).toUInt32).toInt32) &&& (1 : Int32)) = (0 : Int32))) => ?_)
  · refine w_iload 33 C d1_31 rfl rfl ?_
    refine w_i2b 34 C d1_33 rfl ?_
    refine w_retN C (by simp) d1_34 rfl (by decide) (by decide) ?_
    exact ⟨⟨_, rfl⟩, rfl⟩
  · refine w_bipush 23 (48 : Int32) C d1_21 rfl rfl ?_
    refine w_iload 25 C d1_23 rfl rfl ?_
    refine w_bipush 27 (10 : Int32) C d1_25 rfl rfl ?_
    refine w_irem 28 C d1_27 rfl (by decide) ?_
    refine w_iadd 29 C d1_28 rfl ?_
    refine w_i2b 30 C d1_29 rfl ?_
    refine w_retN C (by simp) d1_30 rfl (by decide) (by decide) ?_
    exact ⟨⟨_, rfl⟩, rfl⟩
set_option maxRecDepth 65536 in
set_option maxHeartbeats 40000000 in
theorem rm_pow (l : Launch) (Z : State) (a0 : Array Value) (hw : ∀ d ∈ tables_1, d.before a0 Z = true) (ws : List Jvm.Cond) (e : Int32) (h0 : Heap) (n0 : Nat) (hz : n0 ≤ h0.size) :
    OwnMet l (⟨"com/example/chronofield/chronofield/io/Iso2709RecordDigitsPinLaw", "pow10", "(I)I"⟩ : MethodName) method_5_code 1 (some .int) ws ({ frames := 0, cells := 0, slots := 0, locals := 0 } : Room) Z h0 n0 #[.int e] (fun v h => (∃ z, v = some (.int z) ∧ z.toInt = own_p e.toInt) ∧ h0 = h) := by
  refine OwnMet.of (own := "com/example/chronofield/chronofield/io/Iso2709RecordDigitsPinLaw") (name := "pow10") (desc := "(I)I") (Ls := [.val (.int e)]) (plainFor_of_name pn_com_example_chronofield_chronofield_io_Iso2709RecordDigitsPinLaw) (fun m => by first | (simp [entryFrame, mkF, argsToLocals, Value.category]; done) | rfl) ?_
  intro K hK C
  refine w_iloadN 1 C d6_0 rfl rfl ?_
  refine w_if 6 4 C d6_1 rfl rfl (fun (hc1 : ¬ (e = (0 : Int32))) => ?_) (fun (hc1 : ¬ (¬ (e = (0 : Int32)))) => ?_)
  · refine w_iloadN 7 C d6_6 rfl rfl ?_
    refine w_iconst 8 (1 : Int32) C d6_7 rfl rfl ?_
    refine w_icmp 14 11 C d6_8 rfl rfl (fun (hc8 : ¬ (e = (1 : Int32))) => ?_) (fun (hc8 : ¬ (¬ (e = (1 : Int32)))) => ?_)
    · refine w_iloadN 15 C d6_14 rfl rfl ?_
      refine w_iconst 16 (2 : Int32) C d6_15 rfl rfl ?_
      refine w_icmp 22 19 C d6_16 rfl rfl (fun (hc16 : ¬ (e = (2 : Int32))) => ?_) (fun (hc16 : ¬ (¬ (e = (2 : Int32)))) => ?_)
      · refine w_iloadN 23 C d6_22 rfl rfl ?_
        refine w_iconst 24 (3 : Int32) C d6_23 rfl rfl ?_
        refine w_icmp 31 27 C d6_24 rfl rfl (fun (hc24 : ¬ (e = (3 : Int32))) => ?_) (fun (hc24 : ¬ (¬ (e = (3 : Int32)))) => ?_)
        · refine w_iloadN 32 C d6_31 rfl rfl ?_
          refine w_iconst 33 (4 : Int32) C d6_32 rfl rfl ?_
          refine w_icmp 40 36 C d6_33 rfl rfl (fun (hc33 : ¬ (e = (4 : Int32))) => ?_) (fun (hc33 : ¬ (¬ (e = (4 : Int32)))) => ?_)
          · refine w_iloadN 41 C d6_40 rfl rfl ?_
            refine w_iconst 42 (5 : Int32) C d6_41 rfl rfl ?_
            refine w_icmp 48 45 C d6_42 rfl rfl (fun (hc42 : ¬ (e = (5 : Int32))) => ?_) (fun (hc42 : ¬ (¬ (e = (5 : Int32)))) => ?_)
            · refine w_iconst 49 (0 : Int32) C d6_48 rfl rfl ?_
              simp only [own_eqi, Int32.reduceToInt] at *
              refine w_retI C d6_49 (by decide) (by decide) ?_
              exact ⟨⟨_, rfl, by simp only [own_p, Int32.reduceToInt]; repeat' split <;> omega⟩, rfl⟩
            · refine w_ldc (v := (100000 : Int32)) 47 C d6_45 rfl (hw _ (List.mem_of_getElem? (i := 23) rfl)) ?_
              simp only [own_eqi, Int32.reduceToInt] at *
              refine w_retI C d6_47 (by decide) (by decide) ?_
              exact ⟨⟨_, rfl, by simp only [own_p, Int32.reduceToInt]; repeat' split <;> omega⟩, rfl⟩
          · refine w_sipush 39 (10000 : Int32) C d6_36 rfl rfl ?_
            simp only [own_eqi, Int32.reduceToInt] at *
            refine w_retI C d6_39 (by decide) (by decide) ?_
            exact ⟨⟨_, rfl, by simp only [own_p, Int32.reduceToInt]; repeat' split <;> omega⟩, rfl⟩
        · refine w_sipush 30 (1000 : Int32) C d6_27 rfl rfl ?_
          simp only [own_eqi, Int32.reduceToInt] at *
          refine w_retI C d6_30 (by decide) (by decide) ?_
          exact ⟨⟨_, rfl, by simp only [own_p, Int32.reduceToInt]; repeat' split <;> omega⟩, rfl⟩
      · refine w_bipush 21 (100 : Int32) C d6_19 rfl rfl ?_
        simp only [own_eqi, Int32.reduceToInt] at *
        refine w_retI C d6_21 (by decide) (by decide) ?_
        exact ⟨⟨_, rfl, by simp only [own_p, Int32.reduceToInt]; repeat' split <;> omega⟩, rfl⟩
    · refine w_bipush 13 (10 : Int32) C d6_11 rfl rfl ?_
      simp only [own_eqi, Int32.reduceToInt] at *
      refine w_retI C d6_13 (by decide) (by decide) ?_
      exact ⟨⟨_, rfl, by simp only [own_p, Int32.reduceToInt]; repeat' split <;> omega⟩, rfl⟩
  · refine w_iconst 5 (1 : Int32) C d6_4 rfl rfl ?_
    simp only [own_eqi, Int32.reduceToInt] at *
    refine w_retI C d6_5 (by decide) (by decide) ?_
    exact ⟨⟨_, rfl, by simp only [own_p, Int32.reduceToInt]; repeat' split <;> omega⟩, rfl⟩
set_option maxRecDepth 65536 in
set_option maxHeartbeats 40000000 in
theorem rm_bad (l : Launch) (Z : State) (a0 : Array Value) (hw : ∀ d ∈ tables_1, d.before a0 Z = true) (ws : List Jvm.Cond) (a : Addr) (i f n : Int32) (vs : List Int32) (k : Nat) (y : Int32) (h0 : Heap) (n0 : Nat) (hz : n0 ≤ h0.size) (A : Ai Z h0 a .byte vs) (hi : i.toInt = (k : Int)) (hv : vs[k]? = some y) (hf : 0 ≤ f.toInt ∧ f.toInt ≤ 6) (hn : 0 ≤ n.toInt ∧ n.toInt ≤ 6) :
    OwnMet l (⟨"com/example/chronofield/chronofield/io/Iso2709RecordDigitsPinLaw", "bad", "([BIII)Z"⟩ : MethodName) method_4_code 4 (some .boolean) ws ({ frames := 0, cells := 0, slots := 0, locals := 0 } : Room) Z h0 n0 #[.ref a, .int i, .int f, .int n] (fun v h => (∃ z, v = some (.int z) ∧ ((own_bad f.toInt n.toInt k y ∧ z = 1) ∨ (¬ own_bad f.toInt n.toInt k y ∧ z = 0))) ∧ h0 = h) := by
  refine OwnMet.of (own := "com/example/chronofield/chronofield/io/Iso2709RecordDigitsPinLaw") (name := "bad") (desc := "([BIII)Z") (Ls := [.val (.ref a), .val (.int i), .val (.int f), .val (.int n)]) (plainFor_of_name pn_com_example_chronofield_chronofield_io_Iso2709RecordDigitsPinLaw) (fun m => by first | (simp [entryFrame, mkF, argsToLocals, Value.category]; done) | rfl) ?_
  intro K hK C
  have hs : (f + n).toInt = f.toInt + n.toInt := by rw [own_iadd]; omega
  refine w_iloadN 1 C d3_0 rfl rfl ?_
  refine w_iloadN 2 C d3_1 rfl rfl ?_
  refine w_icmp 32 5 C d3_2 rfl rfl (fun (hc2 : i.toInt < f.toInt) => ?_) (fun (hc2 : ¬ (i.toInt < f.toInt)) => ?_)
  · refine w_iconst 33 (0 : Int32) C d3_32 rfl rfl ?_
    simp only [own_eqi, Int32.reduceToInt] at *
    refine w_retN C (by simp) d3_33 rfl (by decide) (by decide) ?_
    exact ⟨⟨_, rfl, Or.inr ⟨by simp only [own_bad]; omega, rfl⟩⟩, rfl⟩
  · refine w_iloadN 6 C d3_5 rfl rfl ?_
    refine w_iloadN 7 C d3_6 rfl rfl ?_
    refine w_iloadN 8 C d3_7 rfl rfl ?_
    refine w_iadd 9 C d3_8 rfl ?_
    refine w_icmp 32 12 C d3_9 rfl rfl (fun (hc9 : (f + n).toInt ≤ i.toInt) => ?_) (fun (hc9 : ¬ ((f + n).toInt ≤ i.toInt)) => ?_)
    · refine w_iconst 33 (0 : Int32) C d3_32 rfl rfl ?_
      simp only [own_eqi, Int32.reduceToInt] at *
      refine w_retN C (by simp) d3_33 rfl (by decide) (by decide) ?_
      exact ⟨⟨_, rfl, Or.inr ⟨by simp only [own_bad]; omega, rfl⟩⟩, rfl⟩
    · refine w_aloadN 13 C d3_12 rfl rfl rfl ?_
      refine w_iloadN 14 C d3_13 rfl rfl ?_
      refine w_baload 15 (k) y C A d3_14 rfl hi hv ?_
      refine w_bipush 17 (48 : Int32) C d3_15 rfl rfl ?_
      refine w_icmp 28 20 C d3_17 rfl rfl (fun (hc17 : y.toInt < (48 : Int32).toInt) => ?_) (fun (hc17 : ¬ (y.toInt < (48 : Int32).toInt)) => ?_)
      · refine w_iconst 29 (1 : Int32) C d3_28 rfl rfl ?_
        refine w_goto 33 C d3_29 rfl ?_
        simp only [own_eqi, Int32.reduceToInt] at *
        refine w_retN C (by simp) d3_33 rfl (by decide) (by decide) ?_
        exact ⟨⟨_, rfl, Or.inl ⟨by simp only [own_bad]; omega, rfl⟩⟩, rfl⟩
      · refine w_aloadN 21 C d3_20 rfl rfl rfl ?_
        refine w_iloadN 22 C d3_21 rfl rfl ?_
        refine w_baload 23 (k) y C A d3_22 rfl hi hv ?_
        refine w_bipush 25 (57 : Int32) C d3_23 rfl rfl ?_
        refine w_icmp 32 28 C d3_25 rfl rfl (fun (hc25 : y.toInt ≤ (57 : Int32).toInt) => ?_) (fun (hc25 : ¬ (y.toInt ≤ (57 : Int32).toInt)) => ?_)
        · refine w_iconst 33 (0 : Int32) C d3_32 rfl rfl ?_
          simp only [own_eqi, Int32.reduceToInt] at *
          refine w_retN C (by simp) d3_33 rfl (by decide) (by decide) ?_
          exact ⟨⟨_, rfl, Or.inr ⟨by simp only [own_bad]; omega, rfl⟩⟩, rfl⟩
        · refine w_iconst 29 (1 : Int32) C d3_28 rfl rfl ?_
          refine w_goto 33 C d3_29 rfl ?_
          simp only [own_eqi, Int32.reduceToInt] at *
          refine w_retN C (by simp) d3_33 rfl (by decide) (by decide) ?_
          exact ⟨⟨_, rfl, Or.inl ⟨by simp only [own_bad]; omega, rfl⟩⟩, rfl⟩
set_option maxRecDepth 65536 in
set_option maxHeartbeats 40000000 in
theorem rm_term (l : Launch) (Z : State) (a0 : Array Value) (hw : ∀ d ∈ tables_1, d.before a0 Z = true) (ws : List Jvm.Cond) (a : Addr) (i f n : Int32) (vs : List Int32) (k : Nat) (y : Int32) (h0 : Heap) (n0 : Nat) (hz : n0 ≤ h0.size) (A : Ai Z h0 a .byte vs) (hi : i.toInt = (k : Int)) (hv : vs[k]? = some y) (hf : 0 ≤ f.toInt ∧ f.toInt ≤ 6) (hn : 0 ≤ n.toInt ∧ n.toInt ≤ 6) (hy : -128 ≤ y.toInt ∧ y.toInt ≤ 127) :
    OwnMet l (⟨"com/example/chronofield/chronofield/io/Iso2709RecordDigitsPinLaw", "term", "([BIII)I"⟩ : MethodName) method_6_code 4 (some .int) ws ({ frames := 1, cells := 0, slots := 0, locals := 13 } : Room) Z h0 n0 #[.ref a, .int i, .int f, .int n] (fun v h => (∃ z, v = some (.int z) ∧ z.toInt = own_t f.toInt n.toInt k y ∧ -17600000 ≤ z.toInt ∧ z.toInt ≤ 17600000) ∧ h0 = h) := by
  refine OwnMet.of (own := "com/example/chronofield/chronofield/io/Iso2709RecordDigitsPinLaw") (name := "term") (desc := "([BIII)I") (Ls := [.val (.ref a), .val (.int i), .val (.int f), .val (.int n)]) (plainFor_of_name pn_com_example_chronofield_chronofield_io_Iso2709RecordDigitsPinLaw) (fun m => by first | (simp [entryFrame, mkF, argsToLocals, Value.category]; done) | rfl) ?_
  intro K hK C
  have hs : (f + n).toInt = f.toInt + n.toInt := by rw [own_iadd]; omega
  refine w_iloadN 1 C d4_0 rfl rfl ?_
  refine w_iloadN 2 C d4_1 rfl rfl ?_
  refine w_icmp 12 5 C d4_2 rfl rfl (fun (hc2 : i.toInt < f.toInt) => ?_) (fun (hc2 : ¬ (i.toInt < f.toInt)) => ?_)
  · refine w_iconst 13 (0 : Int32) C d4_12 rfl rfl ?_
    refine w_retI C d4_13 (by decide) (by decide) ?_
    exact ⟨⟨_, rfl, by rw [own_t, if_neg (by first | omega | (simp only [Int32.reduceToInt] at *; omega))]; decide, by decide, by decide⟩, rfl⟩
  · refine w_iloadN 6 C d4_5 rfl rfl ?_
    refine w_iloadN 7 C d4_6 rfl rfl ?_
    refine w_iloadN 8 C d4_7 rfl rfl ?_
    refine w_iadd 9 C d4_8 rfl ?_
    refine w_icmp 14 12 C d4_9 rfl rfl (fun (hc9 : i.toInt < (f + n).toInt) => ?_) (fun (hc9 : ¬ (i.toInt < (f + n).toInt)) => ?_)
    · refine w_aloadN 15 C d4_14 rfl rfl rfl ?_
      refine w_iloadN 16 C d4_15 rfl rfl ?_
      refine w_baload 17 (k) y C A d4_16 rfl hi hv ?_
      refine w_bipush 19 (48 : Int32) C d4_17 rfl rfl ?_
      refine w_isub 20 C d4_19 rfl ?_
      refine w_iloadN 21 C d4_20 rfl rfl ?_
      refine w_iloadN 22 C d4_21 rfl rfl ?_
      refine w_iadd 23 C d4_22 rfl ?_
      refine w_iconst 24 (1 : Int32) C d4_23 rfl rfl ?_
      refine w_isub 25 C d4_24 rfl ?_
      refine w_iloadN 26 C d4_25 rfl rfl ?_
      refine w_isub 27 C d4_26 rfl ?_
      obtain ⟨e, he⟩ : ∃ z, (((f + n) - (1 : Int32)) - i) = z := ⟨_, rfl⟩
      rw [he]
      refine w_callS (y := (⟨"com/example/chronofield/chronofield/io/Iso2709RecordDigitsPinLaw", "pow10", "(I)I"⟩ : MethodName)) 30 1 [.int e] C d4_27 rfl (hw _ (List.mem_of_getElem? (i := 20) rfl)) (hw _ (List.mem_of_getElem? (i := 21) rfl)) (hw _ (List.mem_of_getElem? (i := 4) rfl)) (hw _ (List.mem_of_getElem? (i := 22) rfl)) (by decide) (rm_pow K.l Z a0 hw [] e h0 n0 hz) pd_I_to_I rfl (rest := [.int (y - (48 : Int32))]) rfl rfl (Nat.le_of_eq rfl) (by decide) (by decide) (by decide) (by decide) ?_
      rintro v2 h1 ⟨⟨q, rfl, hq⟩, rfl⟩
      show Go K h0 0 0 30 [.val (.ref a), .val (.int i), .val (.int f), .val (.int n)] [.int q, .int (y - (48 : Int32))]
      have he2 : e.toInt = f.toInt + n.toInt - 1 - k := by rw [← he, own_isub, own_isub, hs, show (1 : Int32).toInt = 1 from by decide]; omega
      have hy2 : (y - (48 : Int32)).toInt = y.toInt - 48 := by rw [own_isub, show (48 : Int32).toInt = 48 from by decide]; omega
      have hm : ((y - (48 : Int32)) * q).toInt = (y.toInt - 48) * own_p (f.toInt + n.toInt - 1 - k) ∧ -17600000 ≤ ((y - (48 : Int32)) * q).toInt ∧ ((y - (48 : Int32)) * q).toInt ≤ 17600000 := by
        have hb : -17600000 ≤ (y.toInt - 48) * own_p (f.toInt + n.toInt - 1 - k) ∧ (y.toInt - 48) * own_p (f.toInt + n.toInt - 1 - k) ≤ 17600000 := by
          rcases own_p_cases (f.toInt + n.toInt - 1 - k) with g | g | g | g | g | g | g <;> rw [g] <;> omega
        rw [own_imul, hy2, hq, he2, own_wrap _ hb]
        exact ⟨rfl, hb⟩
      refine w_imul 31 C d4_30 rfl ?_
      refine w_retI C d4_31 (by decide) (by decide) ?_
      exact ⟨⟨_, rfl, by rw [own_t, if_pos (by first | omega | (simp only [Int32.reduceToInt] at *; omega))]; exact hm.1, hm.2⟩, rfl⟩
    · refine w_iconst 13 (0 : Int32) C d4_12 rfl rfl ?_
      refine w_retI C d4_13 (by decide) (by decide) ?_
      exact ⟨⟨_, rfl, by rw [own_t, if_neg (by first | omega | (simp only [Int32.reduceToInt] at *; omega))]; decide, by decide, by decide⟩, rfl⟩
set_option maxRecDepth 65536 in
set_option maxHeartbeats 40000000 in
theorem rm_ref (l : Launch) (Z : State) (a0 : Array Value) (hw : ∀ d ∈ tables_1, d.before a0 Z = true) (ws : List Jvm.Cond) (a : Addr) (f n : Int32) (y0 y1 y2 y3 y4 y5 : Int32) (h0 : Heap) (n0 : Nat) (hz : n0 ≤ h0.size) (A : Ai Z h0 a .byte [y0, y1, y2, y3, y4, y5]) (hf : 0 ≤ f.toInt ∧ f.toInt ≤ 6) (hn : 0 ≤ n.toInt ∧ n.toInt ≤ 6) (hy0 : -128 ≤ y0.toInt ∧ y0.toInt ≤ 127) (hy1 : -128 ≤ y1.toInt ∧ y1.toInt ≤ 127) (hy2 : -128 ≤ y2.toInt ∧ y2.toInt ≤ 127) (hy3 : -128 ≤ y3.toInt ∧ y3.toInt ≤ 127) (hy4 : -128 ≤ y4.toInt ∧ y4.toInt ≤ 127) (hy5 : -128 ≤ y5.toInt ∧ y5.toInt ≤ 127) :
    OwnMet l (⟨"com/example/chronofield/chronofield/io/Iso2709RecordDigitsPinLaw", "reference", "([BII)I"⟩ : MethodName) method_7_code 3 (some .int) ws ({ frames := 2, cells := 0, slots := 0, locals := 29 } : Room) Z h0 n0 #[.ref a, .int f, .int n] (fun v h => (∃ z, v = some (.int z) ∧ (((own_bad f.toInt n.toInt 0 y0 ∨ own_bad f.toInt n.toInt 1 y1 ∨ own_bad f.toInt n.toInt 2 y2 ∨ own_bad f.toInt n.toInt 3 y3 ∨ own_bad f.toInt n.toInt 4 y4 ∨ own_bad f.toInt n.toInt 5 y5) ∧ z.toInt = -1) ∨ (¬ (own_bad f.toInt n.toInt 0 y0 ∨ own_bad f.toInt n.toInt 1 y1 ∨ own_bad f.toInt n.toInt 2 y2 ∨ own_bad f.toInt n.toInt 3 y3 ∨ own_bad f.toInt n.toInt 4 y4 ∨ own_bad f.toInt n.toInt 5 y5) ∧ z.toInt = own_t f.toInt n.toInt 0 y0 + own_t f.toInt n.toInt 1 y1 + own_t f.toInt n.toInt 2 y2 + own_t f.toInt n.toInt 3 y3 + own_t f.toInt n.toInt 4 y4 + own_t f.toInt n.toInt 5 y5))) ∧ h0 = h) := by
  refine OwnMet.of (own := "com/example/chronofield/chronofield/io/Iso2709RecordDigitsPinLaw") (name := "reference") (desc := "([BII)I") (Ls := [.val (.ref a), .val (.int f), .val (.int n)]) (plainFor_of_name pn_com_example_chronofield_chronofield_io_Iso2709RecordDigitsPinLaw) (fun m => by first | (simp [entryFrame, mkF, argsToLocals, Value.category]; done) | rfl) ?_
  intro K hK C
  refine w_aloadN 1 C d2_0 rfl rfl rfl ?_
  refine w_iconst 2 (0 : Int32) C d2_1 rfl rfl ?_
  refine w_iloadN 3 C d2_2 rfl rfl ?_
  refine w_iloadN 4 C d2_3 rfl rfl ?_
  refine w_callS (y := (⟨"com/example/chronofield/chronofield/io/Iso2709RecordDigitsPinLaw", "bad", "([BIII)Z"⟩ : MethodName)) 7 0 [.ref a, .int (0 : Int32), .int f, .int n] C d2_4 rfl (hw _ (List.mem_of_getElem? (i := 10) rfl)) (hw _ (List.mem_of_getElem? (i := 11) rfl)) (hw _ (List.mem_of_getElem? (i := 4) rfl)) (hw _ (List.mem_of_getElem? (i := 12) rfl)) (by decide) (rm_bad K.l Z a0 hw [] a (0 : Int32) f n [y0, y1, y2, y3, y4, y5] 0 y0 h0 n0 hz A (by decide) rfl hf hn) pd_aBIII_to_Z rfl (rest := []) rfl rfl (Nat.le_of_eq rfl) (by decide) (by decide) (by decide) (by decide) ?_
  rintro v2 h1 ⟨⟨b0, rfl, hb0⟩, rfl⟩
  show Go K h0 0 0 7 [.val (.ref a), .val (.int f), .val (.int n)] [.int b0]
  refine w_if 60 10 C d2_7 rfl rfl (fun (hc7 : ¬ (b0 = (0 : Int32))) => ?_) (fun (hc7 : ¬ (¬ (b0 = (0 : Int32)))) => ?_)
  · have g : own_bad f.toInt n.toInt 0 y0 := by
      rcases hb0 with ⟨g, rfl⟩ | ⟨g, rfl⟩
      · exact g
      · exact absurd rfl hc7
    refine w_iconst 61 (-1 : Int32) C d2_60 rfl rfl ?_
    refine w_retI C d2_61 (by decide) (by decide) ?_
    exact ⟨⟨_, rfl, Or.inl ⟨Or.inl g, by decide⟩⟩, rfl⟩
  · have g0 : ¬ own_bad f.toInt n.toInt 0 y0 := by
      rcases hb0 with ⟨g, rfl⟩ | ⟨g, rfl⟩
      · exact absurd hc7 (by decide)
      · exact g
    refine w_aloadN 11 C d2_10 rfl rfl rfl ?_
    refine w_iconst 12 (1 : Int32) C d2_11 rfl rfl ?_
    refine w_iloadN 13 C d2_12 rfl rfl ?_
    refine w_iloadN 14 C d2_13 rfl rfl ?_
    refine w_callS (y := (⟨"com/example/chronofield/chronofield/io/Iso2709RecordDigitsPinLaw", "bad", "([BIII)Z"⟩ : MethodName)) 17 0 [.ref a, .int (1 : Int32), .int f, .int n] C d2_14 rfl (hw _ (List.mem_of_getElem? (i := 10) rfl)) (hw _ (List.mem_of_getElem? (i := 11) rfl)) (hw _ (List.mem_of_getElem? (i := 4) rfl)) (hw _ (List.mem_of_getElem? (i := 12) rfl)) (by decide) (rm_bad K.l Z a0 hw [] a (1 : Int32) f n [y0, y1, y2, y3, y4, y5] 1 y1 h0 n0 hz A (by decide) rfl hf hn) pd_aBIII_to_Z rfl (rest := []) rfl rfl (Nat.le_of_eq rfl) (by decide) (by decide) (by decide) (by decide) ?_
    rintro v4 h3 ⟨⟨b1, rfl, hb1⟩, rfl⟩
    show Go K h0 0 0 17 [.val (.ref a), .val (.int f), .val (.int n)] [.int b1]
    refine w_if 60 20 C d2_17 rfl rfl (fun (hc17 : ¬ (b1 = (0 : Int32))) => ?_) (fun (hc17 : ¬ (¬ (b1 = (0 : Int32)))) => ?_)
    · have g : own_bad f.toInt n.toInt 1 y1 := by
        rcases hb1 with ⟨g, rfl⟩ | ⟨g, rfl⟩
        · exact g
        · exact absurd rfl hc17
      refine w_iconst 61 (-1 : Int32) C d2_60 rfl rfl ?_
      refine w_retI C d2_61 (by decide) (by decide) ?_
      exact ⟨⟨_, rfl, Or.inl ⟨Or.inr (Or.inl g), by decide⟩⟩, rfl⟩
    · have g1 : ¬ own_bad f.toInt n.toInt 1 y1 := by
        rcases hb1 with ⟨g, rfl⟩ | ⟨g, rfl⟩
        · exact absurd hc17 (by decide)
        · exact g
      refine w_aloadN 21 C d2_20 rfl rfl rfl ?_
      refine w_iconst 22 (2 : Int32) C d2_21 rfl rfl ?_
      refine w_iloadN 23 C d2_22 rfl rfl ?_
      refine w_iloadN 24 C d2_23 rfl rfl ?_
      refine w_callS (y := (⟨"com/example/chronofield/chronofield/io/Iso2709RecordDigitsPinLaw", "bad", "([BIII)Z"⟩ : MethodName)) 27 0 [.ref a, .int (2 : Int32), .int f, .int n] C d2_24 rfl (hw _ (List.mem_of_getElem? (i := 10) rfl)) (hw _ (List.mem_of_getElem? (i := 11) rfl)) (hw _ (List.mem_of_getElem? (i := 4) rfl)) (hw _ (List.mem_of_getElem? (i := 12) rfl)) (by decide) (rm_bad K.l Z a0 hw [] a (2 : Int32) f n [y0, y1, y2, y3, y4, y5] 2 y2 h0 n0 hz A (by decide) rfl hf hn) pd_aBIII_to_Z rfl (rest := []) rfl rfl (Nat.le_of_eq rfl) (by decide) (by decide) (by decide) (by decide) ?_
      rintro v6 h5 ⟨⟨b2, rfl, hb2⟩, rfl⟩
      show Go K h0 0 0 27 [.val (.ref a), .val (.int f), .val (.int n)] [.int b2]
      refine w_if 60 30 C d2_27 rfl rfl (fun (hc27 : ¬ (b2 = (0 : Int32))) => ?_) (fun (hc27 : ¬ (¬ (b2 = (0 : Int32)))) => ?_)
      · have g : own_bad f.toInt n.toInt 2 y2 := by
          rcases hb2 with ⟨g, rfl⟩ | ⟨g, rfl⟩
          · exact g
          · exact absurd rfl hc27
        refine w_iconst 61 (-1 : Int32) C d2_60 rfl rfl ?_
        refine w_retI C d2_61 (by decide) (by decide) ?_
        exact ⟨⟨_, rfl, Or.inl ⟨Or.inr (Or.inr (Or.inl g)), by decide⟩⟩, rfl⟩
      · have g2 : ¬ own_bad f.toInt n.toInt 2 y2 := by
          rcases hb2 with ⟨g, rfl⟩ | ⟨g, rfl⟩
          · exact absurd hc27 (by decide)
          · exact g
        refine w_aloadN 31 C d2_30 rfl rfl rfl ?_
        refine w_iconst 32 (3 : Int32) C d2_31 rfl rfl ?_
        refine w_iloadN 33 C d2_32 rfl rfl ?_
        refine w_iloadN 34 C d2_33 rfl rfl ?_
        refine w_callS (y := (⟨"com/example/chronofield/chronofield/io/Iso2709RecordDigitsPinLaw", "bad", "([BIII)Z"⟩ : MethodName)) 37 0 [.ref a, .int (3 : Int32), .int f, .int n] C d2_34 rfl (hw _ (List.mem_of_getElem? (i := 10) rfl)) (hw _ (List.mem_of_getElem? (i := 11) rfl)) (hw _ (List.mem_of_getElem? (i := 4) rfl)) (hw _ (List.mem_of_getElem? (i := 12) rfl)) (by decide) (rm_bad K.l Z a0 hw [] a (3 : Int32) f n [y0, y1, y2, y3, y4, y5] 3 y3 h0 n0 hz A (by decide) rfl hf hn) pd_aBIII_to_Z rfl (rest := []) rfl rfl (Nat.le_of_eq rfl) (by decide) (by decide) (by decide) (by decide) ?_
        rintro v8 h7 ⟨⟨b3, rfl, hb3⟩, rfl⟩
        show Go K h0 0 0 37 [.val (.ref a), .val (.int f), .val (.int n)] [.int b3]
        refine w_if 60 40 C d2_37 rfl rfl (fun (hc37 : ¬ (b3 = (0 : Int32))) => ?_) (fun (hc37 : ¬ (¬ (b3 = (0 : Int32)))) => ?_)
        · have g : own_bad f.toInt n.toInt 3 y3 := by
            rcases hb3 with ⟨g, rfl⟩ | ⟨g, rfl⟩
            · exact g
            · exact absurd rfl hc37
          refine w_iconst 61 (-1 : Int32) C d2_60 rfl rfl ?_
          refine w_retI C d2_61 (by decide) (by decide) ?_
          exact ⟨⟨_, rfl, Or.inl ⟨Or.inr (Or.inr (Or.inr (Or.inl g))), by decide⟩⟩, rfl⟩
        · have g3 : ¬ own_bad f.toInt n.toInt 3 y3 := by
            rcases hb3 with ⟨g, rfl⟩ | ⟨g, rfl⟩
            · exact absurd hc37 (by decide)
            · exact g
          refine w_aloadN 41 C d2_40 rfl rfl rfl ?_
          refine w_iconst 42 (4 : Int32) C d2_41 rfl rfl ?_
          refine w_iloadN 43 C d2_42 rfl rfl ?_
          refine w_iloadN 44 C d2_43 rfl rfl ?_
          refine w_callS (y := (⟨"com/example/chronofield/chronofield/io/Iso2709RecordDigitsPinLaw", "bad", "([BIII)Z"⟩ : MethodName)) 47 0 [.ref a, .int (4 : Int32), .int f, .int n] C d2_44 rfl (hw _ (List.mem_of_getElem? (i := 10) rfl)) (hw _ (List.mem_of_getElem? (i := 11) rfl)) (hw _ (List.mem_of_getElem? (i := 4) rfl)) (hw _ (List.mem_of_getElem? (i := 12) rfl)) (by decide) (rm_bad K.l Z a0 hw [] a (4 : Int32) f n [y0, y1, y2, y3, y4, y5] 4 y4 h0 n0 hz A (by decide) rfl hf hn) pd_aBIII_to_Z rfl (rest := []) rfl rfl (Nat.le_of_eq rfl) (by decide) (by decide) (by decide) (by decide) ?_
          rintro v10 h9 ⟨⟨b4, rfl, hb4⟩, rfl⟩
          show Go K h0 0 0 47 [.val (.ref a), .val (.int f), .val (.int n)] [.int b4]
          refine w_if 60 50 C d2_47 rfl rfl (fun (hc47 : ¬ (b4 = (0 : Int32))) => ?_) (fun (hc47 : ¬ (¬ (b4 = (0 : Int32)))) => ?_)
          · have g : own_bad f.toInt n.toInt 4 y4 := by
              rcases hb4 with ⟨g, rfl⟩ | ⟨g, rfl⟩
              · exact g
              · exact absurd rfl hc47
            refine w_iconst 61 (-1 : Int32) C d2_60 rfl rfl ?_
            refine w_retI C d2_61 (by decide) (by decide) ?_
            exact ⟨⟨_, rfl, Or.inl ⟨Or.inr (Or.inr (Or.inr (Or.inr (Or.inl g)))), by decide⟩⟩, rfl⟩
          · have g4 : ¬ own_bad f.toInt n.toInt 4 y4 := by
              rcases hb4 with ⟨g, rfl⟩ | ⟨g, rfl⟩
              · exact absurd hc47 (by decide)
              · exact g
            refine w_aloadN 51 C d2_50 rfl rfl rfl ?_
            refine w_iconst 52 (5 : Int32) C d2_51 rfl rfl ?_
            refine w_iloadN 53 C d2_52 rfl rfl ?_
            refine w_iloadN 54 C d2_53 rfl rfl ?_
            refine w_callS (y := (⟨"com/example/chronofield/chronofield/io/Iso2709RecordDigitsPinLaw", "bad", "([BIII)Z"⟩ : MethodName)) 57 0 [.ref a, .int (5 : Int32), .int f, .int n] C d2_54 rfl (hw _ (List.mem_of_getElem? (i := 10) rfl)) (hw _ (List.mem_of_getElem? (i := 11) rfl)) (hw _ (List.mem_of_getElem? (i := 4) rfl)) (hw _ (List.mem_of_getElem? (i := 12) rfl)) (by decide) (rm_bad K.l Z a0 hw [] a (5 : Int32) f n [y0, y1, y2, y3, y4, y5] 5 y5 h0 n0 hz A (by decide) rfl hf hn) pd_aBIII_to_Z rfl (rest := []) rfl rfl (Nat.le_of_eq rfl) (by decide) (by decide) (by decide) (by decide) ?_
            rintro v12 h11 ⟨⟨b5, rfl, hb5⟩, rfl⟩
            show Go K h0 0 0 57 [.val (.ref a), .val (.int f), .val (.int n)] [.int b5]
            refine w_if 62 60 C d2_57 rfl rfl (fun (hc57 : b5 = (0 : Int32)) => ?_) (fun (hc57 : ¬ (b5 = (0 : Int32))) => ?_)
            · have g5 : ¬ own_bad f.toInt n.toInt 5 y5 := by
                rcases hb5 with ⟨g, rfl⟩ | ⟨g, rfl⟩
                · exact absurd hc57 (by decide)
                · exact g
              refine w_aloadN 63 C d2_62 rfl rfl rfl ?_
              refine w_iconst 64 (0 : Int32) C d2_63 rfl rfl ?_
              refine w_iloadN 65 C d2_64 rfl rfl ?_
              refine w_iloadN 66 C d2_65 rfl rfl ?_
              refine w_callS (y := (⟨"com/example/chronofield/chronofield/io/Iso2709RecordDigitsPinLaw", "term", "([BIII)I"⟩ : MethodName)) 69 0 [.ref a, .int (0 : Int32), .int f, .int n] C d2_66 rfl (hw _ (List.mem_of_getElem? (i := 13) rfl)) (hw _ (List.mem_of_getElem? (i := 14) rfl)) (hw _ (List.mem_of_getElem? (i := 4) rfl)) (hw _ (List.mem_of_getElem? (i := 15) rfl)) (by decide) (rm_term K.l Z a0 hw [] a (0 : Int32) f n [y0, y1, y2, y3, y4, y5] 0 y0 h0 n0 hz A (by decide) rfl hf hn hy0) pd_aBIII_to_I rfl (rest := []) rfl rfl (Nat.le_of_eq rfl) (by decide) (by decide) (by decide) (by decide) ?_
              rintro v14 h13 ⟨⟨t0, rfl, ht0, hl0, hu0⟩, rfl⟩
              show Go K h0 0 0 69 [.val (.ref a), .val (.int f), .val (.int n)] [.int t0]
              refine w_aloadN 70 C d2_69 rfl rfl rfl ?_
              refine w_iconst 71 (1 : Int32) C d2_70 rfl rfl ?_
              refine w_iloadN 72 C d2_71 rfl rfl ?_
              refine w_iloadN 73 C d2_72 rfl rfl ?_
              refine w_callS (y := (⟨"com/example/chronofield/chronofield/io/Iso2709RecordDigitsPinLaw", "term", "([BIII)I"⟩ : MethodName)) 76 1 [.ref a, .int (1 : Int32), .int f, .int n] C d2_73 rfl (hw _ (List.mem_of_getElem? (i := 13) rfl)) (hw _ (List.mem_of_getElem? (i := 14) rfl)) (hw _ (List.mem_of_getElem? (i := 4) rfl)) (hw _ (List.mem_of_getElem? (i := 15) rfl)) (by decide) (rm_term K.l Z a0 hw [] a (1 : Int32) f n [y0, y1, y2, y3, y4, y5] 1 y1 h0 n0 hz A (by decide) rfl hf hn hy1) pd_aBIII_to_I rfl (rest := [.int t0]) rfl rfl (Nat.le_of_eq rfl) (by decide) (by decide) (by decide) (by decide) ?_
              rintro v16 h15 ⟨⟨t1, rfl, ht1, hl1, hu1⟩, rfl⟩
              show Go K h0 0 0 76 [.val (.ref a), .val (.int f), .val (.int n)] [.int t1, .int t0]
              refine w_iadd 77 C d2_76 rfl ?_
              refine w_aloadN 78 C d2_77 rfl rfl rfl ?_
              refine w_iconst 79 (2 : Int32) C d2_78 rfl rfl ?_
              refine w_iloadN 80 C d2_79 rfl rfl ?_
              refine w_iloadN 81 C d2_80 rfl rfl ?_
              refine w_callS (y := (⟨"com/example/chronofield/chronofield/io/Iso2709RecordDigitsPinLaw", "term", "([BIII)I"⟩ : MethodName)) 84 1 [.ref a, .int (2 : Int32), .int f, .int n] C d2_81 rfl (hw _ (List.mem_of_getElem? (i := 13) rfl)) (hw _ (List.mem_of_getElem? (i := 14) rfl)) (hw _ (List.mem_of_getElem? (i := 4) rfl)) (hw _ (List.mem_of_getElem? (i := 15) rfl)) (by decide) (rm_term K.l Z a0 hw [] a (2 : Int32) f n [y0, y1, y2, y3, y4, y5] 2 y2 h0 n0 hz A (by decide) rfl hf hn hy2) pd_aBIII_to_I rfl (rest := [.int (t0 + t1)]) rfl rfl (Nat.le_of_eq rfl) (by decide) (by decide) (by decide) (by decide) ?_
              rintro v18 h17 ⟨⟨t2, rfl, ht2, hl2, hu2⟩, rfl⟩
              show Go K h0 0 0 84 [.val (.ref a), .val (.int f), .val (.int n)] [.int t2, .int (t0 + t1)]
              refine w_iadd 85 C d2_84 rfl ?_
              refine w_aloadN 86 C d2_85 rfl rfl rfl ?_
              refine w_iconst 87 (3 : Int32) C d2_86 rfl rfl ?_
              refine w_iloadN 88 C d2_87 rfl rfl ?_
              refine w_iloadN 89 C d2_88 rfl rfl ?_
              refine w_callS (y := (⟨"com/example/chronofield/chronofield/io/Iso2709RecordDigitsPinLaw", "term", "([BIII)I"⟩ : MethodName)) 92 1 [.ref a, .int (3 : Int32), .int f, .int n] C d2_89 rfl (hw _ (List.mem_of_getElem? (i := 13) rfl)) (hw _ (List.mem_of_getElem? (i := 14) rfl)) (hw _ (List.mem_of_getElem? (i := 4) rfl)) (hw _ (List.mem_of_getElem? (i := 15) rfl)) (by decide) (rm_term K.l Z a0 hw [] a (3 : Int32) f n [y0, y1, y2, y3, y4, y5] 3 y3 h0 n0 hz A (by decide) rfl hf hn hy3) pd_aBIII_to_I rfl (rest := [.int ((t0 + t1) + t2)]) rfl rfl (Nat.le_of_eq rfl) (by decide) (by decide) (by decide) (by decide) ?_
              rintro v20 h19 ⟨⟨t3, rfl, ht3, hl3, hu3⟩, rfl⟩
              show Go K h0 0 0 92 [.val (.ref a), .val (.int f), .val (.int n)] [.int t3, .int ((t0 + t1) + t2)]
              refine w_iadd 93 C d2_92 rfl ?_
              refine w_aloadN 94 C d2_93 rfl rfl rfl ?_
              refine w_iconst 95 (4 : Int32) C d2_94 rfl rfl ?_
              refine w_iloadN 96 C d2_95 rfl rfl ?_
              refine w_iloadN 97 C d2_96 rfl rfl ?_
              refine w_callS (y := (⟨"com/example/chronofield/chronofield/io/Iso2709RecordDigitsPinLaw", "term", "([BIII)I"⟩ : MethodName)) 100 1 [.ref a, .int (4 : Int32), .int f, .int n] C d2_97 rfl (hw _ (List.mem_of_getElem? (i := 13) rfl)) (hw _ (List.mem_of_getElem? (i := 14) rfl)) (hw _ (List.mem_of_getElem? (i := 4) rfl)) (hw _ (List.mem_of_getElem? (i := 15) rfl)) (by decide) (rm_term K.l Z a0 hw [] a (4 : Int32) f n [y0, y1, y2, y3, y4, y5] 4 y4 h0 n0 hz A (by decide) rfl hf hn hy4) pd_aBIII_to_I rfl (rest := [.int (((t0 + t1) + t2) + t3)]) rfl rfl (Nat.le_of_eq rfl) (by decide) (by decide) (by decide) (by decide) ?_
              rintro v22 h21 ⟨⟨t4, rfl, ht4, hl4, hu4⟩, rfl⟩
              show Go K h0 0 0 100 [.val (.ref a), .val (.int f), .val (.int n)] [.int t4, .int (((t0 + t1) + t2) + t3)]
              refine w_iadd 101 C d2_100 rfl ?_
              refine w_aloadN 102 C d2_101 rfl rfl rfl ?_
              refine w_iconst 103 (5 : Int32) C d2_102 rfl rfl ?_
              refine w_iloadN 104 C d2_103 rfl rfl ?_
              refine w_iloadN 105 C d2_104 rfl rfl ?_
              refine w_callS (y := (⟨"com/example/chronofield/chronofield/io/Iso2709RecordDigitsPinLaw", "term", "([BIII)I"⟩ : MethodName)) 108 1 [.ref a, .int (5 : Int32), .int f, .int n] C d2_105 rfl (hw _ (List.mem_of_getElem? (i := 13) rfl)) (hw _ (List.mem_of_getElem? (i := 14) rfl)) (hw _ (List.mem_of_getElem? (i := 4) rfl)) (hw _ (List.mem_of_getElem? (i := 15) rfl)) (by decide) (rm_term K.l Z a0 hw [] a (5 : Int32) f n [y0, y1, y2, y3, y4, y5] 5 y5 h0 n0 hz A (by decide) rfl hf hn hy5) pd_aBIII_to_I rfl (rest := [.int ((((t0 + t1) + t2) + t3) + t4)]) rfl rfl (Nat.le_of_eq rfl) (by decide) (by decide) (by decide) (by decide) ?_
              rintro v24 h23 ⟨⟨t5, rfl, ht5, hl5, hu5⟩, rfl⟩
              show Go K h0 0 0 108 [.val (.ref a), .val (.int f), .val (.int n)] [.int t5, .int ((((t0 + t1) + t2) + t3) + t4)]
              refine w_iadd 109 C d2_108 rfl ?_
              have hsum : (((((t0 + t1) + t2) + t3) + t4) + t5).toInt = own_t f.toInt n.toInt 0 y0 + own_t f.toInt n.toInt 1 y1 + own_t f.toInt n.toInt 2 y2 + own_t f.toInt n.toInt 3 y3 + own_t f.toInt n.toInt 4 y4 + own_t f.toInt n.toInt 5 y5 := by
                replace ht0 : t0.toInt = own_t f.toInt n.toInt 0 y0 := ht0
                replace ht1 : t1.toInt = own_t f.toInt n.toInt 1 y1 := ht1
                replace ht2 : t2.toInt = own_t f.toInt n.toInt 2 y2 := ht2
                replace ht3 : t3.toInt = own_t f.toInt n.toInt 3 y3 := ht3
                replace ht4 : t4.toInt = own_t f.toInt n.toInt 4 y4 := ht4
                replace ht5 : t5.toInt = own_t f.toInt n.toInt 5 y5 := ht5
                rw [own_iadd, own_iadd, own_iadd, own_iadd, own_iadd, ← ht0, ← ht1, ← ht2, ← ht3, ← ht4, ← ht5]
                omega
              refine w_retI C d2_109 (by decide) (by decide) ?_
              exact ⟨⟨_, rfl, Or.inr ⟨fun g => g.elim g0 fun g => g.elim g1 fun g => g.elim g2 fun g => g.elim g3 fun g => g.elim g4 g5, hsum⟩⟩, rfl⟩
            · have g : own_bad f.toInt n.toInt 5 y5 := by
                rcases hb5 with ⟨g, rfl⟩ | ⟨g, rfl⟩
                · exact g
                · exact absurd rfl hc57
              refine w_iconst 61 (-1 : Int32) C d2_60 rfl rfl ?_
              refine w_retI C d2_61 (by decide) (by decide) ?_
              exact ⟨⟨_, rfl, Or.inl ⟨Or.inr (Or.inr (Or.inr (Or.inr (Or.inr (g))))), by decide⟩⟩, rfl⟩
set_option maxRecDepth 65536 in
set_option maxHeartbeats 40000000 in
theorem lp {K : OwnK} {Z : State} {a0 : Array Value} (hw : ∀ d ∈ tables_1, d.before a0 Z = true) {n0 : Nat} {Post : Option Value → Heap → Prop} (C : Cx K Z "com/example/chronofield/chronofield/io/Iso2709Record" "digits" prog_3_method_21_code 5 (some .int) ({ frames := 0, cells := 0, slots := 0, locals := 0 } : Room) n0 Post) {h : Heap} {a : Addr} {vs : List Int32} (A : Ai Z h a .byte vs) (f n : Int32) (hf : 0 ≤ f.toInt ∧ f.toInt ≤ 6) (hn : 0 ≤ n.toInt ∧ n.toInt ≤ 6) :
    ∀ (ys : List Int32) (i s : Int32), (∀ e, e < ys.length → vs[i.toInt.toNat + e]? = ys[e]?) → 0 ≤ i.toInt → i.toInt + (ys.length : Int) = f.toInt + n.toInt → 0 ≤ s.toInt → s.toInt < own_cap ys.length → (∀ r : Int32, r.toInt = own_dig ys s.toInt → Post (some (.int r)) h) →
      Go K h 0 0 5 [.val (.ref a), .val (.int f), .val (.int n), .val (.int s), .val (.int i)] [] := by
  have hs : (f + n).toInt = f.toInt + n.toInt := by rw [own_iadd]; omega
  intro ys
  induction ys with
  | nil =>
    intro i s hd h0 h1 hs0 hs1 hq
    simp only [List.length_nil] at h1
    refine w_iload 7 C d5_5 rfl rfl ?_
    refine w_iloadN 8 C d5_7 rfl rfl ?_
    refine w_iloadN 9 C d5_8 rfl rfl ?_
    refine w_iadd 10 C d5_9 rfl ?_
    refine w_icmpY 52 C d5_10 rfl (show (f + n).toInt ≤ i.toInt from (by rw [hs]; omega)) ?_
    refine w_iloadN 53 C d5_52 rfl rfl ?_
    refine w_retI C d5_53 (by decide) (by decide) ?_
    exact (hq _ rfl)
  | cons y ys ih =>
    intro i s hd h0 h1 hs0 hs1 hq
    simp only [List.length_cons] at h1 hs1 hd
    have hat : vs[i.toInt.toNat]? = some y := by
      have := hd 0 (by omega)
      simpa using this
    have hi1 : (i + (1 : Int32)).toInt = i.toInt + 1 := by rw [own_iadd, show (1 : Int32).toInt = 1 from by decide]; omega
    have e48 : (48 : Int32).toInt = 48 := by decide
    have e57 : (57 : Int32).toInt = 57 := by decide
    have e10 : (10 : Int32).toInt = 10 := by decide
    refine w_iload 7 C d5_5 rfl rfl ?_
    refine w_iloadN 8 C d5_7 rfl rfl ?_
    refine w_iloadN 9 C d5_8 rfl rfl ?_
    refine w_iadd 10 C d5_9 rfl ?_
    refine w_icmpN 13 C d5_10 rfl (show ¬ ((f + n).toInt ≤ i.toInt) from (by rw [hs]; push_cast at h1; omega)) ?_
    refine w_aloadN 14 C d5_13 rfl rfl rfl ?_
    refine w_iload 16 C d5_14 rfl rfl ?_
    refine w_baload 17 (i.toInt.toNat) y C A d5_16 rfl (by omega) hat ?_
    refine w_bipush 19 (48 : Int32) C d5_17 rfl rfl ?_
    refine w_icmp 31 22 C d5_19 rfl rfl (fun (hc19 : y.toInt < (48 : Int32).toInt) => ?_) (fun (hc19 : ¬ (y.toInt < (48 : Int32).toInt)) => ?_)
    · refine w_iconst 32 (-1 : Int32) C d5_31 rfl rfl ?_
      refine w_retI C d5_32 (by decide) (by decide) ?_
      exact (hq _ (by rw [own_dig, if_pos (by omega)]; rfl))
    · refine w_aloadN 23 C d5_22 rfl rfl rfl ?_
      refine w_iload 25 C d5_23 rfl rfl ?_
      refine w_baload 26 (i.toInt.toNat) y C A d5_25 rfl (by omega) hat ?_
      refine w_bipush 28 (57 : Int32) C d5_26 rfl rfl ?_
      refine w_icmp 33 31 C d5_28 rfl rfl (fun (hc28 : y.toInt ≤ (57 : Int32).toInt) => ?_) (fun (hc28 : ¬ (y.toInt ≤ (57 : Int32).toInt)) => ?_)
      · refine w_iloadN 34 C d5_33 rfl rfl ?_
        refine w_bipush 36 (10 : Int32) C d5_34 rfl rfl ?_
        refine w_imul 37 C d5_36 rfl ?_
        refine w_aloadN 38 C d5_37 rfl rfl rfl ?_
        refine w_iload 40 C d5_38 rfl rfl ?_
        refine w_baload 41 (i.toInt.toNat) y C A d5_40 rfl (by omega) hat ?_
        refine w_iadd 42 C d5_41 rfl ?_
        refine w_bipush 44 (48 : Int32) C d5_42 rfl rfl ?_
        refine w_isub 45 C d5_44 rfl ?_
        refine w_istoreN 46 [.val (.ref a), .val (.int f), .val (.int n), .val (.int (((s * (10 : Int32)) + y) - (48 : Int32))), .val (.int i)] C d5_45 rfl rfl ?_
        refine w_iinc (z := (i + (1 : Int32))) 49 [.val (.ref a), .val (.int f), .val (.int n), .val (.int (((s * (10 : Int32)) + y) - (48 : Int32))), .val (.int (i + (1 : Int32)))] C d5_46 rfl rfl rfl rfl ?_
        refine w_goto 5 C d5_49 rfl ?_
        have hc := own_cap1 ys.length s.toInt (y.toInt - 48) hs1 hs0 (by omega)
        have hacc : (((s * (10 : Int32)) + y) - (48 : Int32)).toInt = s.toInt * 10 + y.toInt - 48 := by rw [own_isub, own_iadd, own_imul, e48, e10]; omega
        refine ih _ _ ?_ ?_ ?_ ?_ ?_ ?_
        · intro e he
          have := hd (e + 1) (by omega)
          rw [hi1, show (i.toInt + 1).toNat + e = i.toInt.toNat + (e + 1) from by omega, this]
          rfl
        · omega
        · rw [hi1]; push_cast at h1; omega
        · omega
        · omega
        · intro r hr
          refine hq r ?_
          rw [hr, hacc, own_dig, if_neg (by omega)]
      · refine w_iconst 32 (-1 : Int32) C d5_31 rfl rfl ?_
        refine w_retI C d5_32 (by decide) (by decide) ?_
        exact (hq _ (by rw [own_dig, if_pos (by omega)]; rfl))
set_option maxRecDepth 65536 in
set_option maxHeartbeats 40000000 in
theorem rm_dig (l : Launch) (Z : State) (a0 : Array Value) (hw : ∀ d ∈ tables_1, d.before a0 Z = true) (ws : List Jvm.Cond) (a : Addr) (f n : Int32) (vs ys : List Int32) (h0 : Heap) (n0 : Nat) (hz : n0 ≤ h0.size) (A : Ai Z h0 a .byte vs) (hf : 0 ≤ f.toInt ∧ f.toInt ≤ 6) (hn : 0 ≤ n.toInt ∧ n.toInt ≤ 6) (hd : ∀ e, e < ys.length → vs[f.toInt.toNat + e]? = ys[e]?) (hl : (ys.length : Int) = n.toInt) :
    OwnMet l (⟨"com/example/chronofield/chronofield/io/Iso2709Record", "digits", "([BII)I"⟩ : MethodName) prog_3_method_21_code 5 (some .int) ws ({ frames := 0, cells := 0, slots := 0, locals := 0 } : Room) Z h0 n0 #[.ref a, .int f, .int n] (fun v h => (∃ z, v = some (.int z) ∧ z.toInt = own_dig ys 0) ∧ h0 = h) := by
  refine OwnMet.of (own := "com/example/chronofield/chronofield/io/Iso2709Record") (name := "digits") (desc := "([BII)I") (Ls := [.val (.ref a), .val (.int f), .val (.int n), .unset, .unset]) (plainFor_of_name pn_com_example_chronofield_chronofield_io_Iso2709Record) (fun m => by first | (simp [entryFrame, mkF, argsToLocals, Value.category]; done) | rfl) ?_
  intro K hK C
  refine w_iconst 1 (0 : Int32) C d5_0 rfl rfl ?_
  refine w_istoreN 2 [.val (.ref a), .val (.int f), .val (.int n), .val (.int (0 : Int32)), .unset] C d5_1 rfl rfl ?_
  refine w_iloadN 3 C d5_2 rfl rfl ?_
  refine w_istore 5 [.val (.ref a), .val (.int f), .val (.int n), .val (.int (0 : Int32)), .val (.int f)] C d5_3 rfl rfl ?_
  have hl6 : ys.length ≤ 6 := by omega
  refine lp hw C A f n hf hn ys f (0 : Int32) hd hf.1 (by omega) (by decide) ?_ (fun r hr => ⟨⟨r, rfl, hr⟩, rfl⟩)
  show (0 : Int) < own_cap ys.length
  have : ys.length = 0 ∨ ys.length = 1 ∨ ys.length = 2 ∨ ys.length = 3 ∨ ys.length = 4 ∨ ys.length = 5 ∨ ys.length = 6 := by omega
  rcases this with g | g | g | g | g | g | g <;> rw [g] <;> decide
theorem own_law (f n : Int) (y0 y1 y2 y3 y4 y5 z r : Int32) (hf : 0 ≤ f ∧ f ≤ 2) (hn : 0 ≤ n ∧ n ≤ 6 - f) (hz : ((own_bad f n 0 y0 ∨ own_bad f n 1 y1 ∨ own_bad f n 2 y2 ∨ own_bad f n 3 y3 ∨ own_bad f n 4 y4 ∨ own_bad f n 5 y5) ∧ z.toInt = -1) ∨ (¬ (own_bad f n 0 y0 ∨ own_bad f n 1 y1 ∨ own_bad f n 2 y2 ∨ own_bad f n 3 y3 ∨ own_bad f n 4 y4 ∨ own_bad f n 5 y5) ∧ z.toInt = own_t f n 0 y0 + own_t f n 1 y1 + own_t f n 2 y2 + own_t f n 3 y3 + own_t f n 4 y4 + own_t f n 5 y5)) (hr : r.toInt = own_dig (([y0, y1, y2, y3, y4, y5].drop f.toNat).take n.toNat) 0) : r = z := by
  apply own_eq
  have hff : f = 0 ∨ f = 1 ∨ f = 2 := by omega
  have hnn : n = 0 ∨ n = 1 ∨ n = 2 ∨ n = 3 ∨ n = 4 ∨ n = 5 ∨ n = 6 := by omega
  rw [hr]
  rcases hff with rfl | rfl | rfl <;> rcases hnn with rfl | rfl | rfl | rfl | rfl | rfl | rfl <;> first
    | (exfalso; omega)
    | (simp [own_bad, own_t, own_p, own_dig] at hz ⊢; repeat' split
       all_goals omega)
set_option maxRecDepth 65536 in
set_option maxHeartbeats 40000000 in
theorem rm0 (l : Launch) (Z : State) (a0 : Array Value) (hw : ∀ d ∈ tables_1, d.before a0 Z = true) (ws : List Jvm.Cond) (p0 : Int64) (p1 p2 p3 : Int32) (h0 : Heap) (n0 : Nat) (hz : n0 ≤ h0.size) :
    OwnMet l x code maxLocals ret ws room_1 Z h0 n0 #[.long p0, .int p1, .int p2, .int p3] (fun v h => v = some (.int 1)) := by
  refine OwnMet.of (own := "com/example/chronofield/chronofield/io/Iso2709RecordDigitsPinLaw") (name := "law") (desc := "(JIII)Z") (Ls := [.val (.long p0), .second, .val (.int p1), .val (.int p2), .val (.int p3), .unset, .unset, .unset, .unset]) (plainFor_of_name pn_com_example_chronofield_chronofield_io_Iso2709RecordDigitsPinLaw) (fun m => by first | (simp [entryFrame, mkF, argsToLocals, Value.category, maxLocals]; done) | rfl) ?_
  intro K hK C
  refine w_iloadN 1 C at_0 rfl rfl ?_
  refine w_ldc (v := (2147483647 : Int32)) 3 C at_1 rfl (hw _ (List.mem_of_getElem? (i := 0) rfl)) ?_
  refine w_iand 4 C at_3 rfl ?_
  refine w_iconst 5 (3 : Int32) C at_4 rfl rfl ?_
  refine w_irem 6 C at_5 rfl (by decide) ?_
  refine w_istore 8 [.val (.long p0), .second, .val (.int p1), .val (.int p2), .val (.int p3), .val (.int ((p2 &&& (2147483647 : Int32)) % (3 : Int32))), .unset, .unset, .unset] C at_6 rfl rfl ?_
  generalize hv_x1 : ((p2 &&& (2147483647 : Int32)) % (3 : Int32)) = x1
  refine w_iload 10 C at_8 rfl rfl ?_
  refine w_ldc (v := (2147483647 : Int32)) 12 C at_10 rfl (hw _ (List.mem_of_getElem? (i := 0) rfl)) ?_
  refine w_iand 13 C at_12 rfl ?_
  refine w_bipush 15 (7 : Int32) C at_13 rfl rfl ?_
  refine w_iload 17 C at_15 rfl rfl ?_
  refine w_isub 18 C at_17 rfl ?_
  have e3 : (3 : Int32).toInt = 3 := by decide
  have e7 : (7 : Int32).toInt = 7 := by decide
  have hf : 0 ≤ x1.toInt ∧ x1.toInt ≤ 2 := by
    have m := own_mask p2 2147483647 31 (by decide) (by decide)
    rw [← hv_x1, Jvm.Kit.i32_rem_nonneg (by omega), e3]; omega
  have hd7 : ((7 : Int32) - x1).toInt = 7 - x1.toInt := by rw [own_isub, e7]; omega
  have hnz : (7 : Int32) - x1 ≠ 0 := by
    intro q
    rw [q, show (0 : Int32).toInt = 0 from by decide] at hd7
    omega
  refine w_irem 19 C at_18 rfl hnz ?_
  refine w_istore 21 [.val (.long p0), .second, .val (.int p1), .val (.int p2), .val (.int p3), .val (.int x1), .val (.int ((p3 &&& (2147483647 : Int32)) % ((7 : Int32) - x1))), .unset, .unset] C at_19 rfl rfl ?_
  generalize hv_x2 : ((p3 &&& (2147483647 : Int32)) % ((7 : Int32) - x1)) = x2
  have hn : 0 ≤ x2.toInt ∧ x2.toInt ≤ 6 - x1.toInt := by
    have m := own_mask p3 2147483647 31 (by decide) (by decide)
    rw [← hv_x2, Jvm.Kit.i32_rem_nonneg (by omega), hd7]
    have q1 := Int.emod_nonneg ((p3 &&& 2147483647).toInt) (by omega : 7 - x1.toInt ≠ 0)
    have q2 := Int.emod_lt_of_pos ((p3 &&& 2147483647).toInt) (by omega : 0 < 7 - x1.toInt)
    omega
  refine w_bipush 23 (6 : Int32) C at_21 rfl rfl ?_
  refine w_newarr 25 6 6 C hz at_23 rfl (hw _ (List.mem_of_getElem? (i := 1) rfl)) rfl (by decide) (by decide) (by decide) (by decide) (by decide) ?_
  intro h3 b4 X_b4 g_b4 sz0_b4 A_b4 hz_
  replace hz := hz_
  replace A_b4 : Ai Z h3 b4 .byte [(0 : Int32), (0 : Int32), (0 : Int32), (0 : Int32), (0 : Int32), (0 : Int32)] := A_b4
  show Go K h3 1 6 25 [.val (.long p0), .second, .val (.int p1), .val (.int p2), .val (.int p3), .val (.int x1), .val (.int x2), .unset, .unset] [.ref b4]
  refine w_astore 27 [.val (.long p0), .second, .val (.int p1), .val (.int p2), .val (.int p3), .val (.int x1), .val (.int x2), .val (.ref b4), .unset] C at_25 rfl rfl rfl ?_
  refine w_aload 29 C at_27 rfl rfl rfl ?_
  refine w_iconst 30 (0 : Int32) C at_29 rfl rfl ?_
  refine w_lloadN 31 C at_30 rfl rfl ?_
  refine w_iloadN 32 C at_31 rfl rfl ?_
  refine w_iconst 33 (0 : Int32) C at_32 rfl rfl ?_
  refine w_callS (y := (⟨"com/example/chronofield/chronofield/io/Iso2709RecordDigitsPinLaw", "pick", "(JII)B"⟩ : MethodName)) 36 2 [.long p0, .int p1, .int (0 : Int32)] C at_33 rfl (hw _ (List.mem_of_getElem? (i := 2) rfl)) (hw _ (List.mem_of_getElem? (i := 3) rfl)) (hw _ (List.mem_of_getElem? (i := 4) rfl)) (hw _ (List.mem_of_getElem? (i := 5) rfl)) (by decide) (rm_pick K.l Z a0 hw [] p0 p1 (0 : Int32) h3 n0 hz) pd_JII_to_B rfl (rest := [.int (0 : Int32), .ref b4]) rfl rfl (Nat.le_of_eq rfl) (by decide) (by decide) (by decide) (by decide) ?_
  rintro v6 h5 ⟨⟨g0, rfl⟩, rfl⟩
  show Go K h3 1 6 36 [.val (.long p0), .second, .val (.int p1), .val (.int p2), .val (.int p3), .val (.int x1), .val (.int x2), .val (.ref b4), .unset] [.int g0, .int (0 : Int32), .ref b4]
  obtain ⟨y8, hv_y8⟩ : ∃ z : Int32, g0.toInt8.toInt32 = z := ⟨_, rfl⟩
  refine w_bastore 37 0 y8 C A_b4 g_b4 at_36 rfl (by decide) (Nat.le_of_ble_eq_true rfl) hv_y8 ?_
  intro h7 K_h7 A_b4'
  replace A_b4 : Ai Z h7 b4 .byte [y8, (0 : Int32), (0 : Int32), (0 : Int32), (0 : Int32), (0 : Int32)] := A_b4'
  replace hz := Nat.le_trans hz K_h7.1
  refine w_aload 39 C at_37 rfl rfl rfl ?_
  refine w_iconst 40 (1 : Int32) C at_39 rfl rfl ?_
  refine w_lloadN 41 C at_40 rfl rfl ?_
  refine w_iloadN 42 C at_41 rfl rfl ?_
  refine w_iconst 43 (1 : Int32) C at_42 rfl rfl ?_
  refine w_callS (y := (⟨"com/example/chronofield/chronofield/io/Iso2709RecordDigitsPinLaw", "pick", "(JII)B"⟩ : MethodName)) 46 2 [.long p0, .int p1, .int (1 : Int32)] C at_43 rfl (hw _ (List.mem_of_getElem? (i := 2) rfl)) (hw _ (List.mem_of_getElem? (i := 3) rfl)) (hw _ (List.mem_of_getElem? (i := 4) rfl)) (hw _ (List.mem_of_getElem? (i := 5) rfl)) (by decide) (rm_pick K.l Z a0 hw [] p0 p1 (1 : Int32) h7 n0 hz) pd_JII_to_B rfl (rest := [.int (1 : Int32), .ref b4]) rfl rfl (Nat.le_of_eq rfl) (by decide) (by decide) (by decide) (by decide) ?_
  rintro v10 h9 ⟨⟨g1, rfl⟩, rfl⟩
  show Go K h7 1 6 46 [.val (.long p0), .second, .val (.int p1), .val (.int p2), .val (.int p3), .val (.int x1), .val (.int x2), .val (.ref b4), .unset] [.int g1, .int (1 : Int32), .ref b4]
  obtain ⟨y12, hv_y12⟩ : ∃ z : Int32, g1.toInt8.toInt32 = z := ⟨_, rfl⟩
  refine w_bastore 47 1 y12 C A_b4 g_b4 at_46 rfl (by decide) (Nat.le_of_ble_eq_true rfl) hv_y12 ?_
  intro h11 K_h11 A_b4'
  replace A_b4 : Ai Z h11 b4 .byte [y8, y12, (0 : Int32), (0 : Int32), (0 : Int32), (0 : Int32)] := A_b4'
  replace hz := Nat.le_trans hz K_h11.1
  refine w_aload 49 C at_47 rfl rfl rfl ?_
  refine w_iconst 50 (2 : Int32) C at_49 rfl rfl ?_
  refine w_lloadN 51 C at_50 rfl rfl ?_
  refine w_iloadN 52 C at_51 rfl rfl ?_
  refine w_iconst 53 (2 : Int32) C at_52 rfl rfl ?_
  refine w_callS (y := (⟨"com/example/chronofield/chronofield/io/Iso2709RecordDigitsPinLaw", "pick", "(JII)B"⟩ : MethodName)) 56 2 [.long p0, .int p1, .int (2 : Int32)] C at_53 rfl (hw _ (List.mem_of_getElem? (i := 2) rfl)) (hw _ (List.mem_of_getElem? (i := 3) rfl)) (hw _ (List.mem_of_getElem? (i := 4) rfl)) (hw _ (List.mem_of_getElem? (i := 5) rfl)) (by decide) (rm_pick K.l Z a0 hw [] p0 p1 (2 : Int32) h11 n0 hz) pd_JII_to_B rfl (rest := [.int (2 : Int32), .ref b4]) rfl rfl (Nat.le_of_eq rfl) (by decide) (by decide) (by decide) (by decide) ?_
  rintro v14 h13 ⟨⟨g2, rfl⟩, rfl⟩
  show Go K h11 1 6 56 [.val (.long p0), .second, .val (.int p1), .val (.int p2), .val (.int p3), .val (.int x1), .val (.int x2), .val (.ref b4), .unset] [.int g2, .int (2 : Int32), .ref b4]
  obtain ⟨y16, hv_y16⟩ : ∃ z : Int32, g2.toInt8.toInt32 = z := ⟨_, rfl⟩
  refine w_bastore 57 2 y16 C A_b4 g_b4 at_56 rfl (by decide) (Nat.le_of_ble_eq_true rfl) hv_y16 ?_
  intro h15 K_h15 A_b4'
  replace A_b4 : Ai Z h15 b4 .byte [y8, y12, y16, (0 : Int32), (0 : Int32), (0 : Int32)] := A_b4'
  replace hz := Nat.le_trans hz K_h15.1
  refine w_aload 59 C at_57 rfl rfl rfl ?_
  refine w_iconst 60 (3 : Int32) C at_59 rfl rfl ?_
  refine w_lloadN 61 C at_60 rfl rfl ?_
  refine w_iloadN 62 C at_61 rfl rfl ?_
  refine w_iconst 63 (3 : Int32) C at_62 rfl rfl ?_
  refine w_callS (y := (⟨"com/example/chronofield/chronofield/io/Iso2709RecordDigitsPinLaw", "pick", "(JII)B"⟩ : MethodName)) 66 2 [.long p0, .int p1, .int (3 : Int32)] C at_63 rfl (hw _ (List.mem_of_getElem? (i := 2) rfl)) (hw _ (List.mem_of_getElem? (i := 3) rfl)) (hw _ (List.mem_of_getElem? (i := 4) rfl)) (hw _ (List.mem_of_getElem? (i := 5) rfl)) (by decide) (rm_pick K.l Z a0 hw [] p0 p1 (3 : Int32) h15 n0 hz) pd_JII_to_B rfl (rest := [.int (3 : Int32), .ref b4]) rfl rfl (Nat.le_of_eq rfl) (by decide) (by decide) (by decide) (by decide) ?_
  rintro v18 h17 ⟨⟨g3, rfl⟩, rfl⟩
  show Go K h15 1 6 66 [.val (.long p0), .second, .val (.int p1), .val (.int p2), .val (.int p3), .val (.int x1), .val (.int x2), .val (.ref b4), .unset] [.int g3, .int (3 : Int32), .ref b4]
  obtain ⟨y20, hv_y20⟩ : ∃ z : Int32, g3.toInt8.toInt32 = z := ⟨_, rfl⟩
  refine w_bastore 67 3 y20 C A_b4 g_b4 at_66 rfl (by decide) (Nat.le_of_ble_eq_true rfl) hv_y20 ?_
  intro h19 K_h19 A_b4'
  replace A_b4 : Ai Z h19 b4 .byte [y8, y12, y16, y20, (0 : Int32), (0 : Int32)] := A_b4'
  replace hz := Nat.le_trans hz K_h19.1
  refine w_aload 69 C at_67 rfl rfl rfl ?_
  refine w_iconst 70 (4 : Int32) C at_69 rfl rfl ?_
  refine w_lloadN 71 C at_70 rfl rfl ?_
  refine w_iloadN 72 C at_71 rfl rfl ?_
  refine w_iconst 73 (4 : Int32) C at_72 rfl rfl ?_
  refine w_callS (y := (⟨"com/example/chronofield/chronofield/io/Iso2709RecordDigitsPinLaw", "pick", "(JII)B"⟩ : MethodName)) 76 2 [.long p0, .int p1, .int (4 : Int32)] C at_73 rfl (hw _ (List.mem_of_getElem? (i := 2) rfl)) (hw _ (List.mem_of_getElem? (i := 3) rfl)) (hw _ (List.mem_of_getElem? (i := 4) rfl)) (hw _ (List.mem_of_getElem? (i := 5) rfl)) (by decide) (rm_pick K.l Z a0 hw [] p0 p1 (4 : Int32) h19 n0 hz) pd_JII_to_B rfl (rest := [.int (4 : Int32), .ref b4]) rfl rfl (Nat.le_of_eq rfl) (by decide) (by decide) (by decide) (by decide) ?_
  rintro v22 h21 ⟨⟨g4, rfl⟩, rfl⟩
  show Go K h19 1 6 76 [.val (.long p0), .second, .val (.int p1), .val (.int p2), .val (.int p3), .val (.int x1), .val (.int x2), .val (.ref b4), .unset] [.int g4, .int (4 : Int32), .ref b4]
  obtain ⟨y24, hv_y24⟩ : ∃ z : Int32, g4.toInt8.toInt32 = z := ⟨_, rfl⟩
  refine w_bastore 77 4 y24 C A_b4 g_b4 at_76 rfl (by decide) (Nat.le_of_ble_eq_true rfl) hv_y24 ?_
  intro h23 K_h23 A_b4'
  replace A_b4 : Ai Z h23 b4 .byte [y8, y12, y16, y20, y24, (0 : Int32)] := A_b4'
  replace hz := Nat.le_trans hz K_h23.1
  refine w_aload 79 C at_77 rfl rfl rfl ?_
  refine w_iconst 80 (5 : Int32) C at_79 rfl rfl ?_
  refine w_lloadN 81 C at_80 rfl rfl ?_
  refine w_iloadN 82 C at_81 rfl rfl ?_
  refine w_iconst 83 (5 : Int32) C at_82 rfl rfl ?_
  refine w_callS (y := (⟨"com/example/chronofield/chronofield/io/Iso2709RecordDigitsPinLaw", "pick", "(JII)B"⟩ : MethodName)) 86 2 [.long p0, .int p1, .int (5 : Int32)] C at_83 rfl (hw _ (List.mem_of_getElem? (i := 2) rfl)) (hw _ (List.mem_of_getElem? (i := 3) rfl)) (hw _ (List.mem_of_getElem? (i := 4) rfl)) (hw _ (List.mem_of_getElem? (i := 5) rfl)) (by decide) (rm_pick K.l Z a0 hw [] p0 p1 (5 : Int32) h23 n0 hz) pd_JII_to_B rfl (rest := [.int (5 : Int32), .ref b4]) rfl rfl (Nat.le_of_eq rfl) (by decide) (by decide) (by decide) (by decide) ?_
  rintro v26 h25 ⟨⟨g5, rfl⟩, rfl⟩
  show Go K h23 1 6 86 [.val (.long p0), .second, .val (.int p1), .val (.int p2), .val (.int p3), .val (.int x1), .val (.int x2), .val (.ref b4), .unset] [.int g5, .int (5 : Int32), .ref b4]
  obtain ⟨y28, hv_y28⟩ : ∃ z : Int32, g5.toInt8.toInt32 = z := ⟨_, rfl⟩
  refine w_bastore 87 5 y28 C A_b4 g_b4 at_86 rfl (by decide) (Nat.le_of_ble_eq_true rfl) hv_y28 ?_
  intro h27 K_h27 A_b4'
  replace A_b4 : Ai Z h27 b4 .byte [y8, y12, y16, y20, y24, y28] := A_b4'
  replace hz := Nat.le_trans hz K_h27.1
  refine w_aload 89 C at_87 rfl rfl rfl ?_
  refine w_iload 91 C at_89 rfl rfl ?_
  refine w_iload 93 C at_91 rfl rfl ?_
  have r_y8 : -128 ≤ y8.toInt ∧ y8.toInt ≤ 127 := by rw [← hv_y8, own_i2b]; omega
  have r_y12 : -128 ≤ y12.toInt ∧ y12.toInt ≤ 127 := by rw [← hv_y12, own_i2b]; omega
  have r_y16 : -128 ≤ y16.toInt ∧ y16.toInt ≤ 127 := by rw [← hv_y16, own_i2b]; omega
  have r_y20 : -128 ≤ y20.toInt ∧ y20.toInt ≤ 127 := by rw [← hv_y20, own_i2b]; omega
  have r_y24 : -128 ≤ y24.toInt ∧ y24.toInt ≤ 127 := by rw [← hv_y24, own_i2b]; omega
  have r_y28 : -128 ≤ y28.toInt ∧ y28.toInt ≤ 127 := by rw [← hv_y28, own_i2b]; omega
  refine w_callS (y := (⟨"com/example/chronofield/chronofield/io/Iso2709RecordDigitsPinLaw", "reference", "([BII)I"⟩ : MethodName)) 96 0 [.ref b4, .int x1, .int x2] C at_93 rfl (hw _ (List.mem_of_getElem? (i := 7) rfl)) (hw _ (List.mem_of_getElem? (i := 8) rfl)) (hw _ (List.mem_of_getElem? (i := 4) rfl)) (hw _ (List.mem_of_getElem? (i := 9) rfl)) (by decide) (rm_ref K.l Z a0 hw [] b4 x1 x2 y8 y12 y16 y20 y24 y28 h27 n0 hz A_b4 (by omega) (by omega) r_y8 r_y12 r_y16 r_y20 r_y24 r_y28) pd_aBII_to_I rfl (rest := []) rfl rfl (Nat.le_of_eq rfl) (by decide) (by decide) (by decide) (by decide) ?_
  rintro v30 h29 ⟨⟨z, rfl, hzz⟩, rfl⟩
  show Go K h27 1 6 96 [.val (.long p0), .second, .val (.int p1), .val (.int p2), .val (.int p3), .val (.int x1), .val (.int x2), .val (.ref b4), .unset] [.int z]
  refine w_istore 98 [.val (.long p0), .second, .val (.int p1), .val (.int p2), .val (.int p3), .val (.int x1), .val (.int x2), .val (.ref b4), .val (.int z)] C at_96 rfl rfl ?_
  refine w_aload 100 C at_98 rfl rfl rfl ?_
  refine w_iload 102 C at_100 rfl rfl ?_
  refine w_iload 104 C at_102 rfl rfl ?_
  have hlen : ((((([y8, y12, y16, y20, y24, y28] : List Int32).drop x1.toInt.toNat).take x2.toInt.toNat).length : Nat) : Int) = x2.toInt := by
    rw [List.length_take, List.length_drop]
    show ((min x2.toInt.toNat (6 - x1.toInt.toNat) : Nat) : Int) = _
    omega
  have htk : ∀ e, e < ((([y8, y12, y16, y20, y24, y28] : List Int32).drop x1.toInt.toNat).take x2.toInt.toNat).length → [y8, y12, y16, y20, y24, y28][x1.toInt.toNat + e]? = ((([y8, y12, y16, y20, y24, y28] : List Int32).drop x1.toInt.toNat).take x2.toInt.toNat)[e]? := by
    intro e he
    rw [List.getElem?_take_of_lt (by rw [List.length_take] at he; omega), List.getElem?_drop]
  refine w_callS (y := (⟨"com/example/chronofield/chronofield/io/Iso2709Record", "digits", "([BII)I"⟩ : MethodName)) 107 0 [.ref b4, .int x1, .int x2] C at_104 rfl (hw _ (List.mem_of_getElem? (i := 16) rfl)) (hw _ (List.mem_of_getElem? (i := 17) rfl)) (hw _ (List.mem_of_getElem? (i := 18) rfl)) (hw _ (List.mem_of_getElem? (i := 19) rfl)) (by decide) (rm_dig K.l Z a0 hw [] b4 x1 x2 [y8, y12, y16, y20, y24, y28] ((([y8, y12, y16, y20, y24, y28] : List Int32).drop x1.toInt.toNat).take x2.toInt.toNat) h27 n0 hz A_b4 (by omega) (by omega) htk hlen) pd_aBII_to_I rfl (rest := []) rfl rfl (Nat.le_of_eq rfl) (by decide) (by decide) (by decide) (by decide) ?_
  rintro v32 h31 ⟨⟨r, rfl, hr⟩, rfl⟩
  show Go K h27 1 6 107 [.val (.long p0), .second, .val (.int p1), .val (.int p2), .val (.int p3), .val (.int x1), .val (.int x2), .val (.ref b4), .val (.int z)] [.int r]
  refine w_iload 109 C at_107 rfl rfl ?_
  have e : r = z := own_law _ _ y8 y12 y16 y20 y24 y28 z r hf hn hzz hr
  refine w_icmpN 112 C at_109 rfl (show ¬ (¬ (r = z)) from (fun q => q e)) ?_
  refine w_iconst 113 (1 : Int32) C at_112 rfl rfl ?_
  refine w_goto 117 C at_113 rfl ?_
  refine w_retN C (by simp) at_117 rfl (by decide) (by decide) ?_
  exact rfl
set_option maxRecDepth 65536 in
set_option maxHeartbeats 40000000 in
theorem comes_1 {Post : Tables → Env → Array Value → State → Outcome → State → Prop} (hpost : ∀ tb e args s v u, (limb_1_1.after args s (.returned v) u = true ∧ limb_1_2.after args s (.returned v) u = true ∧ True) → FrameEnd s (.returned v) u (Jvm.fieldLocs frame_1_writes args s ++ Jvm.arrayLocs frame_1_arrays args s ++ Jvm.staticLocs frame_1_statics s) 16 128 → Post tb e args s (.returned v) u) :
    ArmFor flags0 classFile x code maxLocals ret World_1 tables_1 room_1 Calls_1 rest_1 Pre_1 Post := by
  intro l hfl _ _ p e ha hc hk s m args below hf hA hF happ hP
  obtain ⟨hcalls, hrest, hpre⟩ := hP
  obtain ⟨-, -, -, hnamed, -, -, -, hat⟩ := (Spec.applies_iff hf).mp happ
  obtain ⟨hg, hn⟩ := and_e (Cond.before_iff.mp (show (Jvm.Cond.and given_1 narrow_1).before args s = true from hpre))
  obtain ⟨gc, r0⟩ := and_e hg
  obtain ⟨g0, r1⟩ := and_e r0
  obtain ⟨g1, r2⟩ := and_e r1
  obtain ⟨g2, r3⟩ := and_e r2
  obtain ⟨w0, w1, w2, w3, rfl⟩ : ∃ w0 w1 w2 w3 : Value, args = #[w0, w1, w2, w3] := by
    have hs : args.size = 4 := by simpa [Cond.value, given_1] using gc
    obtain ⟨L⟩ := args
    match L, hs with
    | [w0, w1, w2, w3], _ => exact ⟨w0, w1, w2, w3, rfl⟩
  have hw := fun d (hd : d ∈ tables_1) => atoms_spec (ws := Jvm.Cond.code x code maxLocals ret :: tables_1) hat d (List.mem_cons_of_mem _ hd)
  obtain ⟨i0, ei0⟩ := isL_v g0
  obtain rfl : w0 = (.long i0) := Option.some.inj ei0
  obtain ⟨i1, ei1⟩ := is_v g1
  obtain rfl : w1 = (.int i1) := Option.some.inj ei1
  obtain ⟨i2, ei2⟩ := is_v g2
  obtain rfl : w2 = (.int i2) := Option.some.inj ei2
  obtain ⟨i3, ei3⟩ := is_v r3
  obtain rfl : w3 = (.int i3) := Option.some.inj ei3
  obtain ⟨n, o, h1, h2, h3, _, L, rfl, ⟨N, rfl⟩, hq⟩ := rm0 l s _ hw tables_1 i0 i1 i2 i3 s.heap s.heap.size (Nat.le_refl _) p e ha hc hk s m _ below hf ((Spec.applies_iff_loose hf).mp happ).1 ⟨rfl, State.Warmed39.refl s, rfl⟩ trivial
  refine ⟨n, _, h1, h2, h3, hpost _ _ _ _ _ _ ⟨Cond.after_iff.mpr rfl, Cond.after_iff.mpr (eq_i res_at (Term.int_eval (1)) rfl), trivial⟩ ⟨hq.1, hq.2.1, (hq.2.2.sift fun y hy => Or.inr (N y hy)).mono (by decide) (by decide)⟩⟩
theorem main_1_1 : Claimed_1_1 := comes_1 fun _ _ _ _ _ _ h hF => ⟨h.1, hF⟩
theorem main_1_2 : Claimed_1_2 := comes_1 fun _ _ _ _ _ _ h hF => ⟨h.2.1, hF⟩
end Jvm.Pilot.@@N@@
namespace Jvm.Pilot.@@N@@
open Jvm Jvm.ClassFile Sem Op Lib Jvm.Free Jvm.Stand Jvm.Pilot.@@N@@.Jvm.D
/-! MADE BY PROGRAM (witnessworld.py) out of the Statement's table words and the real class files: 9 classes; the members and pool entries that the words name. The judged class is class 1, her method 1. -/
namespace start1
open Jvm.ClassFile
def u (s : String) : CpInfo := .utf8 (stringToUtf16 s)
/-- a pool by its gaps: so many unusable entries, then the entry; so many at the end -/
def gap : Nat → List CpInfo → List CpInfo
  | 0, r => r
  | n + 1, r => .unusable :: gap n r
def poolList (es : List (Nat × CpInfo)) (last : Nat) : List CpInfo := es.foldr (fun e r => gap e.1 (e.2 :: r)) (gap last [])
def pool (es : List (Nat × CpInfo)) (last : Nat) : Array CpInfo := ⟨poolList es last⟩
def fileOf (pool : Array CpInfo) (this : Nat) (attrs : Array Attribute := #[]) (ms : Array MethodInfo := #[]) (fl : Nat := 33) (sup : Nat := 0) (ifs : Array Nat := #[]) (fds : Array FieldInfo := #[]) : ClassFile where
  minorVersion := 0
  majorVersion := 65
  constantPool := pool
  accessFlags := fl
  thisClass := this
  superClass := sup
  interfaces := ifs
  fields := fds
  methods := ms
  attributes := attrs
def plain (name : String) (sup : Option ClassId) : Class where
  name := name
  kind := .ordinary
  loader := none
  accessFlags := 33
  super := sup
  interfaces := #[]
  cf := none
  fields := #[]
  methods := #[]
  instanceTypes := #[]
  staticTypes := #[]
  resolved := #[]
  callSites := []
  init := .initialized
  statics := none
  mirror := none

def pool0 : Array CpInfo := pool [(5, u "<init>"), (0, u "()V"), (1, .class_ 10), (1, u "java/lang/Object")] 113

def k0m0 : Method := { name := "<init>", desc := "()V", sig := { parameters := [], returnType := none }, accessFlags := 1, code := none }
/-- java/lang/Object -/
def k0 : Class := { plain "java/lang/Object" none with
  accessFlags := 33
  interfaces := #[]
  cf := some (fileOf pool0 8 #[] #[{ accessFlags := 1, nameIndex := 5, descriptorIndex := 6, attributes := #[] }] 33 0 #[] #[])
  fields := #[]
  methods := #[k0m0]
  instanceTypes := #[]
  staticTypes := #[]
  resolved := Array.replicate 124 none
  statics := none }

def pool1 : Array CpInfo := pool [(2, .class_ 4), (1, u "java/lang/Object"), (0, u "<init>"), (0, u "()V"), (0, .integer 2147483647), (0, .methodref 9 10), (0, .class_ 11), (0, .nameAndType 12 13), (0, u "com/example/chronofield/chronofield/io/Iso2709RecordDigitsPinLaw"), (0, u "pick"), (0, u "(JII)B"), (0, .methodref 9 15), (0, .nameAndType 16 17), (0, u "reference"), (0, u "([BII)I"), (0, .methodref 19 20), (0, .class_ 21), (0, .nameAndType 22 17), (0, u "com/example/chronofield/chronofield/io/Iso2709Record"), (0, u "digits"), (0, .long 255), (1, .integer 100000), (0, .methodref 9 27), (0, .nameAndType 28 29), (0, u "pow10"), (0, u "(I)I"), (0, .methodref 9 31), (0, .nameAndType 32 33), (0, u "bad"), (0, u "([BIII)Z"), (0, .methodref 9 35), (0, .nameAndType 36 37), (0, u "term"), (0, u "([BIII)I"), (2, u "law"), (0, u "(JIII)Z")] 5

def k1m0 : Method := { name := "<init>", desc := "()V", sig := { parameters := [], returnType := none }, accessFlags := 1, code := none }
def k1c1 : Code := { maxStack := 6, maxLocals := 9, code := code, exceptionTable := #[], attributes := #[] }
def k1m1 : Method := { name := "law", desc := "(JIII)Z", sig := { parameters := [.long, .int, .int, .int], returnType := some .boolean }, accessFlags := 9, code := some k1c1 }
def k1c2 : Code := { maxStack := 4, maxLocals := 5, code := method_3_code, exceptionTable := #[], attributes := #[] }
def k1m2 : Method := { name := "pick", desc := "(JII)B", sig := { parameters := [.long, .int, .int], returnType := some .byte }, accessFlags := 10, code := some k1c2 }
def k1c3 : Code := { maxStack := 3, maxLocals := 4, code := method_4_code, exceptionTable := #[], attributes := #[] }
def k1m3 : Method := { name := "bad", desc := "([BIII)Z", sig := { parameters := [(.array .byte), .int, .int, .int], returnType := some .boolean }, accessFlags := 10, code := some k1c3 }
def k1c4 : Code := { maxStack := 2, maxLocals := 1, code := method_5_code, exceptionTable := #[], attributes := #[] }
def k1m4 : Method := { name := "pow10", desc := "(I)I", sig := { parameters := [.int], returnType := some .int }, accessFlags := 10, code := some k1c4 }
def k1c5 : Code := { maxStack := 3, maxLocals := 4, code := method_6_code, exceptionTable := #[], attributes := #[] }
def k1m5 : Method := { name := "term", desc := "([BIII)I", sig := { parameters := [(.array .byte), .int, .int, .int], returnType := some .int }, accessFlags := 10, code := some k1c5 }
def k1c6 : Code := { maxStack := 5, maxLocals := 3, code := method_7_code, exceptionTable := #[], attributes := #[] }
def k1m6 : Method := { name := "reference", desc := "([BII)I", sig := { parameters := [(.array .byte), .int, .int], returnType := some .int }, accessFlags := 10, code := some k1c6 }
/-- com/example/chronofield/chronofield/io/Iso2709RecordDigitsPinLaw -/
def k1 : Class := { plain "com/example/chronofield/chronofield/io/Iso2709RecordDigitsPinLaw" (some 0) with
  accessFlags := 49
  interfaces := #[]
  cf := some (fileOf pool1 9 #[] #[{ accessFlags := 1, nameIndex := 5, descriptorIndex := 6, attributes := #[] }, { accessFlags := 9, nameIndex := 40, descriptorIndex := 41, attributes := #[] }, { accessFlags := 10, nameIndex := 12, descriptorIndex := 13, attributes := #[] }, { accessFlags := 10, nameIndex := 32, descriptorIndex := 33, attributes := #[] }, { accessFlags := 10, nameIndex := 28, descriptorIndex := 29, attributes := #[] }, { accessFlags := 10, nameIndex := 36, descriptorIndex := 37, attributes := #[] }, { accessFlags := 10, nameIndex := 16, descriptorIndex := 17, attributes := #[] }] 49 2 #[] #[])
  fields := #[]
  methods := #[k1m0, k1m1, k1m2, k1m3, k1m4, k1m5, k1m6]
  instanceTypes := #[]
  staticTypes := #[]
  resolved := Array.replicate 47 none
  statics := none }

def pool2 : Array CpInfo := pool [(2, .class_ 4), (1, u "java/lang/Object"), (3, .class_ 10), (1, u "com/example/chronofield/chronofield/io/Iso2709Record"), (0, u "bytes"), (0, u "[B"), (2, u "from"), (0, u "I"), (2, u "length"), (2, u "starts"), (0, u "[I"), (2, u "terminators"), (11, u "digits"), (0, u "([BII)I"), (64, u "LEADER_LENGTH"), (2, u "ENTRY_LENGTH"), (1, u "FIELD_TERMINATOR"), (0, u "B"), (1, u "SUBFIELD_DELIMITER"), (1, u "REPLACEMENT"), (0, u "C"), (0, u "CHARACTER_CODING"), (1, u "BASE_ADDRESS")] 47

def k2c0 : Code := { maxStack := 3, maxLocals := 5, code := prog_3_method_21_code, exceptionTable := #[], attributes := #[] }
def k2m0 : Method := { name := "digits", desc := "([BII)I", sig := { parameters := [(.array .byte), .int, .int], returnType := some .int }, accessFlags := 8, code := some k2c0 }
/-- com/example/chronofield/chronofield/io/Iso2709Record -/
def k2 : Class := { plain "com/example/chronofield/chronofield/io/Iso2709Record" (some 0) with
  accessFlags := 48
  interfaces := #[]
  cf := some (fileOf pool2 8 #[] #[{ accessFlags := 8, nameIndex := 38, descriptorIndex := 39, attributes := #[] }] 48 2 #[] #[{ accessFlags := 24, nameIndex := 104, descriptorIndex := 16, attributes := #[] }, { accessFlags := 24, nameIndex := 107, descriptorIndex := 16, attributes := #[] }, { accessFlags := 24, nameIndex := 109, descriptorIndex := 110, attributes := #[] }, { accessFlags := 24, nameIndex := 112, descriptorIndex := 110, attributes := #[] }, { accessFlags := 24, nameIndex := 114, descriptorIndex := 115, attributes := #[] }, { accessFlags := 26, nameIndex := 116, descriptorIndex := 16, attributes := #[] }, { accessFlags := 26, nameIndex := 118, descriptorIndex := 16, attributes := #[] }, { accessFlags := 18, nameIndex := 11, descriptorIndex := 12, attributes := #[] }, { accessFlags := 18, nameIndex := 15, descriptorIndex := 16, attributes := #[] }, { accessFlags := 18, nameIndex := 19, descriptorIndex := 16, attributes := #[] }, { accessFlags := 18, nameIndex := 22, descriptorIndex := 23, attributes := #[] }, { accessFlags := 18, nameIndex := 26, descriptorIndex := 23, attributes := #[] }])
  fields := #[{ name := "LEADER_LENGTH", type := .int, accessFlags := 24, slot := 0, constantValue := 0 }, { name := "ENTRY_LENGTH", type := .int, accessFlags := 24, slot := 1, constantValue := 0 }, { name := "FIELD_TERMINATOR", type := .byte, accessFlags := 24, slot := 2, constantValue := 0 }, { name := "SUBFIELD_DELIMITER", type := .byte, accessFlags := 24, slot := 3, constantValue := 0 }, { name := "REPLACEMENT", type := .char, accessFlags := 24, slot := 4, constantValue := 0 }, { name := "CHARACTER_CODING", type := .int, accessFlags := 26, slot := 5, constantValue := 0 }, { name := "BASE_ADDRESS", type := .int, accessFlags := 26, slot := 6, constantValue := 0 }, { name := "bytes", type := (.array .byte), accessFlags := 18, slot := 0, constantValue := 0 }, { name := "from", type := .int, accessFlags := 18, slot := 1, constantValue := 0 }, { name := "length", type := .int, accessFlags := 18, slot := 2, constantValue := 0 }, { name := "starts", type := (.array .int), accessFlags := 18, slot := 3, constantValue := 0 }, { name := "terminators", type := (.array .int), accessFlags := 18, slot := 4, constantValue := 0 }]
  methods := #[k2m0]
  instanceTypes := #[(.array .byte), .int, .int, (.array .int), (.array .int)]
  staticTypes := #[.int, .int, .byte, .byte, .char, .int, .int]
  resolved := Array.replicate 166 none
  statics := none }

def pool3 : Array CpInfo := pool [(1, u "java/lang/Cloneable"), (0, .class_ 1), (0, u "java/lang/Object"), (0, .class_ 3)] 3

/-- java/lang/Cloneable -/
def k3 : Class := { plain "java/lang/Cloneable" (some 0) with
  accessFlags := 1537
  interfaces := #[]
  cf := some (fileOf pool3 2 #[] #[] 1537 4 #[] #[])
  fields := #[]
  methods := #[]
  instanceTypes := #[]
  staticTypes := #[]
  resolved := Array.replicate 8 none
  statics := none }

def pool4 : Array CpInfo := pool [(1, u "java/io/Serializable"), (0, .class_ 1), (0, u "java/lang/Object"), (0, .class_ 3)] 3

/-- java/io/Serializable -/
def k4 : Class := { plain "java/io/Serializable" (some 0) with
  accessFlags := 1537
  interfaces := #[]
  cf := some (fileOf pool4 2 #[] #[] 1537 4 #[] #[])
  fields := #[]
  methods := #[]
  instanceTypes := #[]
  staticTypes := #[]
  resolved := Array.replicate 8 none
  statics := none }

/-- the primitive byte -/
def k5 : Class := { plain "byte" none with kind := .primitive 'B', accessFlags := 0x411 }
/-- [B -/
def k6 : Class := { plain "[B" (some 0) with kind := .array 5 .byte, interfaces := #[3, 4], accessFlags := 1041 }

/-- the primitive int -/
def k7 : Class := { plain "int" none with kind := .primitive 'I', accessFlags := 0x411 }
/-- [I -/
def k8 : Class := { plain "[I" (some 0) with kind := .array 7 .int, interfaces := #[3, 4], accessFlags := 1041 }

def heap : Heap := #[]
def classes : Array Class := #[k0, k1, k2, k3, k4, k5, k6, k7, k8]
def interned : List (Array UInt16 × Addr) := []
def slotsUsed : Nat := 0
def theMethod : MethodId := ⟨1, 1⟩
def args0 : Array Value := #[.long 300, .int 1, .int 3, .int 2]
def aboutOver (below : List Frame) : State where
  vm := { classes := classes, interned := interned.toArray }
  heap := heap
  slotsUsed := slotsUsed
  threads := #[{ frames := .invoking theMethod args0 :: below }]
def below0 : List Frame := [.native { method := ⟨0, 0⟩, args := #[] }]
def about1 : State := aboutOver below0
def p0 : Program := .bare "" "" ""
def e0 : Env := launch0.env 0 0 0
theorem w_frames : about1.frames = Frame.invoking theMethod args0 :: below0 := rfl
set_option maxRecDepth 65536 in
theorem w_args : argsFit about1.vm theMethod args0 = true := by decide +kernel
set_option maxRecDepth 65536 in
theorem w_heap : heapFits about1 = true := by decide +kernel
set_option maxRecDepth 65536 in
theorem w_runnable : about1.curStatus? = some .runnable := by decide +kernel
set_option maxRecDepth 65536 in
theorem w_alone : about1.alone = true := by decide +kernel
set_option maxRecDepth 65536 in
theorem w_named : about1.methodNamed? x = some theMethod := by decide +kernel
set_option maxRecDepth 65536 in
theorem w_hears : about1.hears theMethod below0 = true := by decide +kernel
set_option maxRecDepth 65536 in
theorem w_ripe : about1.ripe theMethod args0 below0 = true := by decide +kernel
theorem w_running : about1.status = .running := rfl
set_option maxRecDepth 65536 in
theorem w_room : about1.hasRoom e0.platform room_1 = true :=
  launch0.hasRoom_least _ room_1 (by decide +kernel) (by decide +kernel) (by decide +kernel) (by decide +kernel) (by decide +kernel) (by decide +kernel)
theorem allAtoms_all (ts : List Jvm.Cond) (a : Array Jvm.Value) (st : Jvm.State) : (allAtoms ts).before a st = ts.all (fun c => c.before a st) := by
  induction ts with
  | nil => rfl
  | cons c t ih =>
    show (Jvm.Cond.and c (allAtoms t)).before a st = _
    rw [Jvm.Cond.before_and, ih, List.all_cons]
def words1 : List Jvm.Cond := Jvm.Cond.code x code maxLocals ret :: tables_1
/-- a 'code' word, met by the world's own term for the bytes: nothing is compared byte by byte -/
theorem code_word {y : MethodName} {bytes : ByteArray} {mx : Nat} {rt : Option FieldType} {a : Array Value} {s : State} {m : MethodId} {meth : Method} {c : Code} (h1 : s.methodNamed? y = some m) (h2 : s.vm.method? m = some meth) (h3 : meth.code = some c) (h4 : c.code = bytes)
    (h5 : (c.maxLocals == mx && c.exceptionTable.isEmpty && decide (c.maxStack ≤ mostOperands) && decide (meth.sig.returnType = rt) && !meth.locks && decide (parseMethodDescriptor y.desc = some meth.sig)) = true) : (Jvm.Cond.code y bytes mx rt).before a s = true := by
  simp only [Bool.and_eq_true, beq_iff_eq, Bool.not_eq_true', decide_eq_true_eq] at h5
  obtain ⟨⟨⟨⟨⟨g1, g2⟩, g3⟩, g4⟩, g5⟩, g6⟩ := h5
  simp [Cond.before, Cond.holds, Cond.value, h1, h2, h3, h4, g1, g2, g3, g4, g5, g6]
def isCode : Jvm.Cond → Bool
  | .code _ _ _ _ => true
  | _ => false
theorem all_split {L : List Jvm.Cond} {P : Jvm.Cond → Bool} (h1 : L.all (fun c => isCode c || P c) = true) (h2 : ∀ c ∈ L.filter isCode, P c = true) : L.all P = true := by
  refine List.all_eq_true.mpr fun c hc => ?_
  have h := List.all_eq_true.mp h1 c hc
  rcases Bool.eq_false_or_eq_true (isCode c) with hi | hi
  · exact h2 c (List.mem_filter.mpr ⟨hc, hi⟩)
  · simpa [hi] using h
set_option maxRecDepth 65536 in
theorem w_c0 : (Jvm.Cond.code x code maxLocals ret).before args0 about1 = true := code_word (m := ⟨1, 1⟩) (meth := k1m1) (c := k1c1) (by decide +kernel) rfl rfl rfl (by decide +kernel)
set_option maxRecDepth 65536 in
theorem w_c1 : (Jvm.Cond.code ({ cls := "com/example/chronofield/chronofield/io/Iso2709RecordDigitsPinLaw", name := "pick", desc := "(JII)B" } : Jvm.MethodName) method_3_code (5 : Nat) (Option.some Jvm.ClassFile.FieldType.byte)).before args0 about1 = true := code_word (m := ⟨1, 2⟩) (meth := k1m2) (c := k1c2) (by decide +kernel) rfl rfl rfl (by decide +kernel)
set_option maxRecDepth 65536 in
theorem w_c2 : (Jvm.Cond.code ({ cls := "com/example/chronofield/chronofield/io/Iso2709RecordDigitsPinLaw", name := "reference", desc := "([BII)I" } : Jvm.MethodName) method_7_code (3 : Nat) (Option.some Jvm.ClassFile.FieldType.int)).before args0 about1 = true := code_word (m := ⟨1, 6⟩) (meth := k1m6) (c := k1c6) (by decide +kernel) rfl rfl rfl (by decide +kernel)
set_option maxRecDepth 65536 in
theorem w_c3 : (Jvm.Cond.code ({ cls := "com/example/chronofield/chronofield/io/Iso2709RecordDigitsPinLaw", name := "bad", desc := "([BIII)Z" } : Jvm.MethodName) method_4_code (4 : Nat) (Option.some Jvm.ClassFile.FieldType.boolean)).before args0 about1 = true := code_word (m := ⟨1, 3⟩) (meth := k1m3) (c := k1c3) (by decide +kernel) rfl rfl rfl (by decide +kernel)
set_option maxRecDepth 65536 in
theorem w_c4 : (Jvm.Cond.code ({ cls := "com/example/chronofield/chronofield/io/Iso2709RecordDigitsPinLaw", name := "term", desc := "([BIII)I" } : Jvm.MethodName) method_6_code (4 : Nat) (Option.some Jvm.ClassFile.FieldType.int)).before args0 about1 = true := code_word (m := ⟨1, 5⟩) (meth := k1m5) (c := k1c5) (by decide +kernel) rfl rfl rfl (by decide +kernel)
set_option maxRecDepth 65536 in
theorem w_c5 : (Jvm.Cond.code ({ cls := "com/example/chronofield/chronofield/io/Iso2709Record", name := "digits", desc := "([BII)I" } : Jvm.MethodName) prog_3_method_21_code (5 : Nat) (Option.some Jvm.ClassFile.FieldType.int)).before args0 about1 = true := code_word (m := ⟨2, 0⟩) (meth := k2m0) (c := k2c0) (by decide +kernel) rfl rfl rfl (by decide +kernel)
set_option maxRecDepth 65536 in
theorem w_c6 : (Jvm.Cond.code ({ cls := "com/example/chronofield/chronofield/io/Iso2709RecordDigitsPinLaw", name := "pow10", desc := "(I)I" } : Jvm.MethodName) method_5_code (1 : Nat) (Option.some Jvm.ClassFile.FieldType.int)).before args0 about1 = true := code_word (m := ⟨1, 4⟩) (meth := k1m4) (c := k1c4) (by decide +kernel) rfl rfl rfl (by decide +kernel)
def codes1 : List Jvm.Cond := [Jvm.Cond.code x code maxLocals ret, Jvm.Cond.code ({ cls := "com/example/chronofield/chronofield/io/Iso2709RecordDigitsPinLaw", name := "pick", desc := "(JII)B" } : Jvm.MethodName) method_3_code (5 : Nat) (Option.some Jvm.ClassFile.FieldType.byte), Jvm.Cond.code ({ cls := "com/example/chronofield/chronofield/io/Iso2709RecordDigitsPinLaw", name := "reference", desc := "([BII)I" } : Jvm.MethodName) method_7_code (3 : Nat) (Option.some Jvm.ClassFile.FieldType.int), Jvm.Cond.code ({ cls := "com/example/chronofield/chronofield/io/Iso2709RecordDigitsPinLaw", name := "bad", desc := "([BIII)Z" } : Jvm.MethodName) method_4_code (4 : Nat) (Option.some Jvm.ClassFile.FieldType.boolean), Jvm.Cond.code ({ cls := "com/example/chronofield/chronofield/io/Iso2709RecordDigitsPinLaw", name := "term", desc := "([BIII)I" } : Jvm.MethodName) method_6_code (4 : Nat) (Option.some Jvm.ClassFile.FieldType.int), Jvm.Cond.code ({ cls := "com/example/chronofield/chronofield/io/Iso2709Record", name := "digits", desc := "([BII)I" } : Jvm.MethodName) prog_3_method_21_code (5 : Nat) (Option.some Jvm.ClassFile.FieldType.int), Jvm.Cond.code ({ cls := "com/example/chronofield/chronofield/io/Iso2709RecordDigitsPinLaw", name := "pow10", desc := "(I)I" } : Jvm.MethodName) method_5_code (1 : Nat) (Option.some Jvm.ClassFile.FieldType.int)]
set_option maxRecDepth 65536 in
theorem codes_eq : words1.filter isCode = codes1 := rfl
theorem w_codes : ∀ c ∈ words1.filter isCode, c.before args0 about1 = true := by
  rw [codes_eq]
  intro c hc
  simp only [codes1, List.mem_cons, List.not_mem_nil, or_false] at hc
  rcases hc with rfl | rfl | rfl | rfl | rfl | rfl | rfl
  · exact w_c0
  · exact w_c1
  · exact w_c2
  · exact w_c3
  · exact w_c4
  · exact w_c5
  · exact w_c6
set_option maxRecDepth 65536 in
theorem w_t1 : (words1.take 24).all (fun c => isCode c || c.before args0 about1) = true := by decide +kernel
set_option maxRecDepth 65536 in
theorem w_t2 : (words1.drop 24).all (fun c => isCode c || c.before args0 about1) = true := by decide +kernel
theorem w_tables : (allAtoms (Jvm.Cond.code x code maxLocals ret :: tables_1)).before args0 about1 = true := by
  rw [allAtoms_all]
  show words1.all (fun c => c.before args0 about1) = true
  refine all_split ?_ w_codes
  rw [← List.take_append_drop 24 words1, List.all_append, w_t1, w_t2]
  rfl
set_option maxRecDepth 65536 in
theorem w_case : (Jvm.Cond.and given_1 narrow_1).before args0 about1 = true := by decide +kernel
theorem w_applies : (headSpec (Jvm.Cond.code x code maxLocals ret :: tables_1) room_1).applies x e0.platform about1 = true :=
  (Spec.applies_iff w_frames).mpr ⟨w_running, w_runnable, w_alone, w_named, w_hears, w_ripe, w_room, w_tables⟩
theorem atStart : AtStart classFile x code maxLocals ret World_1 tables_1 room_1 Calls_1 rest_1 Pre_1 launch0 p0 e0 about1 theMethod args0 below0 :=
  ⟨lists_1, trivial, launch0.admits_env _ _ _, launch0.least_env, fairChoices_fair.cas, fairChoices_fair.clock, w_frames, w_args, w_heap, w_applies, trivial, trivial, w_case⟩
end start1
theorem witness_1 : WitnessClaimed_1 := ⟨start1.p0, start1.e0, start1.about1, start1.theMethod, start1.args0, start1.below0, start1.atStart⟩
end Jvm.Pilot.@@N@@
