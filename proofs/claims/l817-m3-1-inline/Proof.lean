import JvmDerived
import JvmDerived.Pilot.@@N@@Statement
import JvmDerived.Pilot.@@N@@Code
set_option linter.unusedVariables false
set_option linter.unusedSimpArgs false
@@BLOCK:HandJ.lean.txt@@
@@BLOCK:SymMore.lean.txt@@
@@BLOCK:TracedD.lean.txt@@
namespace Jvm.OwnKit
open Sem ClassFile Op Lib Jvm.Stand Jvm.Free Jvm.LawKit Jvm.RoadKit Bundle Jvm.Free.Exc
/-- what is fixed in the whole proof: the launch, the start (whose tables the words speak of), its arguments, the least new address -/
abbrev Gx := Launch × State × Array Value × Nat
abbrev Gx.l (G : Gx) : Launch := G.1
abbrev Gx.Z (G : Gx) : State := G.2.1
abbrev Gx.a0 (G : Gx) : Array Value := G.2.2.1
abbrev Gx.n0 (G : Gx) : Nat := G.2.2.2
/-- what is fixed in one body's walk -/
abbrev Kx := Program × Env × State × MethodId × Array Value × List Frame × Method × Code
abbrev Kx.p (K : Kx) : Program := K.1
abbrev Kx.e (K : Kx) : Env := K.2.1
abbrev Kx.s (K : Kx) : State := K.2.2.1
abbrev Kx.m (K : Kx) : MethodId := K.2.2.2.1
abbrev Kx.args (K : Kx) : Array Value := K.2.2.2.2.1
abbrev Kx.below (K : Kx) : List Frame := K.2.2.2.2.2.1
abbrev Kx.meth (K : Kx) : Method := K.2.2.2.2.2.2.1
abbrev Kx.c (K : Kx) : Code := K.2.2.2.2.2.2.2
def Cx (G : Gx) (K : Kx) (own nm : String) (bytes : ByteArray) (maxL : Nat) (ret : Option FieldType) (W : List Jvm.Cond) : Prop :=
  K.p.tables.exec = Jvm.exec ∧ G.Z.Warmed39 K.s.vm ∧ K.c.code = bytes ∧ K.c.maxLocals = maxL ∧ K.s.vm.findClass own = some K.m.cls ∧ K.meth.name = nm ∧ K.meth.sig.returnType = ret ∧ K.meth.locks = false ∧ ∀ d ∈ W, d.before G.a0 G.Z = true
section Cxs
variable {G : Gx} {K : Kx} {own nm : String} {bytes : ByteArray} {maxL : Nat} {ret : Option FieldType} {W : List Jvm.Cond}
theorem Cx.hx (C : Cx G K own nm bytes maxL ret W) : K.p.tables.exec = Jvm.exec := C.1
theorem Cx.hZ (C : Cx G K own nm bytes maxL ret W) : G.Z.Warmed39 K.s.vm := C.2.1
theorem Cx.by (C : Cx G K own nm bytes maxL ret W) : K.c.code = bytes := C.2.2.1
theorem Cx.ml (C : Cx G K own nm bytes maxL ret W) : K.c.maxLocals = maxL := C.2.2.2.1
theorem Cx.ow (C : Cx G K own nm bytes maxL ret W) : K.s.vm.findClass own = some K.m.cls := C.2.2.2.2.1
theorem Cx.name (C : Cx G K own nm bytes maxL ret W) : K.meth.name = nm := C.2.2.2.2.2.1
theorem Cx.rt (C : Cx G K own nm bytes maxL ret W) : K.meth.sig.returnType = ret := C.2.2.2.2.2.2.1
theorem Cx.lk (C : Cx G K own nm bytes maxL ret W) : K.meth.locks = false := C.2.2.2.2.2.2.2.1
theorem Cx.w (C : Cx G K own nm bytes maxL ret W) {i : Nat} {d : Jvm.Cond} (h : W[i]? = some d) : d.before G.a0 G.Z = true := C.2.2.2.2.2.2.2.2 d (List.mem_of_getElem? h)
end Cxs
/-- the run stands in this body at pc with these locals and this stack, over the heap h, having made so many cells and slots: it ends as Q says -/
def NE (G : Gx) (K : Kx) (rm : Room) (Q : State → Outcome → Prop) (h : Heap) (cells slots pc : Nat) (ls : Array Slot) (st : List Value) : Prop :=
  ∀ (T : State) (locs : List Loc), Stand K.p G.l K.e rm K.s K.m K.args K.below K.meth K.c T locs cells slots → T.heap = h → Fr G.n0 locs →
    ∃ s₂ o, Steps K.p.tables K.e K.below (T.setTop (mkF K.m pc ls st)) s₂ ∧ s₂.status = .running ∧ Ended s₂ K.below o ∧ Q s₂ o
/-- the end of a body that interns nothing -/
def EndP (G : Gx) (K : Kx) (rm : Room) (Q : Option Value → Heap → Prop) : State → Outcome → Prop := fun s₂ o => ∃ v L, o = .returned v ∧ (Q v s₂.heap ∧ Fr G.n0 L) ∧ FrameEnd K.s o s₂ L rm.cells rm.slots
abbrev N (G : Gx) (K : Kx) (rm : Room) (Q : Option Value → Heap → Prop) (h : Heap) (cells slots pc : Nat) (ls : Array Slot) (st : List Value) : Prop := NE G K rm (EndP G K rm Q) h cells slots pc ls st
/-- a body's contract -/
def Con (G : Gx) (y : MethodName) (bytes : ByteArray) (maxL : Nat) (ret : Option FieldType) (rm : Room) (as : Array Value) (h : Heap) (Q : Option Value → Heap → Prop) : Prop :=
  ∀ ws : List Jvm.Cond, MetFree G.l y (head1 (Jvm.Cond.code y bytes maxL ret :: ws) rm) (fun a U => a = as ∧ G.Z.Warmed39 U.vm ∧ U.heap = h) (fun _ _ _ _ _ => True) (fun _ U o U' => ∃ v L, o = .returned v ∧ (Q v U'.heap ∧ Fr G.n0 L) ∧ FrameEnd U o U' L rm.cells rm.slots)
theorem Con.of {G : Gx} {y : MethodName} {bytes : ByteArray} {maxL : Nat} {ret : Option FieldType} {rm : Room} {as : Array Value} {h : Heap} {Q : Option Value → Heap → Prop} {W : List Jvm.Cond} {ls : Array Slot} (hpl : plainFor y = true) (hW : ∀ d ∈ W, d.before G.a0 G.Z = true)
    (he : ∀ m, entryFrame m as maxL = mkF m 0 ls []) (body : ∀ K : Kx, Cx G K y.cls y.name bytes maxL ret W → N G K rm Q h 0 0 0 ls []) : Con G y bytes maxL ret rm as h Q := fun ws => by
  refine MetFree.of_bodySF hpl hisR ?_
  intro p e s m args below meth c s₁ Bd hml hP hK
  obtain ⟨rfl, hZ, hh⟩ := hP
  have X0 : Stand p G.l e rm s m args below meth c s₁ [] 0 0 := Stand.of_body Bd
  obtain ⟨s₂, o, h1, h2, h3, h4⟩ := body (p, e, s, m, args, below, meth, c) ⟨Bd.exec, hZ, Bd.bytes, hml, findClass_of_methodNamed Bd.named, (name_of_methodNamed Bd.named Bd.method).1, Bd.returns, BodyLoose.notSynchronized Bd, hW⟩ s₁ [] X0 (by rw [← hh, Bd.state]; rfl) (Fr.nil _)
  exact ⟨s₂, o, castTop (he m) h1, h2, h3, h4⟩
theorem Con.mono {G : Gx} {y : MethodName} {bytes : ByteArray} {maxL : Nat} {ret : Option FieldType} {rm : Room} {as : Array Value} {h : Heap} {Q Q' : Option Value → Heap → Prop} (M : Con G y bytes maxL ret rm as h Q) (f : ∀ v h', Q v h' → Q' v h') : Con G y bytes maxL ret rm as h Q' := fun ws p e ha hc hk s m args below hf happ hP hK => by
  obtain ⟨n, o, h1, h2, h3, v, L, h4, ⟨h5, h6⟩, h7⟩ := M ws p e ha hc hk s m args below hf happ hP hK
  exact ⟨n, o, h1, h2, h3, v, L, h4, ⟨f _ _ h5, h6⟩, h7⟩
def cmpP : ClassFile.Cond → Int32 → Int32 → Prop
  | .eq, x, y => x = y
  | .ne, x, y => ¬ x = y
  | .lt, x, y => x.toInt < y.toInt
  | .ge, x, y => y.toInt ≤ x.toInt
  | .gt, x, y => y.toInt < x.toInt
  | .le, x, y => x.toInt ≤ y.toInt
def cmpN : ClassFile.Cond → Int32 → Int32 → Prop
  | .eq, x, y => ¬ x = y
  | .ne, x, y => x = y
  | .lt, x, y => y.toInt ≤ x.toInt
  | .ge, x, y => x.toInt < y.toInt
  | .gt, x, y => x.toInt ≤ y.toInt
  | .le, x, y => y.toInt < x.toInt
theorem cmp_or (cd : ClassFile.Cond) (x y : Int32) : (if_icmp.holds cd x y = true ∧ cmpP cd x y) ∨ (if_icmp.holds cd x y = false ∧ cmpN cd x y) := by
  have e1 := @Int32.lt_iff_toInt_lt x y
  have e2 := @Int32.lt_iff_toInt_lt y x
  by_cases h1 : x < y
  · obtain ⟨a1, a2, a3, a4⟩ := tlt h1
    have q := e1.mp h1
    have n : ¬ x = y := fun e => by subst e; omega
    obtain ⟨b1, b2⟩ := feq n
    have n' : ¬ y < x := fun z => by have := e2.mp z; omega
    obtain ⟨c1, c2, c3, c4⟩ := flt n'
    cases cd <;> simp only [cmpP, cmpN] <;> simp_all <;> omega
  · obtain ⟨a1, a2, a3, a4⟩ := flt h1
    have q : ¬ x.toInt < y.toInt := fun z => h1 (e1.mpr z)
    by_cases h2 : x = y
    · obtain ⟨b1, b2⟩ := teq h2
      subst h2
      obtain ⟨c1, c2, c3, c4⟩ := flt h1
      cases cd <;> simp only [cmpP, cmpN] <;> simp_all
    · obtain ⟨b1, b2⟩ := feq h2
      have q2 : ¬ x.toInt = y.toInt := fun z => h2 (Int32.toInt_inj.mp z)
      obtain ⟨c1, c2, c3, c4⟩ := tlt (e2.mpr (by omega : y.toInt < x.toInt))
      cases cd <;> simp only [cmpP, cmpN] <;> simp_all <;> omega
def cmpPL : ClassFile.Cond → Int64 → Int64 → Prop
  | .eq, x, y => x = y
  | .ne, x, y => ¬ x = y
  | .lt, x, y => x.toInt < y.toInt
  | .ge, x, y => y.toInt ≤ x.toInt
  | .gt, x, y => y.toInt < x.toInt
  | .le, x, y => x.toInt ≤ y.toInt
def cmpNL : ClassFile.Cond → Int64 → Int64 → Prop
  | .eq, x, y => ¬ x = y
  | .ne, x, y => x = y
  | .lt, x, y => y.toInt ≤ x.toInt
  | .ge, x, y => x.toInt < y.toInt
  | .gt, x, y => x.toInt ≤ y.toInt
  | .le, x, y => y.toInt < x.toInt
theorem cmp_orL (cd : ClassFile.Cond) (x y : Int64) : (ifCond.holds cd (lcmpW x y) = true ∧ cmpPL cd x y) ∨ (ifCond.holds cd (lcmpW x y) = false ∧ cmpNL cd x y) := by
  have hl : (lcmpW x y).toInt < (0 : Int32).toInt ↔ x.toInt < y.toInt := by rw [← Int32.lt_iff_toInt_lt, ← Int64.lt_iff_toInt_lt]; exact lw_lt x y
  have hg : (0 : Int32).toInt < (lcmpW x y).toInt ↔ y.toInt < x.toInt := by rw [← Int32.lt_iff_toInt_lt, ← Int64.lt_iff_toInt_lt]; exact lw_gt x y
  have he := lw_eq x y
  generalize lcmpW x y = z at *
  rw [if0]
  rcases cmp_or cd z 0 with ⟨h1, h2⟩ | ⟨h1, h2⟩
  · refine Or.inl ⟨h1, ?_⟩
    cases cd <;> simp only [cmpP, cmpPL] at h2 ⊢ <;> first | exact he.mp h2 | exact fun q => h2 (he.mpr q) | omega
  · refine Or.inr ⟨h1, ?_⟩
    cases cd <;> simp only [cmpN, cmpNL] at h2 ⊢ <;> first | exact he.mp h2 | exact fun q => h2 (he.mpr q) | omega
/-- the array at x, of that type, holds just these -/
def Av (Z : State) (h : Heap) (x : Addr) (ty : FieldType) (vs : List Value) : Prop := ∃ c : Cell, Arr Z h x c ty ∧ c.slots.toList = vs
theorem ix {j : Int32} {i : Nat} (h : j.toInt = (i : Int)) : ¬ j < 0 ∧ j.toNatClampNeg = i := by
  refine ⟨fun q => ?_, ?_⟩
  · have := Int32.lt_iff_toInt_lt.mp q
    have e0 : (0 : Int32).toInt = 0 := by decide
    omega
  · show j.toInt.toNat = i
    omega
theorem ixin {j : Int32} {i n : Nat} (h : j.toInt = (i : Int)) (hi : i < n) : ¬ (j < 0 ∨ n ≤ j.toNatClampNeg) := by
  obtain ⟨h1, h2⟩ := ix h
  rintro (q | q)
  · exact h1 q
  · omega
theorem eqI {x y : Int32} (h : x = y) : x.toInt = y.toInt := h ▸ rfl
theorem neI {x y : Int32} (h : ¬ x = y) : ¬ x.toInt = y.toInt := fun q => h (Int32.toInt_inj.mp q)
theorem eqL {x y : Int64} (h : x = y) : x.toInt = y.toInt := h ▸ rfl
theorem neL {x y : Int64} (h : ¬ x = y) : ¬ x.toInt = y.toInt := fun q => h (Int64.toInt_inj.mp q)
section Avs
variable {Z : State} {h h' : Heap} {x y : Addr} {ty : FieldType} {vs : List Value} {i : Nat} {v : Value} {sl : Nat} {ws : List Addr}
theorem Av.lt (A : Av Z h x ty vs) : x < h.size := by obtain ⟨c, A, -⟩ := A; exact A.lt
theorem Av.ext (A : Av Z h x ty vs) (E : Ext h h') : Av Z h' x ty vs := by obtain ⟨c, A, r⟩ := A; exact ⟨c, A.ext E, r⟩
theorem Av.other (A : Av Z h x ty vs) (W : Wr h h' y sl v) (q : x ≠ y) : Av Z h' x ty vs := by obtain ⟨c, A, r⟩ := A; exact ⟨c, A.other W q, r⟩
theorem Av.keep (A : Av Z h x ty vs) (K : Keep h h' ws) (q : x ∉ ws) : Av Z h' x ty vs := by obtain ⟨c, A, r⟩ := A; exact ⟨c, ⟨K.2.1 x c A.1 q, A.2⟩, r⟩
theorem Av.same (A : Av Z h x ty vs) (W : Wr h h' x i v) : Av Z h' x ty (vs.set i v) := by
  obtain ⟨c, A, rfl⟩ := A
  exact ⟨_, A.same W, by simp [Cell.setSlot]⟩
theorem Av.new {k : ClassId} {z : Int32} (A : Arr Z h x (newA k ty z) ty) : Av Z h x ty (List.replicate z.toNatClampNeg (defaultValue ty)) := ⟨_, A, by simp [newA]⟩
end Avs
section Rules
variable {G : Gx} {K : Kx} {rm : Room} {own nm : String} {bytes : ByteArray} {maxL : Nat} {ret : Option FieldType} {W : List Jvm.Cond} {Q : State → Outcome → Prop} {Qv : Option Value → Heap → Prop} {h : Heap} {a b pc pc' : Nat} {ls ls' : Array Slot} {st st' : List Value}
theorem N.step (f : ∀ T, At T K.m K.c K.below → ∀ t, Steps K.p.tables K.e K.below (T.setTop (mkF K.m pc' ls' st')) t → Steps K.p.tables K.e K.below (T.setTop (mkF K.m pc ls st)) t) (k : NE G K rm Q h a b pc' ls' st') : NE G K rm Q h a b pc ls st := fun T locs X e F => by
  obtain ⟨s₂, o, hs, r⟩ := k T locs X e F
  exact ⟨s₂, o, f T X.here _ hs, r⟩
theorem N.stX (f : ∀ (T : State) (locs : List Loc), Stand K.p G.l K.e rm K.s K.m K.args K.below K.meth K.c T locs a b → T.heap = h → ∀ t, Steps K.p.tables K.e K.below (T.setTop (mkF K.m pc' ls' st')) t → Steps K.p.tables K.e K.below (T.setTop (mkF K.m pc ls st)) t) (k : NE G K rm Q h a b pc' ls' st') : NE G K rm Q h a b pc ls st := fun T locs X e F => by
  obtain ⟨s₂, o, hs, r⟩ := k T locs X e F
  exact ⟨s₂, o, f T locs X e _ hs, r⟩
theorem N.more {a' b' : Nat} (k : NE G K rm Q h a' b' pc ls st) (ha : a ≤ a') (hb : b ≤ b') : NE G K rm Q h a b pc ls st := fun T locs X e F => k T locs (X.more ha hb) e F

theorem N.iload (C : Cx G K own nm bytes maxL ret W) {k : Nat} {v : Int32} (hd : decode bytes pc = .ok (.iload k, 2)) (hl : ls[k]? = some (.val (.int v))) (hp : pc + 2 = pc') (k : NE G K rm Q h a b pc' ls (.int v :: st)) : NE G K rm Q h a b pc ls (st) := by
  subst hp; exact N.step (fun T A t ht => XS.iload A C.hx rfl (hb C.by hd) hl ht) k
theorem N.iloadN (C : Cx G K own nm bytes maxL ret W) {k : Fin 4} {v : Int32} (hd : decode bytes pc = .ok (.iload_n k, 1)) (hl : ls[k.val]? = some (.val (.int v))) (hp : pc + 1 = pc') (k : NE G K rm Q h a b pc' ls (.int v :: st)) : NE G K rm Q h a b pc ls (st) := by
  subst hp; exact N.step (fun T A t ht => XS.iloadN A C.hx rfl (hb C.by hd) hl ht) k
theorem N.istore (C : Cx G K own nm bytes maxL ret W) {k : Nat} {v : Int32} (hd : decode bytes pc = .ok (.istore k, 2)) (hl : storeLocals ls k (.int v) = some ls') (hp : pc + 2 = pc') (k : NE G K rm Q h a b pc' ls' (st)) : NE G K rm Q h a b pc ls (.int v :: st) := by
  subst hp; exact N.step (fun T A t ht => XS.istore A C.hx rfl (hb C.by hd) rfl hl ht) k
theorem N.istoreN (C : Cx G K own nm bytes maxL ret W) {k : Fin 4} {v : Int32} (hd : decode bytes pc = .ok (.istore_n k, 1)) (hl : storeLocals ls k.val (.int v) = some ls') (hp : pc + 1 = pc') (k : NE G K rm Q h a b pc' ls' (st)) : NE G K rm Q h a b pc ls (.int v :: st) := by
  subst hp; exact N.step (fun T A t ht => XS.istoreN A C.hx rfl (hb C.by hd) rfl hl ht) k
theorem N.iadd (C : Cx G K own nm bytes maxL ret W) {x y : Int32} (hd : decode bytes pc = .ok (.iadd, 1)) (hp : pc + 1 = pc') (k : NE G K rm Q h a b pc' ls (.int (x + y) :: st)) : NE G K rm Q h a b pc ls (.int y :: .int x :: st) := by
  subst hp; exact N.step (fun T A t ht => XS.iadd A C.hx rfl (hb C.by hd) rfl ht) k
theorem N.isub (C : Cx G K own nm bytes maxL ret W) {x y : Int32} (hd : decode bytes pc = .ok (.isub, 1)) (hp : pc + 1 = pc') (k : NE G K rm Q h a b pc' ls (.int (x - y) :: st)) : NE G K rm Q h a b pc ls (.int y :: .int x :: st) := by
  subst hp; exact N.step (fun T A t ht => XS.isub A C.hx rfl (hb C.by hd) rfl ht) k
theorem N.imul (C : Cx G K own nm bytes maxL ret W) {x y : Int32} (hd : decode bytes pc = .ok (.imul, 1)) (hp : pc + 1 = pc') (k : NE G K rm Q h a b pc' ls (.int (x * y) :: st)) : NE G K rm Q h a b pc ls (.int y :: .int x :: st) := by
  subst hp; exact N.step (fun T A t ht => XS.imul A C.hx rfl (hb C.by hd) rfl ht) k
theorem N.iand (C : Cx G K own nm bytes maxL ret W) {x y : Int32} (hd : decode bytes pc = .ok (.iand, 1)) (hp : pc + 1 = pc') (k : NE G K rm Q h a b pc' ls (.int (x &&& y) :: st)) : NE G K rm Q h a b pc ls (.int y :: .int x :: st) := by
  subst hp; exact N.step (fun T A t ht => XS.iand A C.hx rfl (hb C.by hd) rfl ht) k
theorem N.ior (C : Cx G K own nm bytes maxL ret W) {x y : Int32} (hd : decode bytes pc = .ok (.ior, 1)) (hp : pc + 1 = pc') (k : NE G K rm Q h a b pc' ls (.int (x ||| y) :: st)) : NE G K rm Q h a b pc ls (.int y :: .int x :: st) := by
  subst hp; exact N.step (fun T A t ht => XS.ior A C.hx rfl (hb C.by hd) rfl ht) k
theorem N.ixor (C : Cx G K own nm bytes maxL ret W) {x y : Int32} (hd : decode bytes pc = .ok (.ixor, 1)) (hp : pc + 1 = pc') (k : NE G K rm Q h a b pc' ls (.int (x ^^^ y) :: st)) : NE G K rm Q h a b pc ls (.int y :: .int x :: st) := by
  subst hp; exact N.step (fun T A t ht => XS.ixor A C.hx rfl (hb C.by hd) rfl ht) k
theorem N.idiv (C : Cx G K own nm bytes maxL ret W) {x y : Int32} (hd : decode bytes pc = .ok (.idiv, 1)) (hy : y ≠ 0) (hp : pc + 1 = pc') (k : NE G K rm Q h a b pc' ls (.int (x / y) :: st)) : NE G K rm Q h a b pc ls (.int y :: .int x :: st) := by
  subst hp; exact N.step (fun T A t ht => XS.idiv A C.hx rfl (hb C.by hd) rfl hy ht) k
theorem N.ineg (C : Cx G K own nm bytes maxL ret W) {x : Int32} (hd : decode bytes pc = .ok (.ineg, 1)) (hp : pc + 1 = pc') (k : NE G K rm Q h a b pc' ls (.int (-x) :: st)) : NE G K rm Q h a b pc ls (.int x :: st) := by
  subst hp; exact N.step (fun T A t ht => XS.ineg A C.hx rfl (hb C.by hd) rfl ht) k
theorem N.lload (C : Cx G K own nm bytes maxL ret W) {k : Nat} {v : Int64} (hd : decode bytes pc = .ok (.lload k, 2)) (hl : ls[k]? = some (.val (.long v))) (hp : pc + 2 = pc') (k : NE G K rm Q h a b pc' ls (.long v :: st)) : NE G K rm Q h a b pc ls (st) := by
  subst hp; exact N.step (fun T A t ht => XS.lload A C.hx rfl (hb C.by hd) hl ht) k
theorem N.lloadN (C : Cx G K own nm bytes maxL ret W) {k : Fin 4} {v : Int64} (hd : decode bytes pc = .ok (.lload_n k, 1)) (hl : ls[k.val]? = some (.val (.long v))) (hp : pc + 1 = pc') (k : NE G K rm Q h a b pc' ls (.long v :: st)) : NE G K rm Q h a b pc ls (st) := by
  subst hp; exact N.step (fun T A t ht => XS.lloadN A C.hx rfl (hb C.by hd) hl ht) k
theorem N.lstore (C : Cx G K own nm bytes maxL ret W) {k : Nat} {v : Int64} (hd : decode bytes pc = .ok (.lstore k, 2)) (hl : storeLocals ls k (.long v) = some ls') (hp : pc + 2 = pc') (k : NE G K rm Q h a b pc' ls' (st)) : NE G K rm Q h a b pc ls (.long v :: st) := by
  subst hp; exact N.step (fun T A t ht => XS.lstore A C.hx rfl (hb C.by hd) rfl hl ht) k
theorem N.lstoreN (C : Cx G K own nm bytes maxL ret W) {k : Fin 4} {v : Int64} (hd : decode bytes pc = .ok (.lstore_n k, 1)) (hl : storeLocals ls k.val (.long v) = some ls') (hp : pc + 1 = pc') (k : NE G K rm Q h a b pc' ls' (st)) : NE G K rm Q h a b pc ls (.long v :: st) := by
  subst hp; exact N.step (fun T A t ht => XS.lstoreN A C.hx rfl (hb C.by hd) rfl hl ht) k
theorem N.ladd (C : Cx G K own nm bytes maxL ret W) {x y : Int64} (hd : decode bytes pc = .ok (.ladd, 1)) (hp : pc + 1 = pc') (k : NE G K rm Q h a b pc' ls (.long (x + y) :: st)) : NE G K rm Q h a b pc ls (.long y :: .long x :: st) := by
  subst hp; exact N.step (fun T A t ht => XS.ladd A C.hx rfl (hb C.by hd) rfl ht) k
theorem N.lsub (C : Cx G K own nm bytes maxL ret W) {x y : Int64} (hd : decode bytes pc = .ok (.lsub, 1)) (hp : pc + 1 = pc') (k : NE G K rm Q h a b pc' ls (.long (x - y) :: st)) : NE G K rm Q h a b pc ls (.long y :: .long x :: st) := by
  subst hp; exact N.step (fun T A t ht => XS.lsub A C.hx rfl (hb C.by hd) rfl ht) k
theorem N.lmul (C : Cx G K own nm bytes maxL ret W) {x y : Int64} (hd : decode bytes pc = .ok (.lmul, 1)) (hp : pc + 1 = pc') (k : NE G K rm Q h a b pc' ls (.long (x * y) :: st)) : NE G K rm Q h a b pc ls (.long y :: .long x :: st) := by
  subst hp; exact N.step (fun T A t ht => XS.lmul A C.hx rfl (hb C.by hd) rfl ht) k
theorem N.land (C : Cx G K own nm bytes maxL ret W) {x y : Int64} (hd : decode bytes pc = .ok (.land, 1)) (hp : pc + 1 = pc') (k : NE G K rm Q h a b pc' ls (.long (x &&& y) :: st)) : NE G K rm Q h a b pc ls (.long y :: .long x :: st) := by
  subst hp; exact N.step (fun T A t ht => XS.land A C.hx rfl (hb C.by hd) rfl ht) k
theorem N.lor (C : Cx G K own nm bytes maxL ret W) {x y : Int64} (hd : decode bytes pc = .ok (.lor, 1)) (hp : pc + 1 = pc') (k : NE G K rm Q h a b pc' ls (.long (x ||| y) :: st)) : NE G K rm Q h a b pc ls (.long y :: .long x :: st) := by
  subst hp; exact N.step (fun T A t ht => XS.lor A C.hx rfl (hb C.by hd) rfl ht) k
theorem N.lxor (C : Cx G K own nm bytes maxL ret W) {x y : Int64} (hd : decode bytes pc = .ok (.lxor, 1)) (hp : pc + 1 = pc') (k : NE G K rm Q h a b pc' ls (.long (x ^^^ y) :: st)) : NE G K rm Q h a b pc ls (.long y :: .long x :: st) := by
  subst hp; exact N.step (fun T A t ht => XS.lxor A C.hx rfl (hb C.by hd) rfl ht) k
theorem N.ldiv (C : Cx G K own nm bytes maxL ret W) {x y : Int64} (hd : decode bytes pc = .ok (.ldiv, 1)) (hy : y ≠ 0) (hp : pc + 1 = pc') (k : NE G K rm Q h a b pc' ls (.long (x / y) :: st)) : NE G K rm Q h a b pc ls (.long y :: .long x :: st) := by
  subst hp; exact N.step (fun T A t ht => XS.ldiv A C.hx rfl (hb C.by hd) rfl hy ht) k
theorem N.lneg (C : Cx G K own nm bytes maxL ret W) {x : Int64} (hd : decode bytes pc = .ok (.lneg, 1)) (hp : pc + 1 = pc') (k : NE G K rm Q h a b pc' ls (.long (-x) :: st)) : NE G K rm Q h a b pc ls (.long x :: st) := by
  subst hp; exact N.step (fun T A t ht => XS.lneg A C.hx rfl (hb C.by hd) rfl ht) k
theorem N.irem (C : Cx G K own nm bytes maxL ret W) {x y : Int32} (hd : decode bytes pc = .ok (.irem, 1)) (hy : y ≠ 0) (hp : pc + 1 = pc') (k : NE G K rm Q h a b pc' ls (.int (x % y) :: st)) : NE G K rm Q h a b pc ls (.int y :: .int x :: st) := by
  subst hp; exact N.step (fun T A t ht => XS.irem A C.hx rfl (hb C.by hd) rfl hy (by rw [irem_eq_mod]; exact ht)) k
theorem N.lrem (C : Cx G K own nm bytes maxL ret W) {x y : Int64} (hd : decode bytes pc = .ok (.lrem, 1)) (hy : y ≠ 0) (hp : pc + 1 = pc') (k : NE G K rm Q h a b pc' ls (.long (x % y) :: st)) : NE G K rm Q h a b pc ls (.long y :: .long x :: st) := by
  subst hp; exact N.step (fun T A t ht => XS.lrem A C.hx rfl (hb C.by hd) rfl hy (by rw [lrem_mod]; exact ht)) k
theorem N.aload (C : Cx G K own nm bytes maxL ret W) {k : Nat} {v : Value} (hd : decode bytes pc = .ok (.aload k, 2)) (hl : ls[k]? = some (.val v)) (hv : v.isRef = true) (hp : pc + 2 = pc') (k : NE G K rm Q h a b pc' ls (v :: st)) : NE G K rm Q h a b pc ls (st) := by
  subst hp; exact N.step (fun T A t ht => XS.aload A C.hx rfl (hb C.by hd) hl hv ht) k
theorem N.aloadN (C : Cx G K own nm bytes maxL ret W) {k : Fin 4} {v : Value} (hd : decode bytes pc = .ok (.aload_n k, 1)) (hl : ls[k.val]? = some (.val v)) (hv : v.isRef = true) (hp : pc + 1 = pc') (k : NE G K rm Q h a b pc' ls (v :: st)) : NE G K rm Q h a b pc ls (st) := by
  subst hp; exact N.step (fun T A t ht => XS.aloadN A C.hx rfl (hb C.by hd) hl hv ht) k
theorem N.astore (C : Cx G K own nm bytes maxL ret W) {k : Nat} {v : Value} (hd : decode bytes pc = .ok (.astore k, 2)) (hv : v.isRef = true) (hl : storeLocals ls k v = some ls') (hp : pc + 2 = pc') (k : NE G K rm Q h a b pc' ls' (st)) : NE G K rm Q h a b pc ls (v :: st) := by
  subst hp; exact N.step (fun T A t ht => XS.astore A C.hx rfl (hb C.by hd) rfl hv hl ht) k
theorem N.astoreN (C : Cx G K own nm bytes maxL ret W) {k : Fin 4} {v : Value} (hd : decode bytes pc = .ok (.astore_n k, 1)) (hv : v.isRef = true) (hl : storeLocals ls k.val v = some ls') (hp : pc + 1 = pc') (k : NE G K rm Q h a b pc' ls' (st)) : NE G K rm Q h a b pc ls (v :: st) := by
  subst hp; exact N.step (fun T A t ht => XS.astoreN A C.hx rfl (hb C.by hd) rfl hv hl ht) k
theorem N.iconst (C : Cx G K own nm bytes maxL ret W) {i : Int} {z : Int32} (hd : decode bytes pc = .ok (.iconst i, 1)) (hz : Int32.ofInt i = z) (hp : pc + 1 = pc') (k : NE G K rm Q h a b pc' ls (.int z :: st)) : NE G K rm Q h a b pc ls st := by
  subst hp hz; exact N.step (fun T A t ht => XS.iconst A C.hx rfl (hb C.by hd) ht) k
theorem N.bipush (C : Cx G K own nm bytes maxL ret W) {i : Int} {z : Int32} (hd : decode bytes pc = .ok (.bipush i, 2)) (hz : (Int8.ofInt i).toInt32 = z) (hp : pc + 2 = pc') (k : NE G K rm Q h a b pc' ls (.int z :: st)) : NE G K rm Q h a b pc ls st := by
  subst hp hz; exact N.step (fun T A t ht => XS.bipush A C.hx rfl (hb C.by hd) ht) k
theorem N.sipush (C : Cx G K own nm bytes maxL ret W) {i : Int} {z : Int32} (hd : decode bytes pc = .ok (.sipush i, 3)) (hz : (Int16.ofInt i).toInt32 = z) (hp : pc + 3 = pc') (k : NE G K rm Q h a b pc' ls (.int z :: st)) : NE G K rm Q h a b pc ls st := by
  subst hp hz; exact N.step (fun T A t ht => XS.sipush A C.hx rfl (hb C.by hd) ht) k
theorem N.lconst (C : Cx G K own nm bytes maxL ret W) {k : Fin 2} {z : Int64} (hd : decode bytes pc = .ok (.lconst k, 1)) (hz : Int64.ofNat k = z) (hp : pc + 1 = pc') (k : NE G K rm Q h a b pc' ls (.long z :: st)) : NE G K rm Q h a b pc ls st := by
  subst hp hz; exact N.step (fun T A t ht => XS.lconst A C.hx rfl (hb C.by hd) ht) k
theorem N.aconst_null (C : Cx G K own nm bytes maxL ret W)  (hd : decode bytes pc = .ok (.aconst_null, 1)) (hp : pc + 1 = pc') (k : NE G K rm Q h a b pc' ls (.null :: st)) : NE G K rm Q h a b pc ls (st) := by
  subst hp; exact N.step (fun T A t ht => XS.aconstNull A C.hx rfl (hb C.by hd)  ht) k
theorem N.dup (C : Cx G K own nm bytes maxL ret W) {v : Value} (hd : decode bytes pc = .ok (.dup, 1)) (hc : v.category = 1) (hp : pc + 1 = pc') (k : NE G K rm Q h a b pc' ls (v :: v :: st)) : NE G K rm Q h a b pc ls (v :: st) := by
  subst hp; exact N.step (fun T A t ht => XS.dup A C.hx rfl (hb C.by hd) rfl hc ht) k
theorem N.pop (C : Cx G K own nm bytes maxL ret W) {v : Value} (hd : decode bytes pc = .ok (.pop, 1)) (hc : v.category = 1) (hp : pc + 1 = pc') (k : NE G K rm Q h a b pc' ls (st)) : NE G K rm Q h a b pc ls (v :: st) := by
  subst hp; exact N.step (fun T A t ht => XS.pop A C.hx rfl (hb C.by hd) rfl hc ht) k
theorem N.dup_x1 (C : Cx G K own nm bytes maxL ret W) {v w : Value} (hd : decode bytes pc = .ok (.dup_x1, 1)) (hc : v.category = 1) (hc' : w.category = 1) (hp : pc + 1 = pc') (k : NE G K rm Q h a b pc' ls (v :: w :: v :: st)) : NE G K rm Q h a b pc ls (v :: w :: st) := by
  subst hp; exact N.step (fun T A t ht => XS.dupX1 A C.hx rfl (hb C.by hd) rfl hc hc' ht) k
theorem N.dup2 (C : Cx G K own nm bytes maxL ret W) {v w : Value} (hd : decode bytes pc = .ok (.dup2, 1)) (hc : v.category = 1) (hc' : w.category = 1) (hp : pc + 1 = pc') (k : NE G K rm Q h a b pc' ls (v :: w :: v :: w :: st)) : NE G K rm Q h a b pc ls (v :: w :: st) := by
  subst hp; exact N.step (fun T A t ht => XT.dup2 A C.hx rfl (hb C.by hd) rfl hc hc' ht) k
theorem N.dup2L (C : Cx G K own nm bytes maxL ret W) {x : Int64} (hd : decode bytes pc = .ok (.dup2, 1)) (hp : pc + 1 = pc') (k : NE G K rm Q h a b pc' ls (.long x :: .long x :: st)) : NE G K rm Q h a b pc ls (.long x :: st) := by
  subst hp; exact N.step (fun T A t ht => XT.dup2L A C.hx rfl (hb C.by hd) rfl ht) k
theorem N.i2l (C : Cx G K own nm bytes maxL ret W) {x : Int32} (hd : decode bytes pc = .ok (.i2l, 1)) (hp : pc + 1 = pc') (k : NE G K rm Q h a b pc' ls (.long (x.toInt64) :: st)) : NE G K rm Q h a b pc ls (.int x :: st) := by
  subst hp; exact N.step (fun T A t ht => XS.i2l A C.hx rfl (hb C.by hd) rfl ht) k
theorem N.l2i (C : Cx G K own nm bytes maxL ret W) {x : Int64} (hd : decode bytes pc = .ok (.l2i, 1)) (hp : pc + 1 = pc') (k : NE G K rm Q h a b pc' ls (.int (x.toInt32) :: st)) : NE G K rm Q h a b pc ls (.long x :: st) := by
  subst hp; exact N.step (fun T A t ht => XS.l2i A C.hx rfl (hb C.by hd) rfl ht) k
theorem N.i2b (C : Cx G K own nm bytes maxL ret W) {x : Int32} (hd : decode bytes pc = .ok (.i2b, 1)) (hp : pc + 1 = pc') (k : NE G K rm Q h a b pc' ls (.int (x.toInt8.toInt32) :: st)) : NE G K rm Q h a b pc ls (.int x :: st) := by
  subst hp; exact N.step (fun T A t ht => XS.i2b A C.hx rfl (hb C.by hd) rfl ht) k
theorem N.i2s (C : Cx G K own nm bytes maxL ret W) {x : Int32} (hd : decode bytes pc = .ok (.i2s, 1)) (hp : pc + 1 = pc') (k : NE G K rm Q h a b pc' ls (.int (x.toInt16.toInt32) :: st)) : NE G K rm Q h a b pc ls (.int x :: st) := by
  subst hp; exact N.step (fun T A t ht => XS.i2s A C.hx rfl (hb C.by hd) rfl ht) k
theorem N.i2c (C : Cx G K own nm bytes maxL ret W) {x : Int32} (hd : decode bytes pc = .ok (.i2c, 1)) (hp : pc + 1 = pc') (k : NE G K rm Q h a b pc' ls (.int (x.toUInt32.toUInt16.toUInt32.toInt32) :: st)) : NE G K rm Q h a b pc ls (.int x :: st) := by
  subst hp; exact N.step (fun T A t ht => XS.i2c A C.hx rfl (hb C.by hd) rfl ht) k
theorem N.ishl (C : Cx G K own nm bytes maxL ret W) {x y : Int32} (hd : decode bytes pc = .ok (.ishl, 1)) (hp : pc + 1 = pc') (k : NE G K rm Q h a b pc' ls (.int (x <<< (y &&& 31)) :: st)) : NE G K rm Q h a b pc ls (.int y :: .int x :: st) := by
  subst hp; exact N.step (fun T A t ht => XS.ishl A C.hx rfl (hb C.by hd) rfl ht) k
theorem N.ishr (C : Cx G K own nm bytes maxL ret W) {x y : Int32} (hd : decode bytes pc = .ok (.ishr, 1)) (hp : pc + 1 = pc') (k : NE G K rm Q h a b pc' ls (.int (x >>> (y &&& 31)) :: st)) : NE G K rm Q h a b pc ls (.int y :: .int x :: st) := by
  subst hp; exact N.step (fun T A t ht => XS.ishr A C.hx rfl (hb C.by hd) rfl ht) k
theorem N.iushr (C : Cx G K own nm bytes maxL ret W) {x y : Int32} (hd : decode bytes pc = .ok (.iushr, 1)) (hp : pc + 1 = pc') (k : NE G K rm Q h a b pc' ls (.int ((x.toUInt32 >>> (y &&& 31).toUInt32).toInt32) :: st)) : NE G K rm Q h a b pc ls (.int y :: .int x :: st) := by
  subst hp; exact N.step (fun T A t ht => XS.iushr A C.hx rfl (hb C.by hd) rfl ht) k
theorem N.lshl (C : Cx G K own nm bytes maxL ret W) {x : Int64} {y : Int32} (hd : decode bytes pc = .ok (.lshl, 1)) (hp : pc + 1 = pc') (k : NE G K rm Q h a b pc' ls (.long (x <<< (y &&& 0x3f).toInt64) :: st)) : NE G K rm Q h a b pc ls (.int y :: .long x :: st) := by
  subst hp; exact N.step (fun T A t ht => XS.lshl A C.hx rfl (hb C.by hd) rfl ht) k
theorem N.lshr (C : Cx G K own nm bytes maxL ret W) {x : Int64} {y : Int32} (hd : decode bytes pc = .ok (.lshr, 1)) (hp : pc + 1 = pc') (k : NE G K rm Q h a b pc' ls (.long (x >>> (y &&& 0x3f).toInt64) :: st)) : NE G K rm Q h a b pc ls (.int y :: .long x :: st) := by
  subst hp; exact N.step (fun T A t ht => XS.lshr A C.hx rfl (hb C.by hd) rfl ht) k
theorem N.lushr (C : Cx G K own nm bytes maxL ret W) {x : Int64} {y : Int32} (hd : decode bytes pc = .ok (.lushr, 1)) (hp : pc + 1 = pc') (k : NE G K rm Q h a b pc' ls (.long ((x.toUInt64 >>> (y &&& 0x3f).toInt64.toUInt64).toInt64) :: st)) : NE G K rm Q h a b pc ls (.int y :: .long x :: st) := by
  subst hp; exact N.step (fun T A t ht => XS.lushr A C.hx rfl (hb C.by hd) rfl ht) k
theorem N.dload (C : Cx G K own nm bytes maxL ret W) {k : Nat} {v : UInt64} (hd : decode bytes pc = .ok (.dload k, 2)) (hl : ls[k]? = some (.val (.double v))) (hp : pc + 2 = pc') (k : NE G K rm Q h a b pc' ls (.double v :: st)) : NE G K rm Q h a b pc ls (st) := by
  subst hp; exact N.step (fun T A t ht => XS.dload A C.hx rfl (hb C.by hd) hl ht) k
theorem N.dloadN (C : Cx G K own nm bytes maxL ret W) {k : Fin 4} {v : UInt64} (hd : decode bytes pc = .ok (.dload_n k, 1)) (hl : ls[k.val]? = some (.val (.double v))) (hp : pc + 1 = pc') (k : NE G K rm Q h a b pc' ls (.double v :: st)) : NE G K rm Q h a b pc ls (st) := by
  subst hp; exact N.step (fun T A t ht => XS.dloadN A C.hx rfl (hb C.by hd) hl ht) k
theorem N.dstore (C : Cx G K own nm bytes maxL ret W) {k : Nat} {v : UInt64} (hd : decode bytes pc = .ok (.dstore k, 2)) (hl : storeLocals ls k (.double v) = some ls') (hp : pc + 2 = pc') (k : NE G K rm Q h a b pc' ls' (st)) : NE G K rm Q h a b pc ls (.double v :: st) := by
  subst hp; exact N.step (fun T A t ht => XS.dstore A C.hx rfl (hb C.by hd) rfl hl ht) k
theorem N.dstoreN (C : Cx G K own nm bytes maxL ret W) {k : Fin 4} {v : UInt64} (hd : decode bytes pc = .ok (.dstore_n k, 1)) (hl : storeLocals ls k.val (.double v) = some ls') (hp : pc + 1 = pc') (k : NE G K rm Q h a b pc' ls' (st)) : NE G K rm Q h a b pc ls (.double v :: st) := by
  subst hp; exact N.step (fun T A t ht => XS.dstoreN A C.hx rfl (hb C.by hd) rfl hl ht) k
theorem N.i2d (C : Cx G K own nm bytes maxL ret W) {x : Int32} (hd : decode bytes pc = .ok (.i2d, 1)) (hp : pc + 1 = pc') (k : NE G K rm Q h a b pc' ls (.double (FP.i2d x) :: st)) : NE G K rm Q h a b pc ls (.int x :: st) := by
  subst hp; exact N.step (fun T A t ht => XS.i2dS A C.hx rfl (hb C.by hd) rfl rfl ht) k
theorem N.dcmp (C : Cx G K own nm bytes maxL ret W) {o : CmpOp} {x y : UInt64} (hd : decode bytes pc = .ok (.dcmp o, 1)) (hp : pc + 1 = pc') (k : NE G K rm Q h a b pc' ls (.int (cmpValue (FP.dcmp x y) o) :: st)) : NE G K rm Q h a b pc ls (.double y :: .double x :: st) := by
  subst hp; exact N.step (fun T A t ht => XS.dcmpS A C.hx rfl (hb C.by hd) rfl rfl ht) k
theorem N.dup2_x1L (C : Cx G K own nm bytes maxL ret W) {x : Int64} {y : Addr} (hd : decode bytes pc = .ok (.dup2_x1, 1)) (hp : pc + 1 = pc') (k : NE G K rm Q h a b pc' ls (.long x :: .ref y :: .long x :: st)) : NE G K rm Q h a b pc ls (.long x :: .ref y :: st) := by
  subst hp
  refine N.step (fun T A t ht => ?_) k
  have hx := C.hx
  have hd' := hb C.by hd
  jvm_step A [A.top, hx, hd', Value.category]
  exact ht
theorem N.lcmp (C : Cx G K own nm bytes maxL ret W) {x y : Int64} (hd : decode bytes pc = .ok (.lcmp, 1)) (hp : pc + 1 = pc') (k : NE G K rm Q h a b pc' ls (.int (lcmpW x y) :: st)) : NE G K rm Q h a b pc ls (.long y :: .long x :: st) := by
  subst hp; exact N.step (fun T A t ht => XS.lcmp A C.hx rfl (hb C.by hd) rfl ht) k
theorem N.iinc (C : Cx G K own nm bytes maxL ret W) {k : Nat} {cst : Int} {x z : Int32} (hd : decode bytes pc = .ok (.iinc k cst, 3)) (hl : ls[k]? = some (.val (.int x))) (hz : Int32.ofInt cst = z) (hl' : storeLocals ls k (.int (x + z)) = some ls') (hp : pc + 3 = pc') (k : NE G K rm Q h a b pc' ls' st) : NE G K rm Q h a b pc ls st := by
  subst hp hz; exact N.step (fun T A t ht => XS.iinc A C.hx rfl (hb C.by hd) hl hl' ht) k
theorem N.goto (C : Cx G K own nm bytes maxL ret W) {o : Int} (hd : decode bytes pc = .ok (.goto o, 3)) (hp : (pc : Int) + o = (pc' : Nat)) (k : NE G K rm Q h a b pc' ls st) : NE G K rm Q h a b pc ls st :=
  N.step (fun T A t ht => XS.goto A C.hx rfl (pc0 := pc) rfl (hb C.by hd) (by omega) (by omega) ht) k
theorem N.icmp (C : Cx G K own nm bytes maxL ret W) {cd : ClassFile.Cond} {o : Int} {x y : Int32} {pt pf : Nat} (hd : decode bytes pc = .ok (.if_icmp cd o, 3)) (ht : (pc : Int) + o = (pt : Nat)) (hf : pc + 3 = pf) (kt : cmpP cd x y → NE G K rm Q h a b pt ls st) (kf : cmpN cd x y → NE G K rm Q h a b pf ls st) : NE G K rm Q h a b pc ls (.int y :: .int x :: st) := by
  subst hf
  rcases cmp_or cd x y with ⟨h1, h2⟩ | ⟨h1, h2⟩
  · exact N.step (fun T A t k => XS.icmpYes A C.hx rfl (pc0 := pc) rfl (hb C.by hd) rfl h1 (by omega) (by omega) k) (kt h2)
  · exact N.step (fun T A t k => XS.icmpNo A C.hx rfl (hb C.by hd) rfl h1 k) (kf h2)
theorem N.ifc (C : Cx G K own nm bytes maxL ret W) {cd : ClassFile.Cond} {o : Int} {x : Int32} {pt pf : Nat} (hd : decode bytes pc = .ok (.ifCond cd o, 3)) (ht : (pc : Int) + o = (pt : Nat)) (hf : pc + 3 = pf) (kt : cmpP cd x 0 → NE G K rm Q h a b pt ls st) (kf : cmpN cd x 0 → NE G K rm Q h a b pf ls st) : NE G K rm Q h a b pc ls (.int x :: st) := by
  subst hf
  rcases cmp_or cd x 0 with ⟨h1, h2⟩ | ⟨h1, h2⟩
  · exact N.step (fun T A t k => XS.ifYes A C.hx rfl (pc0 := pc) rfl (hb C.by hd) rfl ((if0 _ _).trans h1) (by omega) (by omega) k) (kt h2)
  · exact N.step (fun T A t k => XS.ifNo A C.hx rfl (hb C.by hd) rfl ((if0 _ _).trans h1) k) (kf h2)
/-- behind lcmp -/
theorem N.lif (C : Cx G K own nm bytes maxL ret W) {cd : ClassFile.Cond} {o : Int} {x y : Int64} {pt pf : Nat} (hd : decode bytes pc = .ok (.ifCond cd o, 3)) (ht : (pc : Int) + o = (pt : Nat)) (hf : pc + 3 = pf) (kt : cmpPL cd x y → NE G K rm Q h a b pt ls st) (kf : cmpNL cd x y → NE G K rm Q h a b pf ls st) : NE G K rm Q h a b pc ls (.int (lcmpW x y) :: st) := by
  subst hf
  rcases cmp_orL cd x y with ⟨h1, h2⟩ | ⟨h1, h2⟩
  · exact N.step (fun T A t k => XS.ifYes A C.hx rfl (pc0 := pc) rfl (hb C.by hd) rfl h1 (by omega) (by omega) k) (kt h2)
  · exact N.step (fun T A t k => XS.ifNo A C.hx rfl (hb C.by hd) rfl h1 k) (kf h2)
theorem N.ifnull0 (C : Cx G K own nm bytes maxL ret W) {o : Int} (hd : decode bytes pc = .ok (.ifnull o, 3)) (ht : (pc : Int) + o = (pc' : Nat)) (k : NE G K rm Q h a b pc' ls st) : NE G K rm Q h a b pc ls (.null :: st) :=
  N.step (fun T A t k => XS.ifnullYes A C.hx rfl (pc0 := pc) rfl (hb C.by hd) rfl (by omega) (by omega) k) k
theorem N.ifnull1 (C : Cx G K own nm bytes maxL ret W) {o : Int} {x : Addr} (hd : decode bytes pc = .ok (.ifnull o, 3)) (hp : pc + 3 = pc') (k : NE G K rm Q h a b pc' ls st) : NE G K rm Q h a b pc ls (.ref x :: st) := by
  subst hp; exact N.step (fun T A t k => XS.ifnullNo A C.hx rfl (hb C.by hd) rfl k) k
theorem N.ifnonnull1 (C : Cx G K own nm bytes maxL ret W) {o : Int} {x : Addr} (hd : decode bytes pc = .ok (.ifnonnull o, 3)) (ht : (pc : Int) + o = (pc' : Nat)) (k : NE G K rm Q h a b pc' ls st) : NE G K rm Q h a b pc ls (.ref x :: st) :=
  N.step (fun T A t k => XS.ifnonnullYes A C.hx rfl (pc0 := pc) rfl (hb C.by hd) rfl (by omega) (by omega) k) k
theorem N.ifnonnull0 (C : Cx G K own nm bytes maxL ret W) {o : Int} (hd : decode bytes pc = .ok (.ifnonnull o, 3)) (hp : pc + 3 = pc') (k : NE G K rm Q h a b pc' ls st) : NE G K rm Q h a b pc ls (.null :: st) := by
  subst hp; exact N.step (fun T A t k => XS.ifnonnullNo A C.hx rfl (hb C.by hd) rfl k) k
theorem N.acmp (C : Cx G K own nm bytes maxL ret W) {cd : ACond} {o : Int} {v w : Value} (same : Bool) (hd : decode bytes pc = .ok (.if_acmp cd o, 3)) (h1 : v.isRef = true) (h2 : w.isRef = true) (hq : decide (v = w) = same) (ho : 0 ≤ (pc : Int) + o) (hp : pc' = if acV cd same = true then ((pc : Int) + o).toNat else pc + 3) (k : NE G K rm Q h a b pc' ls st) : NE G K rm Q h a b pc ls (w :: v :: st) :=
  N.stX (fun T locs X e t ht => Jvm.RoadKit.acmp (g := mkF K.m pc ls (w :: v :: st)) X C.hx rfl h1 h2 rfl (hb C.by hd) rfl hq ho hp ht) k
theorem N.ldcI (C : Cx G K own nm bytes maxL ret W) {i : Nat} {v : Int32} (hd : decode bytes pc = .ok (.ldc i, 2)) (w : (Jvm.Cond.constant own i v).before G.a0 G.Z = true) (hp : pc + 2 = pc') (k : NE G K rm Q h a b pc' ls (.int v :: st)) : NE G K rm Q h a b pc ls st := by
  subst hp; exact N.stX (fun T locs X e t ht => X.ldcInt C.hx C.ow (mvT C.hZ w) (g := mkF K.m pc ls st) rfl (hb C.by hd) t ht) k
theorem N.ldcwI (C : Cx G K own nm bytes maxL ret W) {i : Nat} {v : Int32} (hd : decode bytes pc = .ok (.ldc_w i, 3)) (w : (Jvm.Cond.constant own i v).before G.a0 G.Z = true) (hp : pc + 3 = pc') (k : NE G K rm Q h a b pc' ls (.int v :: st)) : NE G K rm Q h a b pc ls st := by
  subst hp; exact N.stX (fun T locs X e t ht => X.ldcwInt C.hx C.ow (mvT C.hZ w) (g := mkF K.m pc ls st) rfl (hb C.by hd) t ht) k
theorem N.ldcL (C : Cx G K own nm bytes maxL ret W) {i : Nat} {v : Int64} (hd : decode bytes pc = .ok (.ldc2_w i, 3)) (w : (Jvm.Cond.constantLong own i v).before G.a0 G.Z = true) (hp : pc + 3 = pc') (k : NE G K rm Q h a b pc' ls (.long v :: st)) : NE G K rm Q h a b pc ls st := by
  subst hp; exact N.stX (fun T locs X e t ht => X.ldc2Long C.hx C.ow (mvT C.hZ w) (g := mkF K.m pc ls st) rfl (hb C.by hd) t ht) k
theorem N.getF (C : Cx G K own nm bytes maxL ret W) {O n d : String} {i : Nat} {x : Addr} {v : Value} (hd : decode bytes pc = .ok (.getfield i, 3)) (w : (Jvm.Cond.fieldLink own i O n d).before G.a0 G.Z = true) (F : Fld G.Z h x O n d v) (hp : pc + 3 = pc') (k : NE G K rm Q h a b pc' ls (v :: st)) : NE G K rm Q h a b pc ls (.ref x :: st) := fun T locs X e N0 => by
  subst hp
  obtain ⟨T', X', e', s'⟩ := Jvm.RoadKit.getF X C.hx C.hZ C.ow (host := "") (Or.inl w) Via.refl e F (g := mkF K.m pc ls (.ref x :: st)) rfl rfl (hb C.by hd)
  obtain ⟨s₂, o, hs, r⟩ := k T' locs X' e' N0
  exact ⟨s₂, o, s' _ hs, r⟩
theorem N.getFN (C : Cx G K own nm bytes maxL ret W) {O n d host : String} {i : Nat} {x : Addr} {v : Value} (hd : decode bytes pc = .ok (.getfield i, 3)) (w : (Jvm.Cond.fieldLinkNest own i O n d host).before G.a0 G.Z = true) (F : Fld G.Z h x O n d v) (hp : pc + 3 = pc') (k : NE G K rm Q h a b pc' ls (v :: st)) : NE G K rm Q h a b pc ls (.ref x :: st) := fun T locs X e N0 => by
  subst hp
  obtain ⟨T', X', e', s'⟩ := Jvm.RoadKit.getF X C.hx C.hZ C.ow (Or.inr w) Via.refl e F (g := mkF K.m pc ls (.ref x :: st)) rfl rfl (hb C.by hd)
  obtain ⟨s₂, o, hs, r⟩ := k T' locs X' e' N0
  exact ⟨s₂, o, s' _ hs, r⟩
theorem N.putF (C : Cx G K own nm bytes maxL ret W) {O n d Cn : String} {i kk : Nat} {ty : FieldType} {x : Addr} {v old : Value} (hd : decode bytes pc = .ok (.putfield i, 3)) (w : (Jvm.Cond.fieldLink own i O n d).before G.a0 G.Z = true) (F : Fld G.Z h x O n d old) (E : Exa G.Z h x Cn)
    (L : (Jvm.Cond.lays Cn O n d).before G.a0 G.Z = true ∨ ((Jvm.Cond.laysFinal Cn O n d).before G.a0 G.Z = true ∧ own = O ∧ nm = "<init>")) (wi : (Jvm.Cond.instantiable Cn kk).before G.a0 G.Z = true) (hty : parseFieldDescriptor d = some ty) (hn : narrow ty v = v) (hf : fits ty v = true) (hx : G.n0 ≤ x) (hp : pc + 3 = pc')
    (k : ∀ h', Wr h h' x (Jvm.RoadKit.slotOf G.Z O n d) v → NE G K rm Q h' a b pc' ls st) : NE G K rm Q h a b pc ls (v :: .ref x :: st) := fun T locs X e N0 => by
  subst hp
  obtain ⟨T', h', X', e', W', s'⟩ := Jvm.RoadKit.putF X C.hx C.hZ C.ow (host := "") (Or.inl w) Via.refl e F E (L.imp id fun q => ⟨q.1, q.2.1, C.name.trans q.2.2⟩) wi hty hn hf (g := mkF K.m pc ls (v :: .ref x :: st)) rfl rfl (hb C.by hd)
  obtain ⟨s₂, o, hs, r⟩ := k h' W' T' _ X' e' (Fr.snoc X' N0 hx)
  exact ⟨s₂, o, s' _ hs, r⟩
theorem N.putFN (C : Cx G K own nm bytes maxL ret W) {O n d Cn : String} {i kk : Nat} {ty : FieldType} {x : Addr} {v v' old : Value} (hd : decode bytes pc = .ok (.putfield i, 3)) (w : (Jvm.Cond.fieldLink own i O n d).before G.a0 G.Z = true) (F : Fld G.Z h x O n d old) (E : Exa G.Z h x Cn)
    (L : (Jvm.Cond.lays Cn O n d).before G.a0 G.Z = true ∨ ((Jvm.Cond.laysFinal Cn O n d).before G.a0 G.Z = true ∧ own = O ∧ nm = "<init>")) (wi : (Jvm.Cond.instantiable Cn kk).before G.a0 G.Z = true) (hty : parseFieldDescriptor d = some ty) (hn : narrow ty v = v') (hf : fits ty v' = true) (hx : G.n0 ≤ x) (hp : pc + 3 = pc')
    (k : ∀ h', Wr h h' x (Jvm.RoadKit.slotOf G.Z O n d) v' → NE G K rm Q h' a b pc' ls st) : NE G K rm Q h a b pc ls (v :: .ref x :: st) := fun T locs X e N0 => by
  subst hp
  obtain ⟨T', h', X', e', W', s'⟩ := Jvm.RoadKit.putFN X C.hx C.hZ C.ow w Via.refl e F E (L.imp id fun q => ⟨q.1, q.2.1, C.name.trans q.2.2⟩) wi hty hn hf (g := mkF K.m pc ls (v :: .ref x :: st)) rfl rfl (hb C.by hd)
  obtain ⟨s₂, o, hs, r⟩ := k h' W' T' _ X' e' (Fr.snoc X' N0 hx)
  exact ⟨s₂, o, s' _ hs, r⟩
theorem N.getS (C : Cx G K own nm bytes maxL ret W) {O n d : String} {i : Nat} {v : Value} (hd : decode bytes pc = .ok (.getstatic i, 3)) (w : (Jvm.Cond.fieldLink own i O n d).before G.a0 G.Z = true) (F : Sta G.Z h O n d v) (hp : pc + 3 = pc') (k : NE G K rm Q h a b pc' ls (v :: st)) : NE G K rm Q h a b pc ls st := fun T locs X e N0 => by
  subst hp
  obtain ⟨T', X', e', s'⟩ := Jvm.RoadKit.getS X C.hx C.hZ (host := "") C.ow w Via.refl e F (g := mkF K.m pc ls st) rfl (hb C.by hd)
  obtain ⟨s₂, o, hs, r⟩ := k T' locs X' e' N0
  exact ⟨s₂, o, s' _ hs, r⟩
theorem N.newO (C : Cx G K own nm bytes maxL ret W) {Cn : String} {i n : Nat} (hd : decode bytes pc = .ok (.new i, 3)) (w : (Jvm.Cond.classLink own i Cn).before G.a0 G.Z = true) (wi : (Jvm.Cond.instantiable Cn n).before G.a0 G.Z = true) (wz : (Jvm.Cond.initialized Cn).before G.a0 G.Z = true) (hc : a + 1 ≤ rm.cells) (hl : b + n ≤ rm.slots) (hp : pc + 3 = pc')
    (k : ∀ (h' : Heap) (x : Addr), x = h.size → Ext h h' → Exa G.Z h' x Cn → (∀ {O f d : String} {ty : FieldType}, Laid G.Z G.a0 Cn O f d → parseFieldDescriptor d = some ty → Fld G.Z h' x O f d (defaultValue ty)) → NE G K rm Q h' (a + 1) (b + n) pc' ls (.ref x :: st)) : NE G K rm Q h a b pc ls st := fun T locs X e N0 => by
  subst hp
  obtain ⟨T', h', X', e', E', A', D', -, s'⟩ := Jvm.RoadKit.newO X C.hx C.hZ C.ow w wi wz e (g := mkF K.m pc ls st) rfl (hb C.by hd) hc hl
  obtain ⟨s₂, o, hs, r⟩ := k h' _ rfl E' A' D' T' locs X' e' N0
  exact ⟨s₂, o, s' _ hs, r⟩
theorem N.newP (C : Cx G K own nm bytes maxL ret W) {aty : ArrayType} {n : Int32} (cap : Nat) (hd : decode bytes pc = .ok (.newarray aty, 2)) (w : (Jvm.Cond.arrayClass (newarray.typeOf aty)).before G.a0 G.Z = true) (hn : 0 ≤ n.toInt) (hcap : n.toInt ≤ (cap : Int)) (hb8 : cap * 8 ≤ 536870912) (hc : a + 1 ≤ rm.cells) (hl : b + cap ≤ rm.slots) (hp : pc + 2 = pc')
    (k : ∀ (h' : Heap) (x : Addr), x = h.size → Ext h h' → Av G.Z h' x (newarray.typeOf aty) (List.replicate n.toInt.toNat (defaultValue (newarray.typeOf aty))) → NE G K rm Q h' (a + 1) (b + cap) pc' ls (.ref x :: st)) : NE G K rm Q h a b pc ls (.int n :: st) := fun T locs X e N0 => by
  subst hp
  have hneg : ¬ n < 0 := fun q => by
    have := Int32.lt_iff_toInt_lt.mp q
    have e0 : (0 : Int32).toInt = 0 := by decide
    omega
  obtain ⟨T', h', cA, X', e', E', A', s'⟩ := Jvm.RoadKit.newP X C.hx C.hZ w e (g := mkF K.m pc ls (.int n :: st)) rfl (hb C.by hd) rfl hneg (cap := cap) (by show n.toInt.toNat ≤ cap; omega) hb8 hc hl
  obtain ⟨s₂, o, hs, r⟩ := k h' _ rfl E' (Av.new A') T' locs X' e' N0
  exact ⟨s₂, o, s' _ hs, r⟩
theorem N.initO (C : Cx G K own nm bytes maxL ret W) {i : Nat} {x : Addr} (hd : decode bytes pc = .ok (.invokespecial i, 3)) (w1 : (Jvm.Cond.methodLink own i Lib.objectInit).before G.a0 G.Z = true) (w2 : (Jvm.Cond.instanceMethod Lib.objectInit).before G.a0 G.Z = true) (w3 : (Jvm.Cond.code Lib.objectInit ⟨#[0xb1]⟩ 1 none).before G.a0 G.Z = true) (hsz : ls.size = maxL) (hf : 1 ≤ rm.frames) (hl : (st.map fun v => v.category).sum + 12 ≤ rm.locals) (hp : pc + 3 = pc')
    (k : NE G K rm Q h a b pc' ls st) : NE G K rm Q h a b pc ls (.ref x :: st) := fun T locs X e N0 => by
  subst hp
  obtain ⟨T', X', e', s'⟩ := Jvm.RoadKit.initO X C.hx C.hZ C.ow w1 w2 w3 e (g := mkF K.m pc ls (.ref x :: st)) rfl (by rw [C.ml]; exact hsz) rfl (hb C.by hd) hf (W := (st.map fun v => v.category).sum) (by show 2 * 0 + _ ≤ _; omega) hl
  obtain ⟨s₂, o, hs, r⟩ := k T' locs X' e' N0
  exact ⟨s₂, o, s' _ hs, r⟩
theorem N.alen (C : Cx G K own nm bytes maxL ret W) {x : Addr} {ty : FieldType} {vs : List Value} {n : Int32} (hd : decode bytes pc = .ok (.arraylength, 1)) (A : Av G.Z h x ty vs) (hn : n.toInt = (vs.length : Nat)) (hp : pc + 1 = pc') (k : NE G K rm Q h a b pc' ls (.int n :: st)) : NE G K rm Q h a b pc ls (.ref x :: st) := by
  subst hp
  obtain ⟨c, A, rfl⟩ := A
  have hz : c.slots.size.toInt32 = n := by
    have h1 := n.toInt_lt
    apply Int32.toInt_inj.mp
    rw [hn]
    simp only [Array.length_toList] at hn ⊢
    show (Int32.ofNat c.slots.size).toInt = _
    rw [Int32.toInt_ofNat']
    have e32 : (Int32.size : Int) = 4294967296 := rfl
    exact Int.bmod_eq_of_le (by omega) (by omega)
  exact N.stX (fun T locs X e t ht => X.arraylength C.hx (by rw [e]; exact A.1) (State.isArrayOf_alike C.hZ.alike A.2.1) (g := mkF K.m pc ls (.ref x :: st)) rfl rfl (hb C.by hd) t (by rw [hz]; exact ht)) k

theorem N.iaload (C : Cx G K own nm bytes maxL ret W) {x : Addr} {vs : List Value} {j : Int32} {i : Nat} {v : Value} (hd : decode bytes pc = .ok (.iaload, 1)) (A : Av G.Z h x .int vs) (hj : j.toInt = (i : Nat)) (hv : vs[i]? = some v) (hp : pc + 1 = pc') (k : NE G K rm Q h a b pc' ls (v :: st)) : NE G K rm Q h a b pc ls (.int j :: .ref x :: st) := by
  subst hp
  obtain ⟨c, A, rfl⟩ := A
  have hi : i < c.slots.size := by have := (List.getElem?_eq_some_iff.mp hv).1; simpa using this
  have hv' : c.slots[j.toNatClampNeg]? = some v := by rw [(ix hj).2, ← Array.getElem?_toList]; exact hv
  exact N.stX (fun T locs X e t ht => X.iaload C.hx (by rw [e]; exact A.1) (State.isArrayOf_alike C.hZ.alike A.2.1) A.2.2 (ixin hj hi) hv' (g := mkF K.m pc ls (.int j :: .ref x :: st)) rfl rfl (hb C.by hd) t ht) k
theorem N.laload (C : Cx G K own nm bytes maxL ret W) {x : Addr} {vs : List Value} {j : Int32} {i : Nat} {v : Value} (hd : decode bytes pc = .ok (.laload, 1)) (A : Av G.Z h x .long vs) (hj : j.toInt = (i : Nat)) (hv : vs[i]? = some v) (hp : pc + 1 = pc') (k : NE G K rm Q h a b pc' ls (v :: st)) : NE G K rm Q h a b pc ls (.int j :: .ref x :: st) := by
  subst hp
  obtain ⟨c, A, rfl⟩ := A
  have hi : i < c.slots.size := by have := (List.getElem?_eq_some_iff.mp hv).1; simpa using this
  have hv' : c.slots[j.toNatClampNeg]? = some v := by rw [(ix hj).2, ← Array.getElem?_toList]; exact hv
  exact N.stX (fun T locs X e t ht => X.laload C.hx (by rw [e]; exact A.1) (State.isArrayOf_alike C.hZ.alike A.2.1) A.2.2 (ixin hj hi) hv' (g := mkF K.m pc ls (.int j :: .ref x :: st)) rfl rfl (hb C.by hd) t ht) k
theorem N.caload (C : Cx G K own nm bytes maxL ret W) {x : Addr} {vs : List Value} {j : Int32} {i : Nat} {v : Value} (hd : decode bytes pc = .ok (.caload, 1)) (A : Av G.Z h x .char vs) (hj : j.toInt = (i : Nat)) (hv : vs[i]? = some v) (hp : pc + 1 = pc') (k : NE G K rm Q h a b pc' ls (v :: st)) : NE G K rm Q h a b pc ls (.int j :: .ref x :: st) := by
  subst hp
  obtain ⟨c, A, rfl⟩ := A
  have hi : i < c.slots.size := by have := (List.getElem?_eq_some_iff.mp hv).1; simpa using this
  have hv' : c.slots[j.toNatClampNeg]? = some v := by rw [(ix hj).2, ← Array.getElem?_toList]; exact hv
  exact N.stX (fun T locs X e t ht => X.caload C.hx (by rw [e]; exact A.1) (State.isArrayOf_alike C.hZ.alike A.2.1) A.2.2 (ixin hj hi) hv' (g := mkF K.m pc ls (.int j :: .ref x :: st)) rfl rfl (hb C.by hd) t ht) k
theorem N.baload (C : Cx G K own nm bytes maxL ret W) {x : Addr} {vs : List Value} {j : Int32} {i : Nat} {v : Value} (hd : decode bytes pc = .ok (.baload, 1)) (A : Av G.Z h x .byte vs) (hj : j.toInt = (i : Nat)) (hv : vs[i]? = some v) (hp : pc + 1 = pc') (k : NE G K rm Q h a b pc' ls (v :: st)) : NE G K rm Q h a b pc ls (.int j :: .ref x :: st) := by
  subst hp
  obtain ⟨c, A, rfl⟩ := A
  have hi : i < c.slots.size := by have := (List.getElem?_eq_some_iff.mp hv).1; simpa using this
  have hv' : c.slots[j.toNatClampNeg]? = some v := by rw [(ix hj).2, ← Array.getElem?_toList]; exact hv
  exact N.stX (fun T locs X e t ht => X.baloadBytes C.hx (by rw [e]; exact A.1) (State.isArrayOf_alike C.hZ.alike A.2.1) A.2.2 (ixin hj hi) hv' (g := mkF K.m pc ls (.int j :: .ref x :: st)) rfl rfl (hb C.by hd) t ht) k
theorem N.zaload (C : Cx G K own nm bytes maxL ret W) {x : Addr} {vs : List Value} {j : Int32} {i : Nat} {v : Value} (hd : decode bytes pc = .ok (.baload, 1)) (A : Av G.Z h x .boolean vs) (hj : j.toInt = (i : Nat)) (hv : vs[i]? = some v) (hp : pc + 1 = pc') (k : NE G K rm Q h a b pc' ls (v :: st)) : NE G K rm Q h a b pc ls (.int j :: .ref x :: st) := by
  subst hp
  obtain ⟨c, A, rfl⟩ := A
  have hi : i < c.slots.size := by have := (List.getElem?_eq_some_iff.mp hv).1; simpa using this
  have hv' : c.slots[j.toNatClampNeg]? = some v := by rw [(ix hj).2, ← Array.getElem?_toList]; exact hv
  exact N.stX (fun T locs X e t ht => X.baloadBooleans C.hx (by rw [e]; exact A.1) (State.isArrayOf_alike C.hZ.alike A.2.1) A.2.2 (ixin hj hi) hv' (g := mkF K.m pc ls (.int j :: .ref x :: st)) rfl rfl (hb C.by hd) t ht) k
theorem N.daload (C : Cx G K own nm bytes maxL ret W) {x : Addr} {vs : List Value} {j : Int32} {i : Nat} {v : Value} (hd : decode bytes pc = .ok (.daload, 1)) (A : Av G.Z h x .double vs) (hj : j.toInt = (i : Nat)) (hv : vs[i]? = some v) (hp : pc + 1 = pc') (k : NE G K rm Q h a b pc' ls (v :: st)) : NE G K rm Q h a b pc ls (.int j :: .ref x :: st) := by
  subst hp
  obtain ⟨c, A, rfl⟩ := A
  have hi : i < c.slots.size := by have := (List.getElem?_eq_some_iff.mp hv).1; simpa using this
  have hv' : c.slots[j.toNatClampNeg]? = some v := by rw [(ix hj).2, ← Array.getElem?_toList]; exact hv
  exact N.stX (fun T locs X e t ht => X.daload C.hx (by rw [e]; exact A.1) (State.isArrayOf_alike C.hZ.alike A.2.1) A.2.2 (ixin hj hi) hv' (g := mkF K.m pc ls (.int j :: .ref x :: st)) rfl rfl (hb C.by hd) t ht) k
theorem N.iastore (C : Cx G K own nm bytes maxL ret W) {x : Addr} {vs : List Value} {j : Int32} {i : Nat} {v : Int32} (hd : decode bytes pc = .ok (.iastore, 1)) (A : Av G.Z h x .int vs) (hj : j.toInt = (i : Nat)) (hi : i < vs.length) (hx : G.n0 ≤ x) (hp : pc + 1 = pc') (k : ∀ h', Wr h h' x i (.int v) → Av G.Z h' x .int (vs.set i (.int v)) → NE G K rm Q h' a b pc' ls st) : NE G K rm Q h a b pc ls (.int v :: .int j :: .ref x :: st) := fun T locs X e N0 => by
  subst hp
  have A0 := A
  obtain ⟨c, A, rfl⟩ := A
  obtain ⟨T', h', X', e', W', s'⟩ := Jvm.RoadKit.stI X C.hx C.hZ e A (j := j) (ixin hj (by simpa using hi)) (g := mkF K.m pc ls (.int v :: .int j :: .ref x :: st)) rfl rfl (hb C.by hd)
  have F' := Fr.snoc X' N0 hx
  rw [(ix hj).2] at W'
  obtain ⟨s₂, o, hs, r⟩ := k h' W' (A0.same W') T' _ X' e' F'
  exact ⟨s₂, o, s' _ hs, r⟩
theorem N.lastore (C : Cx G K own nm bytes maxL ret W) {x : Addr} {vs : List Value} {j : Int32} {i : Nat} {v : Int64} (hd : decode bytes pc = .ok (.lastore, 1)) (A : Av G.Z h x .long vs) (hj : j.toInt = (i : Nat)) (hi : i < vs.length) (hx : G.n0 ≤ x) (hp : pc + 1 = pc') (k : ∀ h', Wr h h' x i (.long v) → Av G.Z h' x .long (vs.set i (.long v)) → NE G K rm Q h' a b pc' ls st) : NE G K rm Q h a b pc ls (.long v :: .int j :: .ref x :: st) := fun T locs X e N0 => by
  subst hp
  have A0 := A
  obtain ⟨c, A, rfl⟩ := A
  obtain ⟨T', h', X', e', W', s'⟩ := Jvm.RoadKit.stJ X C.hx C.hZ e A (j := j) (ixin hj (by simpa using hi)) (g := mkF K.m pc ls (.long v :: .int j :: .ref x :: st)) rfl rfl (hb C.by hd)
  have F' := Fr.snoc X' N0 hx
  rw [(ix hj).2] at W'
  obtain ⟨s₂, o, hs, r⟩ := k h' W' (A0.same W') T' _ X' e' F'
  exact ⟨s₂, o, s' _ hs, r⟩
theorem N.castore (C : Cx G K own nm bytes maxL ret W) {x : Addr} {vs : List Value} {j : Int32} {i : Nat} {v : Int32} (hd : decode bytes pc = .ok (.castore, 1)) (A : Av G.Z h x .char vs) (hj : j.toInt = (i : Nat)) (hi : i < vs.length) (hx : G.n0 ≤ x) (hp : pc + 1 = pc') (k : ∀ h', Wr h h' x i (.int (nar .char v)) → Av G.Z h' x .char (vs.set i (.int (nar .char v))) → NE G K rm Q h' a b pc' ls st) : NE G K rm Q h a b pc ls (.int v :: .int j :: .ref x :: st) := fun T locs X e N0 => by
  subst hp
  have A0 := A
  obtain ⟨c, A, rfl⟩ := A
  obtain ⟨T', h', X', e', W', s'⟩ := Jvm.RoadKit.stC X C.hx C.hZ e A (j := j) (ixin hj (by simpa using hi)) (g := mkF K.m pc ls (.int v :: .int j :: .ref x :: st)) rfl rfl (hb C.by hd)
  have F' := Fr.snoc X' N0 hx
  rw [(ix hj).2] at W'
  obtain ⟨s₂, o, hs, r⟩ := k h' W' (A0.same W') T' _ X' e' F'
  exact ⟨s₂, o, s' _ hs, r⟩
theorem N.bastore (C : Cx G K own nm bytes maxL ret W) {x : Addr} {vs : List Value} {j : Int32} {i : Nat} {v : Int32} (hd : decode bytes pc = .ok (.bastore, 1)) (A : Av G.Z h x .byte vs) (hj : j.toInt = (i : Nat)) (hi : i < vs.length) (hx : G.n0 ≤ x) (hp : pc + 1 = pc') (k : ∀ h', Wr h h' x i (.int (nar .byte v)) → Av G.Z h' x .byte (vs.set i (.int (nar .byte v))) → NE G K rm Q h' a b pc' ls st) : NE G K rm Q h a b pc ls (.int v :: .int j :: .ref x :: st) := fun T locs X e N0 => by
  subst hp
  have A0 := A
  obtain ⟨c, A, rfl⟩ := A
  obtain ⟨T', h', X', e', W', s'⟩ := Jvm.RoadKit.stB X C.hx C.hZ e A (j := j) (ixin hj (by simpa using hi)) (g := mkF K.m pc ls (.int v :: .int j :: .ref x :: st)) rfl rfl (hb C.by hd)
  have F' := Fr.snoc X' N0 hx
  rw [(ix hj).2] at W'
  obtain ⟨s₂, o, hs, r⟩ := k h' W' (A0.same W') T' _ X' e' F'
  exact ⟨s₂, o, s' _ hs, r⟩
theorem N.dastore (C : Cx G K own nm bytes maxL ret W) {x : Addr} {vs : List Value} {j : Int32} {i : Nat} {v : UInt64} (hd : decode bytes pc = .ok (.dastore, 1)) (A : Av G.Z h x .double vs) (hj : j.toInt = (i : Nat)) (hi : i < vs.length) (hx : G.n0 ≤ x) (hp : pc + 1 = pc') (k : ∀ h', Wr h h' x i (.double v) → Av G.Z h' x .double (vs.set i (.double v)) → NE G K rm Q h' a b pc' ls st) : NE G K rm Q h a b pc ls (.double v :: .int j :: .ref x :: st) := fun T locs X e N0 => by
  subst hp
  have A0 := A
  obtain ⟨c, A, rfl⟩ := A
  obtain ⟨T', h', X', e', W', s'⟩ := Jvm.RoadKit.stD X C.hx C.hZ e A (j := j) (ixin hj (by simpa using hi)) (g := mkF K.m pc ls (.double v :: .int j :: .ref x :: st)) rfl rfl (hb C.by hd)
  have F' := Fr.snoc X' N0 hx
  rw [(ix hj).2] at W'
  obtain ⟨s₂, o, hs, r⟩ := k h' W' (A0.same W') T' _ X' e' F'
  exact ⟨s₂, o, s' _ hs, r⟩
theorem N.zastore (C : Cx G K own nm bytes maxL ret W) {x : Addr} {vs : List Value} {j : Int32} {i : Nat} {v : Int32} (hd : decode bytes pc = .ok (.bastore, 1)) (A : Av G.Z h x .boolean vs) (hj : j.toInt = (i : Nat)) (hi : i < vs.length) (hx : G.n0 ≤ x) (hp : pc + 1 = pc') (k : ∀ h', Wr h h' x i (.int (nar .boolean v)) → Av G.Z h' x .boolean (vs.set i (.int (nar .boolean v))) → NE G K rm Q h' a b pc' ls st) : NE G K rm Q h a b pc ls (.int v :: .int j :: .ref x :: st) := fun T locs X e N0 => by
  subst hp
  have A0 := A
  obtain ⟨c, A, rfl⟩ := A
  obtain ⟨T', h', X', e', W', s'⟩ := Jvm.RoadKit.stZ X C.hx C.hZ e A (j := j) (ixin hj (by simpa using hi)) (g := mkF K.m pc ls (.int v :: .int j :: .ref x :: st)) rfl rfl (hb C.by hd)
  have F' := Fr.snoc X' N0 hx
  rw [(ix hj).2] at W'
  obtain ⟨s₂, o, hs, r⟩ := k h' W' (A0.same W') T' _ X' e' F'
  exact ⟨s₂, o, s' _ hs, r⟩

/-! returns -/
theorem N.ret0 (C : Cx G K own nm bytes maxL ret W) (hr : ret = none) (hd : decode bytes pc = .ok (.return_, 1)) (ha : a ≤ rm.cells) (hb' : b ≤ rm.slots) (hq : Qv none h) : N G K rm Qv h a b pc ls [] := fun T locs X e N0 => by
  obtain ⟨fs, hr', hrun, hended, hW, hsame⟩ := X.leave (v := none) (fun _ => rfl) (hlocks := C.lk)
  exact ⟨_, _, X.returnOut C.hx (C.rt.trans hr) (hb C.by hd) hr', hrun, hended, _, _, rfl, ⟨by show Qv none T.heap; rw [e]; exact hq, N0⟩, ⟨_, rfl⟩, hW, hsame.mono ha hb'⟩
theorem N.retV (C : Cx G K own nm bytes maxL ret W) {w : Value} {t : FieldType} {i : Instr} (hr : ret = some t) (hn : narrow t w = w)
    (hi : (i = .ireturn ∧ (t = .int ∨ t = .boolean ∨ t = .byte ∨ t = .char ∨ t = .short) ∧ ∃ z, w = .int z) ∨ (i = .lreturn ∧ t = .long ∧ ∃ z, w = .long z) ∨ (i = .dreturn ∧ t = .double ∧ ∃ z, w = .double z) ∨ (i = .freturn ∧ t = .float ∧ ∃ z, w = .float z) ∨ (i = .areturn ∧ t.isReference = true ∧ w.isRef = true))
    (hd : decode bytes pc = .ok (i, 1)) (ha : a ≤ rm.cells) (hb' : b ≤ rm.slots) (hq : Qv (some w) h) : N G K rm Qv h a b pc ls (w :: st) := fun T locs X e N0 => by
  obtain ⟨fs, hr', hrun, hended, hW, hsame⟩ := X.leave (v := some w) (fun q => by rw [C.rt, hr] at q; cases q) (hlocks := C.lk)
  exact ⟨_, _, retOut X C.hx (C.rt.trans hr) hn hi (hb C.by hd) hr', hrun, hended, _, _, rfl, ⟨by show Qv (some w) T.heap; rw [e]; exact hq, N0⟩, ⟨_, rfl⟩, hW, hsame.mono ha hb'⟩
theorem N.retI (C : Cx G K own nm bytes maxL (some .int) W) {z : Int32} (hd : decode bytes pc = .ok (.ireturn, 1)) (ha : a ≤ rm.cells) (hb' : b ≤ rm.slots) (hq : Qv (some (.int z)) h) : N G K rm Qv h a b pc ls (.int z :: st) :=
  N.retV C rfl rfl (Or.inl ⟨rfl, Or.inl rfl, z, rfl⟩) hd ha hb' hq
theorem N.retL (C : Cx G K own nm bytes maxL (some .long) W) {z : Int64} (hd : decode bytes pc = .ok (.lreturn, 1)) (ha : a ≤ rm.cells) (hb' : b ≤ rm.slots) (hq : Qv (some (.long z)) h) : N G K rm Qv h a b pc ls (.long z :: st) :=
  N.retV C rfl rfl (Or.inr (Or.inl ⟨rfl, rfl, z, rfl⟩)) hd ha hb' hq
theorem N.retA (C : Cx G K own nm bytes maxL (some t) W) {w : Value} (ht : t.isReference = true) (hw : w.isRef = true) (hd : decode bytes pc = .ok (.areturn, 1)) (ha : a ≤ rm.cells) (hb' : b ≤ rm.slots) (hq : Qv (some w) h) : N G K rm Qv h a b pc ls (w :: st) :=
  N.retV C rfl (by rcases ref_cases hw with rfl | ⟨z, rfl⟩ <;> cases t <;> first | rfl | (cases ht)) (Or.inr (Or.inr (Or.inr (Or.inr ⟨rfl, ht, hw⟩)))) hd ha hb' hq
theorem N.retN (C : Cx G K own nm bytes maxL (some t) W) {z z' : Int32} (ht : t = .boolean ∨ t = .byte ∨ t = .char ∨ t = .short) (hz : nar t z = z') (hd : decode bytes pc = .ok (.ireturn, 1)) (ha : a ≤ rm.cells) (hb' : b ≤ rm.slots) (hq : Qv (some (.int z')) h) : N G K rm Qv h a b pc ls (.int z :: st) := fun T locs X e N0 => by
  subst hz
  obtain ⟨fs, hr', hrun, hended, hW, hsame⟩ := X.leave (v := some (.int (nar t z))) (fun q => by rw [C.rt] at q; cases q) (hlocks := C.lk)
  exact ⟨_, _, Jvm.RoadKit.retN X C.hx C.rt ht (hb C.by hd) hr', hrun, hended, _, _, rfl, ⟨by show Qv (some (.int (nar t z))) T.heap; rw [e]; exact hq, N0⟩, ⟨_, rfl⟩, hW, hsame.mono ha hb'⟩
/-! calls by the callee's contract -/
section Calls
variable {y : MethodName} {bytes' : ByteArray} {maxL' : Nat} {ret' : Option FieldType} {rm' : Room} {as : Array Value} {R' : Option Value → Heap → Prop} {stk rest : List Value}
theorem N.callS (C : Cx G K own nm bytes maxL ret W) {i : Nat} (argsL : List Value) (hd : decode bytes pc = .ok (.invokestatic i, 3)) (w1 : (Jvm.Cond.methodLink own i y).before G.a0 G.Z = true) (w2 : (Jvm.Cond.static y).before G.a0 G.Z = true) (w3 : (Jvm.Cond.initialized y.cls).before G.a0 G.Z = true) (w4 : (Jvm.Cond.code y bytes' maxL' ret').before G.a0 G.Z = true)
    (hy : y.cls ≠ "java/lang/invoke/MethodHandle" ∧ y.cls ≠ "java/lang/invoke/VarHandle") (M : Con G y bytes' maxL' ret' rm' argsL.toArray h R') (hlen : ∀ sig, parseMethodDescriptor y.desc = some sig → argsL.length = sig.parameters.length) (hsz : ls.size = maxL)
    (hf : rm'.frames + 1 ≤ rm.frames) (hl : (rest.map fun v => v.category).sum + (maxL' + 11) + rm'.locals ≤ rm.locals) (hc : a + rm'.cells ≤ rm.cells) (hs : b + rm'.slots ≤ rm.slots) (hst : stk = argsL.reverse ++ rest) (hp : pc + 3 = pc')
    (k : ∀ v h', R' v h' → NE G K rm Q h' (a + rm'.cells) (b + rm'.slots) pc' ls (v.toList ++ rest)) : NE G K rm Q h a b pc ls stk := fun T locs X e N0 => by
  subst hp
  obtain ⟨v, _, ⟨T', L', k', n'⟩, -, X', ⟨Lc, ⟨hQ, N1⟩, l', y', z'⟩, s'⟩ := Jvm.LawKit.callS X C.hx (y := y) C.ow (mvT C.hZ w1) (mvT C.hZ w2) (mvT C.hZ w3) (mvT C.hZ w4) hy (backOf (W := (rest.map fun v => v.category).sum) (Q := fun v h L => R' v h ∧ Fr G.n0 L) (M []) C.hZ w4 w3 hf hl) (g := mkF K.m pc ls stk) rfl (by rw [C.ml]; exact hsz) (argsL := argsL) (rest := rest) hlen hst (by show 2 * 0 + _ ≤ _; omega) (hb C.by hd) (fun _ _ => ⟨rfl, e, hc, hs⟩)
  dsimp only [Pt.U, Pt.locs, Pt.cells, Pt.slots] at X' l' y' z' s' hQ
  subst l' y' z'
  obtain ⟨s₂, o, hs', r⟩ := k v T'.heap hQ T' _ X' rfl (N0.app N1)
  exact ⟨s₂, o, s' _ hs', r⟩
theorem N.callI (C : Cx G K own nm bytes maxL ret W) {i : Nat} (x : Addr) (argsL : List Value) (hd : decode bytes pc = .ok (.invokespecial i, 3)) (hy1 : y.name = "<init>") (w1 : (Jvm.Cond.methodLink own i y).before G.a0 G.Z = true) (w2 : (Jvm.Cond.instanceMethod y).before G.a0 G.Z = true) (w3 : (Jvm.Cond.initialized y.cls).before G.a0 G.Z = true) (w4 : (Jvm.Cond.code y bytes' maxL' none).before G.a0 G.Z = true)
    (hy : y.cls ≠ "java/lang/invoke/MethodHandle" ∧ y.cls ≠ "java/lang/invoke/VarHandle") (M : Con G y bytes' maxL' none rm' (.ref x :: argsL).toArray h R') (hlen : ∀ sig, parseMethodDescriptor y.desc = some sig → argsL.length = sig.parameters.length) (hsz : ls.size = maxL)
    (hf : rm'.frames + 1 ≤ rm.frames) (hl : (rest.map fun v => v.category).sum + (maxL' + 11) + rm'.locals ≤ rm.locals) (hc : a + rm'.cells ≤ rm.cells) (hs : b + rm'.slots ≤ rm.slots) (hst : stk = argsL.reverse ++ .ref x :: rest) (hp : pc + 3 = pc')
    (k : ∀ v h', R' v h' → NE G K rm Q h' (a + rm'.cells) (b + rm'.slots) pc' ls (v.toList ++ rest)) : NE G K rm Q h a b pc ls stk := fun T locs X e N0 => by
  subst hp
  obtain ⟨v, _, ⟨T', L', k', n'⟩, -, X', ⟨Lc, ⟨hQ, N1⟩, l', y', z'⟩, s'⟩ := X.specialBack C.hx (y := y) hy1 C.ow (mvT C.hZ w1) (mvT C.hZ w2) (mvT C.hZ w4) hy (backOf (W := (rest.map fun v => v.category).sum) (Q := fun v h L => R' v h ∧ Fr G.n0 L) (M []) C.hZ w4 w3 hf hl) (g := mkF K.m pc ls stk) rfl (by rw [C.ml]; exact hsz) (Steps.refl _) (a := x) (argsL := argsL) (rest := rest) hlen hst (by show 2 * 0 + _ ≤ _; omega) (hb C.by hd) (fun _ _ => ⟨rfl, e, hc, hs⟩)
  dsimp only [Pt.U, Pt.locs, Pt.cells, Pt.slots] at X' l' y' z' s' hQ
  subst l' y' z'
  obtain ⟨s₂, o, hs', r⟩ := k v T'.heap hQ T' _ X' rfl (N0.app N1)
  exact ⟨s₂, o, s'.trans hs', r⟩
/-- an instance method of a class that selects itself -/
theorem N.callV (C : Cx G K own nm bytes maxL ret W) {i : Nat} (x : Addr) (argsL : List Value) (hd : decode bytes pc = .ok (.invokevirtual i, 3)) (w1 : (Jvm.Cond.methodLink own i y).before G.a0 G.Z = true) (wd : (Jvm.Cond.declares y).before G.a0 G.Z = true) (ws : (Jvm.Cond.selects y.cls y y).before G.a0 G.Z = true) (w2 : (Jvm.Cond.instanceMethod y).before G.a0 G.Z = true) (w3 : (Jvm.Cond.initialized y.cls).before G.a0 G.Z = true) (w4 : (Jvm.Cond.code y bytes' maxL' ret').before G.a0 G.Z = true)
    (hy : y.cls ≠ "java/lang/invoke/MethodHandle" ∧ y.cls ≠ "java/lang/invoke/VarHandle") (E : Exa G.Z h x y.cls) (M : Con G y bytes' maxL' ret' rm' (.ref x :: argsL).toArray h R') (hlen : ∀ sig, parseMethodDescriptor y.desc = some sig → argsL.length = sig.parameters.length) (hsz : ls.size = maxL)
    (hf : rm'.frames + 1 ≤ rm.frames) (hl : (rest.map fun v => v.category).sum + (maxL' + 11) + rm'.locals ≤ rm.locals) (hc : a + rm'.cells ≤ rm.cells) (hs : b + rm'.slots ≤ rm.slots) (hst : stk = argsL.reverse ++ .ref x :: rest) (hp : pc + 3 = pc')
    (k : ∀ v h', R' v h' → NE G K rm Q h' (a + rm'.cells) (b + rm'.slots) pc' ls (v.toList ++ rest)) : NE G K rm Q h a b pc ls stk := fun T locs X e N0 => by
  subst hp
  obtain ⟨cq, kq, qa, qb, qc⟩ := isOf C.hZ e E
  obtain ⟨v, _, ⟨T', L', k', n'⟩, -, X', ⟨Lc, ⟨hQ, N1⟩, l', y', z'⟩, s'⟩ := X.virtualBack C.hx (y := y) (z := y) C.ow (mvT C.hZ w1) (mvT C.hZ wd) (notFace_of_selects (args := #[]) (mvT C.hZ ws)) (mvT C.hZ ws) (mvT C.hZ w2) hy (backOf (W := (rest.map fun v => v.category).sum) (Q := fun v h L => R' v h ∧ Fr G.n0 L) (M []) C.hZ w4 w3 hf hl) qa qc (g := mkF K.m pc ls stk) rfl (by rw [C.ml]; exact hsz) (Steps.refl _) (argsL := argsL) (rest := rest) hlen hst (by show 2 * 0 + _ ≤ _; omega) (hb C.by hd) (fun _ _ => ⟨rfl, e, hc, hs⟩)
  dsimp only [Pt.U, Pt.locs, Pt.cells, Pt.slots] at X' l' y' z' s' hQ
  subst l' y' z'
  obtain ⟨s₂, o, hs', r⟩ := k v T'.heap hQ T' _ X' rfl (N0.app N1)
  exact ⟨s₂, o, s'.trans hs', r⟩
/-- a private method -/
theorem N.callP (C : Cx G K own nm bytes maxL ret W) {i : Nat} (x : Addr) (argsL : List Value) (hd : decode bytes pc = .ok (.invokevirtual i, 3)) (w1 : (Jvm.Cond.methodLink own i y).before G.a0 G.Z = true) (wp : (Jvm.Cond.privateMethod y).before G.a0 G.Z = true) (ws : (Jvm.Cond.selects y.cls y y).before G.a0 G.Z = true) (w2 : (Jvm.Cond.instanceMethod y).before G.a0 G.Z = true) (w3 : (Jvm.Cond.initialized y.cls).before G.a0 G.Z = true) (w4 : (Jvm.Cond.code y bytes' maxL' ret').before G.a0 G.Z = true)
    (hy : y.cls ≠ "java/lang/invoke/MethodHandle" ∧ y.cls ≠ "java/lang/invoke/VarHandle") (E : Exa G.Z h x y.cls) (M : Con G y bytes' maxL' ret' rm' (.ref x :: argsL).toArray h R') (hlen : ∀ sig, parseMethodDescriptor y.desc = some sig → argsL.length = sig.parameters.length) (hsz : ls.size = maxL)
    (hf : rm'.frames + 1 ≤ rm.frames) (hl : (rest.map fun v => v.category).sum + (maxL' + 11) + rm'.locals ≤ rm.locals) (hc : a + rm'.cells ≤ rm.cells) (hs : b + rm'.slots ≤ rm.slots) (hst : stk = argsL.reverse ++ .ref x :: rest) (hp : pc + 3 = pc')
    (k : ∀ v h', R' v h' → NE G K rm Q h' (a + rm'.cells) (b + rm'.slots) pc' ls (v.toList ++ rest)) : NE G K rm Q h a b pc ls stk := fun T locs X e N0 => by
  subst hp
  obtain ⟨cq, qa, qb⟩ := E.cell
  obtain ⟨v, _, ⟨T', L', k', n'⟩, -, X', ⟨Lc, ⟨hQ, N1⟩, l', y', z'⟩, s'⟩ := X.privateBack C.hx (y := y) C.ow (mvT C.hZ w1) (mvT C.hZ w2) (mvT C.hZ ws) (Cond.privateMethod_at (mvP C.hZ wp (args := #[]))) (mvT C.hZ w4) hy (backOf (W := (rest.map fun v => v.category).sum) (Q := fun v h L => R' v h ∧ Fr G.n0 L) (M []) C.hZ w4 w3 hf hl) (g := mkF K.m pc ls stk) rfl (by rw [C.ml]; exact hsz) (Steps.refl _) (a := x) (by rw [e]; exact qa) qb (argsL := argsL) (rest := rest) hlen hst (by show 2 * 0 + _ ≤ _; omega) (hb C.by hd) (fun _ _ => ⟨rfl, e, hc, hs⟩)
  dsimp only [Pt.U, Pt.locs, Pt.cells, Pt.slots] at X' l' y' z' s' hQ
  subst l' y' z'
  obtain ⟨s₂, o, hs', r⟩ := k v T'.heap hQ T' _ X' rfl (N0.app N1)
  exact ⟨s₂, o, s'.trans hs', r⟩
/-! a callee with an exception table whose walk throws nothing -/
def ConW (G : Gx) (y : MethodName) (bytes : ByteArray) (maxL : Nat) (ret : Option FieldType) (hs : List (Nat × Nat × Nat × Nat)) (rm : Room) (as : Array Value) (h : Heap) (Q : Option Value → Heap → Prop) : Prop :=
  ∀ ws : List Jvm.Cond, MetFree G.l y (head1 (Jvm.Cond.codeWith y bytes maxL ret hs :: ws) rm) (fun a U => a = as ∧ G.Z.Warmed39 U.vm ∧ U.heap = h) (fun _ _ _ _ _ => True) (fun _ U o U' => ∃ v L, o = .returned v ∧ (Q v U'.heap ∧ Fr G.n0 L) ∧ FrameEnd U o U' L rm.cells rm.slots)
theorem ConW.of {G : Gx} {y : MethodName} {bytes : ByteArray} {maxL : Nat} {ret : Option FieldType} {hs : List (Nat × Nat × Nat × Nat)} {rm : Room} {as : Array Value} {h : Heap} {Q : Option Value → Heap → Prop} {W : List Jvm.Cond} {ls : Array Slot} (hpl : plainFor y = true) (hW : ∀ d ∈ W, d.before G.a0 G.Z = true)
    (he : ∀ m, entryFrame m as maxL = mkF m 0 ls []) (body : ∀ K : Kx, Cx G K y.cls y.name bytes maxL ret W → N G K rm Q h 0 0 0 ls []) : ConW G y bytes maxL ret hs rm as h Q := fun ws => by
  refine MetFree.of_bodySF hpl hisWith ?_
  intro p e s m args below meth c s₁ Bd hml hP hK
  obtain ⟨rfl, hZ, hh⟩ := hP
  have X0 : Stand p G.l e rm s m args below meth c s₁ [] 0 0 := Stand.of_body Bd
  obtain ⟨s₂, o, h1, h2, h3, h4⟩ := body (p, e, s, m, args, below, meth, c) ⟨Bd.exec, hZ, Bd.bytes, hml, findClass_of_methodNamed Bd.named, (name_of_methodNamed Bd.named Bd.method).1, Bd.returns, BodyLoose.notSynchronized Bd, hW⟩ s₁ [] X0 (by rw [← hh, Bd.state]; rfl) (Fr.nil _)
  exact ⟨s₂, o, castTop (he m) h1, h2, h3, h4⟩
theorem declOf {y : MethodName} {s : State} {args : Array Value} {bytes' : ByteArray} {maxL' : Nat} {ret' : Option FieldType} {hs : List (Nat × Nat × Nat × Nat)} (w2 : (Jvm.Cond.instanceMethod y).before args s = true) (w4 : (Jvm.Cond.codeWith y bytes' maxL' ret' hs).before args s = true) : (Jvm.Cond.declares y).before args s = true := by
  obtain ⟨mk, methM, hnamed, hmethM, hst, -⟩ := Cond.instanceMethod_spec w2
  obtain ⟨m', meth', c', hn', hm', -, -, -, -, -, -, hsig⟩ := Cond.codeWith_spec w4
  cases hnamed.symm.trans hn'
  cases hmethM.symm.trans hm'
  simp [Cond.before, Cond.holds, Cond.value, hnamed, hmethM, hst, hsig]
theorem N.callPW (C : Cx G K own nm bytes maxL ret W) {i : Nat} {hs : List (Nat × Nat × Nat × Nat)} (x : Addr) (argsL : List Value) (hd : decode bytes pc = .ok (.invokevirtual i, 3)) (w1 : (Jvm.Cond.methodLink own i y).before G.a0 G.Z = true) (ws : (Jvm.Cond.selects y.cls y y).before G.a0 G.Z = true) (w2 : (Jvm.Cond.instanceMethod y).before G.a0 G.Z = true) (w3 : (Jvm.Cond.initialized y.cls).before G.a0 G.Z = true) (w4 : (Jvm.Cond.codeWith y bytes' maxL' ret' hs).before G.a0 G.Z = true)
    (hy : y.cls ≠ "java/lang/invoke/MethodHandle" ∧ y.cls ≠ "java/lang/invoke/VarHandle") (E : Exa G.Z h x y.cls) (M : ConW G y bytes' maxL' ret' hs rm' (.ref x :: argsL).toArray h R') (hlen : ∀ sig, parseMethodDescriptor y.desc = some sig → argsL.length = sig.parameters.length) (hsz : ls.size = maxL)
    (hf : rm'.frames + 1 ≤ rm.frames) (hl : (rest.map fun v => v.category).sum + (maxL' + 11) + rm'.locals ≤ rm.locals) (hc : a + rm'.cells ≤ rm.cells) (hs' : b + rm'.slots ≤ rm.slots) (hst : stk = argsL.reverse ++ .ref x :: rest) (hp : pc + 3 = pc')
    (k : ∀ v h', R' v h' → NE G K rm Q h' (a + rm'.cells) (b + rm'.slots) pc' ls (v.toList ++ rest)) : NE G K rm Q h a b pc ls stk := fun T locs X e N0 => by
  subst hp
  obtain ⟨cq, kq, qa, qb, qc⟩ := isOf C.hZ e E
  obtain ⟨v, _, ⟨T', L', k', n'⟩, -, X', ⟨Lc, ⟨hQ, N1⟩, l', y', z'⟩, s'⟩ := X.virtualBack C.hx (y := y) (z := y) C.ow (mvT C.hZ w1) (mvT C.hZ (declOf w2 w4)) (notFace_of_selects (args := #[]) (mvT C.hZ ws)) (mvT C.hZ ws) (mvT C.hZ w2) hy (backOfWith (W := (rest.map fun v => v.category).sum) (Q := fun v h L => R' v h ∧ Fr G.n0 L) (M []) C.hZ w4 w3 hf hl) qa qc (g := mkF K.m pc ls stk) rfl (by rw [C.ml]; exact hsz) (Steps.refl _) (argsL := argsL) (rest := rest) hlen hst (by show 2 * 0 + _ ≤ _; omega) (hb C.by hd) (fun _ _ => ⟨rfl, e, hc, hs'⟩)
  dsimp only [Pt.U, Pt.locs, Pt.cells, Pt.slots] at X' l' y' z' s' hQ
  subst l' y' z'
  obtain ⟨s₂, o, hs', r⟩ := k v T'.heap hQ T' _ X' rfl (N0.app N1)
  exact ⟨s₂, o, s'.trans hs', r⟩

theorem N.checkcast (C : Cx G K own nm bytes maxL ret W) {i : Nat} {KK : String} {x : Addr} (hd : decode bytes pc = .ok (.checkcast i, 3)) (w : (Jvm.Cond.classLink own i KK).before G.a0 G.Z = true) (F : Ins G.Z h x KK true) (hp : pc + 3 = pc') (k : NE G K rm Q h a b pc' ls (.ref x :: st)) : NE G K rm Q h a b pc ls (.ref x :: st) := fun T locs X e N0 => by
  subst hp
  obtain ⟨T', X', e', s'⟩ := castY X C.hx C.hZ C.ow w e F (g := mkF K.m pc ls (.ref x :: st)) rfl rfl (hb C.by hd)
  obtain ⟨s₂, o, hs', r⟩ := k T' _ X' e' N0
  exact ⟨s₂, o, s' _ hs', r⟩
theorem N.instanceof (C : Cx G K own nm bytes maxL ret W) {i : Nat} {KK : String} {x : Addr} (hd : decode bytes pc = .ok (.instanceof i, 3)) (w : (Jvm.Cond.classLink own i KK).before G.a0 G.Z = true) (F : Ins G.Z h x KK true) (hp : pc + 3 = pc') (k : NE G K rm Q h a b pc' ls (.int 1 :: st)) : NE G K rm Q h a b pc ls (.ref x :: st) := fun T locs X e N0 => by
  subst hp
  obtain ⟨T', X', e', s'⟩ := instY X C.hx C.hZ C.ow w e F (g := mkF K.m pc ls (.ref x :: st)) rfl rfl (hb C.by hd)
  obtain ⟨s₂, o, hs', r⟩ := k T' _ X' e' N0
  exact ⟨s₂, o, s' _ hs', r⟩

theorem Av.arv {Z : State} {h : Heap} {x : Addr} {vs : List Value} (A : Av Z h x .byte vs) (hl : vs.length < 1000) (hf : ∀ v ∈ vs, fits .byte v = true) : ∃ (k : ClassId) (z : Int32), Arv Z h x k .byte z vs (.int 0) ∧ z.toNatClampNeg = vs.length := by
  obtain ⟨c, A, rfl⟩ := A
  have hl' : c.slots.size < 1000 := by simpa using hl
  have hz : (Int32.ofNat c.slots.size).toInt = (c.slots.size : Int) := Int32.toInt_ofNat_of_lt (by omega)
  have h1 := ix hz
  have g : ∀ j, j < c.slots.size → c.slots.toList.getD j (.int 0) = c.slots[j]?.getD (.int 0) := fun j _ => by simp [List.getD_eq_getElem?_getD]
  refine ⟨c.cls, Int32.ofNat c.slots.size, ⟨c, A, rfl, h1.2.symm, h1.1, fun i hi => ?_, fun i hi => ?_⟩, by rw [h1.2]; simp⟩
  · rw [g i hi, Array.getElem?_eq_getElem hi]; rfl
  · rw [g i hi, Array.getElem?_eq_getElem hi]
    exact hf _ (by simp)
theorem Av.ofArv {Z : State} {h : Heap} {x : Addr} {k : ClassId} {ty : FieldType} {z : Int32} {vs : List Value} {dv : Value} (A : Arv Z h x k ty z vs dv) (hl : vs.length = z.toNatClampNeg) : Av Z h x ty vs := by
  obtain ⟨c, A, -, h2, -, h4, -⟩ := A
  refine ⟨c, A, List.ext_getElem? fun j => ?_⟩
  by_cases q : j < vs.length
  · have := h4 j (by omega)
    rw [Array.getElem?_toList, this, List.getD_eq_getElem?_getD, List.getElem?_eq_getElem q]; rfl
  · rw [List.getElem?_eq_none (by simp; omega), List.getElem?_eq_none (by omega)]
theorem N.copyB (C : Cx G K own nm bytes maxL ret W) {i : Nat} {x y : Addr} {as bs : List Int32} {sp dp nn : Int32} {p0 q0 n : Nat} (hd : decode bytes pc = .ok (.invokestatic i, 3)) (w1 : (Jvm.Cond.methodLink own i Jvm.Stand.acN).before G.a0 G.Z = true) (w2 : (Jvm.Cond.native Jvm.Stand.acN).before G.a0 G.Z = true) (w3 : (Jvm.Cond.static Jvm.Stand.acN).before G.a0 G.Z = true) (w4 : (Jvm.Cond.initialized "java/lang/System").before G.a0 G.Z = true)
    (A : Av G.Z h x .byte (as.map .int)) (B : Av G.Z h y .byte (bs.map .int)) (fa : ∀ z ∈ as, fits .byte (.int z) = true) (fb : ∀ z ∈ bs, fits .byte (.int z) = true) (la : as.length < 1000) (lb : bs.length < 1000) (h1 : sp.toInt = (p0 : Nat)) (h2 : dp.toInt = (q0 : Nat)) (h3 : nn.toInt = (n : Nat)) (h4 : p0 + n ≤ as.length) (h5 : q0 + n ≤ bs.length) (gy : G.n0 ≤ y)
    (hsz : ls.size = maxL) (hf : 1 ≤ rm.frames) (hlo : (st.map fun v => v.category).sum + (nativeFrameWords "java/lang/System" "arraycopy" 5 + 11) ≤ rm.locals) (hp : pc + 3 = pc')
    (k : ∀ h', Keep h h' [y] → Av G.Z h' y .byte ((bs.take q0 ++ (as.drop p0).take n ++ bs.drop (q0 + n)).map .int) → NE G K rm Q h' a b pc' ls st) : NE G K rm Q h a b pc ls (.int nn :: .int dp :: .ref y :: .int sp :: .ref x :: st) := fun T locs X e N0 => by
  subst hp
  obtain ⟨ka, za, A1, ea⟩ := A.arv (by rw [List.length_map]; exact la) (fun v hv => by obtain ⟨z, q, rfl⟩ := List.mem_map.mp hv; exact fa z q)
  obtain ⟨kb, zb, B1, eb⟩ := B.arv (by rw [List.length_map]; exact lb) (fun v hv => by obtain ⟨z, q, rfl⟩ := List.mem_map.mp hv; exact fb z q)
  rw [List.length_map] at ea eb
  have i1 := ix h1
  have i2 := ix h2
  have i3 := ix h3
  obtain ⟨T', h', L, X', e', N', K', A', s'⟩ := cpA X C.hx C.hZ C.ow w1 w2 w3 w4 e A1 B1 (Or.inl ⟨rfl, rfl⟩) i1.1 i2.1 i3.1 (by rw [i1.2, i3.2, ea]; exact h4) (by rw [i2.2, i3.2, eb]; exact h5) rfl (by rw [i2.2, i3.2, List.length_map]; exact h5) N0 gy
    (g := mkF K.m pc ls (.int nn :: .int dp :: .ref y :: .int sp :: .ref x :: st)) rfl (by rw [C.ml]; exact hsz) rfl (hb C.by hd) hf (W := (st.map fun v => v.category).sum) (by show 2 * 0 + _ ≤ _; omega) hlo
  have hA : Av G.Z h' y .byte ((bs.take q0 ++ (as.drop p0).take n ++ bs.drop (q0 + n)).map .int) := by
    have eu : ((List.range nn.toNatClampNeg).map fun i => (as.map Value.int).getD (sp.toNatClampNeg + i) (.int 0)) = ((as.drop p0).take n).map .int := by
      rw [i1.2, i3.2]
      apply List.ext_getElem?
      intro j
      by_cases q : j < n
      · rw [List.getElem?_map, List.getElem?_range q, List.getElem?_map, List.getElem?_take_of_lt q, List.getElem?_drop]
        simp only [Option.map_some, List.getD_eq_getElem?_getD, List.getElem?_map, List.getElem?_eq_getElem (show p0 + j < as.length by omega), Option.getD_some]
      · rw [List.getElem?_eq_none (by simp; omega), List.getElem?_eq_none (by simp; omega)]
    rw [eu, i2.2, i3.2] at A'
    have := Av.ofArv A' (by rw [eb]; simp; omega)
    rw [List.map_append, List.map_append, List.map_take, List.map_drop]
    exact this
  obtain ⟨s₂, o, hs, r⟩ := k h' K' hA T' _ X' e' N'
  exact ⟨s₂, o, s' _ hs, r⟩
theorem N.cloneB (C : Cx G K own nm bytes maxL ret W) {i : Nat} {x : Addr} {as : List Int32} (cap : Nat) (hd : decode bytes pc = .ok (.invokevirtual i, 3)) (w1 : (Jvm.Cond.methodLink own i ⟨"[B", "clone", "()Ljava/lang/Object;"⟩).before G.a0 G.Z = true) (w2 : (Jvm.Cond.sameMethod "[B" "java/lang/Object" "clone" "()Ljava/lang/Object;").before G.a0 G.Z = true) (w3 : (Jvm.Cond.native ⟨"java/lang/Object", "clone", "()Ljava/lang/Object;"⟩).before G.a0 G.Z = true) (w4 : (Jvm.Cond.instanceMethod ⟨"java/lang/Object", "clone", "()Ljava/lang/Object;"⟩).before G.a0 G.Z = true)
    (w5 : (Jvm.Cond.selects "[B" ⟨"[B", "clone", "()Ljava/lang/Object;"⟩ ⟨"java/lang/Object", "clone", "()Ljava/lang/Object;"⟩).before G.a0 G.Z = true) (w6 : (Jvm.Cond.castable "[B" "java/lang/Cloneable").before G.a0 G.Z = true) (A : Av G.Z h x .byte (as.map .int)) (E : Exa G.Z h x "[B") (fa : ∀ z ∈ as, fits .byte (.int z) = true) (hcap : as.length ≤ cap) (hsz : ls.size = maxL) (hf : 1 ≤ rm.frames) (hlo : (st.map fun v => v.category).sum + 14 ≤ rm.locals) (hc : a + 1 ≤ rm.cells) (hs : b + cap ≤ rm.slots) (hp : pc + 3 = pc')
    (k : ∀ (h' : Heap) (y : Addr), y = h.size → Ext h h' → Av G.Z h' y .byte (as.map .int) → Exa G.Z h' y "[B" → NE G K rm Q h' (a + 1) (b + cap) pc' ls (.ref y :: st)) : NE G K rm Q h a b pc ls (.ref x :: st) := fun T locs X e N0 => by
  subst hp
  obtain ⟨c, A, ec⟩ := A
  have hsl : c.slots.size = as.length := by rw [← Array.length_toList, ec, List.length_map]
  have hfc : FitC G.Z c := fitC_of A fun i hi v hv => by
    have hm : v ∈ c.slots.toList := by rw [← Array.getElem?_toList] at hv; exact List.mem_of_getElem? hv
    rw [ec] at hm
    obtain ⟨z, q, rfl⟩ := List.mem_map.mp hm
    exact fa z q
  obtain ⟨T', h', X', e', E', A', E2, s'⟩ := cloneA X C.hx C.hZ C.ow w1 w2 w3 w4 w5 w6 e A E hfc (g := mkF K.m pc ls (.ref x :: st)) rfl (by rw [C.ml]; exact hsz) (rest := st) rfl (hb C.by hd) hf (W := (st.map fun v => v.category).sum) (cap := cap) (by show 2 * 0 + _ ≤ _; omega) hlo (by omega) hc hs
  obtain ⟨s₂, o, hs', r⟩ := k h' _ rfl E' ⟨_, A', ec⟩ E2 T' _ X' e' N0
  exact ⟨s₂, o, s' _ hs', r⟩
theorem N.newPE (C : Cx G K own nm bytes maxL ret W) {aty : ArrayType} {n : Int32} {ad : String} (cap : Nat) (hd : decode bytes pc = .ok (.newarray aty, 2)) (w : (Jvm.Cond.arrayClass (newarray.typeOf aty)).before G.a0 G.Z = true) (had : "[" ++ (newarray.typeOf aty).toString = ad) (hn : 0 ≤ n.toInt) (hcap : n.toInt ≤ (cap : Int)) (hb8 : cap * 8 ≤ 536870912) (hc : a + 1 ≤ rm.cells) (hl : b + cap ≤ rm.slots) (hp : pc + 2 = pc')
    (k : ∀ (h' : Heap) (x : Addr), x = h.size → Ext h h' → Av G.Z h' x (newarray.typeOf aty) (List.replicate n.toInt.toNat (defaultValue (newarray.typeOf aty))) → Exa G.Z h' x ad → NE G K rm Q h' (a + 1) (b + cap) pc' ls (.ref x :: st)) : NE G K rm Q h a b pc ls (.int n :: st) := fun T locs X e N0 => by
  subst hp
  have hneg : ¬ n < 0 := fun q => by
    have := Int32.lt_iff_toInt_lt.mp q
    have e0 : (0 : Int32).toInt = 0 := by decide
    omega
  obtain ⟨T', h', cA, X', e', E', A', E2, s'⟩ := Jvm.RoadKit.newPE X C.hx C.hZ w e (g := mkF K.m pc ls (.int n :: st)) rfl (hb C.by hd) rfl hneg (cap := cap) (by show n.toInt.toNat ≤ cap; omega) hb8 hc hl had
  obtain ⟨s₂, o, hs, r⟩ := k h' _ rfl E' (Av.new A') E2 T' locs X' e' N0
  exact ⟨s₂, o, s' _ hs, r⟩
theorem N.newOU (C : Cx G K own nm bytes maxL ret W) {Cn : String} {i n : Nat} (hd : decode bytes pc = .ok (.new i, 3)) (w : (Jvm.Cond.classLink own i Cn).before G.a0 G.Z = true) (wi : (Jvm.Cond.instantiable Cn n).before G.a0 G.Z = true) (wz : (Jvm.Cond.initialized Cn).before G.a0 G.Z = true) (hc : a + 1 ≤ rm.cells) (hl : b + n ≤ rm.slots) (hp : pc + 3 = pc')
    (k : ∀ (h' : Heap) (x : Addr), x = h.size → Ext h h' → Exa G.Z h' x Cn → (∀ {O f d : String} {ty : FieldType}, Laid G.Z G.a0 Cn O f d → parseFieldDescriptor d = some ty → Fld G.Z h' x O f d (defaultValue ty)) → Unt h' x → NE G K rm Q h' (a + 1) (b + n) pc' ls (.ref x :: st)) : NE G K rm Q h a b pc ls st := fun T locs X e N0 => by
  subst hp
  obtain ⟨T', h', X', e', E', A', D', U', s'⟩ := Jvm.RoadKit.newO X C.hx C.hZ C.ow w wi wz e (g := mkF K.m pc ls st) rfl (hb C.by hd) hc hl
  obtain ⟨s₂, o, hs, r⟩ := k h' _ rfl E' A' D' U' T' locs X' e' N0
  exact ⟨s₂, o, s' _ hs, r⟩
theorem declC {y : MethodName} {s : State} {args : Array Value} {bytes' : ByteArray} {maxL' : Nat} {ret' : Option FieldType} (w2 : (Jvm.Cond.instanceMethod y).before args s = true) (w4 : (Jvm.Cond.code y bytes' maxL' ret').before args s = true) : (Jvm.Cond.declares y).before args s = true := by
  obtain ⟨mk, methM, hnamed, hmethM, hst, -⟩ := Cond.instanceMethod_spec w2
  obtain ⟨meth', c', hm', -, -, -, -, -, -, hsig⟩ := Cond.code_spec hnamed w4
  cases hmethM.symm.trans hm'
  simp [Cond.before, Cond.holds, Cond.value, hnamed, hmethM, hst, hsig]
theorem faceAs {s : State} {args : Array Value} {C0 : String} {y0 y : MethodName} (ws : (Jvm.Cond.selects C0 y0 y0).before args s = true) (hc : y.cls = y0.cls) : NotFace s y := fun r0 h0 => by
  obtain ⟨c2, r2, m2, q1, q2, q3, q4, kP, hkP, hkPi⟩ := Cond.selects_spec ws
  have e1 := findClass_of_methodNamed h0
  have e2 := findClass_of_methodNamed q3
  rw [hc] at e1
  have e3 : r0.cls = m2.cls := Option.some.inj (e1.symm.trans e2)
  exact ⟨kP, by rw [e3]; exact hkP, hkPi⟩
theorem sameSelf {s : State} {args : Array Value} {C0 : String} {y0 y : MethodName} (ws : (Jvm.Cond.selects C0 y0 y0).before args s = true) (hc : y.cls = y0.cls) (w2 : (Jvm.Cond.instanceMethod y).before args s = true) (hy : y.cls ≠ "java/lang/invoke/MethodHandle" ∧ y.cls ≠ "java/lang/invoke/VarHandle") : (Jvm.Cond.sameMethod y.cls y.cls y.name y.desc).before args s = true := by
  obtain ⟨mk, methM, hnamed, -⟩ := Cond.instanceMethod_spec w2
  obtain ⟨kr, hk, hi⟩ := faceAs ws hc mk hnamed
  have hf := State.methodFound?_of_named hnamed hy
  have hcl := findClass_of_methodNamed hnamed
  have hnamed' : s.methodNamed? ⟨y.cls, y.name, y.desc⟩ = some mk := hnamed
  simp [Cond.before, Cond.holds, Cond.value, hcl, hf, hnamed', hk, hi]
section CallsK
variable {y z : MethodName} {bytes' : ByteArray} {maxL' : Nat} {ret' : Option FieldType} {rm' : Room} {as : Array Value} {R' : Option Value → Heap → Prop} {stk rest : List Value} {KK : String} {y0 : MethodName}
/-- a method that the class KK selects -/
theorem N.callVK (C : Cx G K own nm bytes maxL ret W) {i : Nat} (x : Addr) (argsL : List Value) (hd : decode bytes pc = .ok (.invokevirtual i, 3)) (w1 : (Jvm.Cond.methodLink own i y).before G.a0 G.Z = true) (wd : (Jvm.Cond.declares y).before G.a0 G.Z = true) (wf : (Jvm.Cond.selects KK y0 y0).before G.a0 G.Z = true) (hf0 : y.cls = y0.cls) (ws : (Jvm.Cond.selects KK y z).before G.a0 G.Z = true) (w2 : (Jvm.Cond.instanceMethod z).before G.a0 G.Z = true) (w3 : (Jvm.Cond.initialized z.cls).before G.a0 G.Z = true) (w4 : (Jvm.Cond.code z bytes' maxL' ret').before G.a0 G.Z = true)
    (hy : y.cls ≠ "java/lang/invoke/MethodHandle" ∧ y.cls ≠ "java/lang/invoke/VarHandle") (E : Exa G.Z h x KK) (M : Con G z bytes' maxL' ret' rm' (.ref x :: argsL).toArray h R') (hlen : ∀ sig, parseMethodDescriptor y.desc = some sig → argsL.length = sig.parameters.length) (hsz : ls.size = maxL)
    (hf : rm'.frames + 1 ≤ rm.frames) (hl : (rest.map fun v => v.category).sum + (maxL' + 11) + rm'.locals ≤ rm.locals) (hc : a + rm'.cells ≤ rm.cells) (hs : b + rm'.slots ≤ rm.slots) (hst : stk = argsL.reverse ++ .ref x :: rest) (hp : pc + 3 = pc')
    (k : ∀ v h', R' v h' → NE G K rm Q h' (a + rm'.cells) (b + rm'.slots) pc' ls (v.toList ++ rest)) : NE G K rm Q h a b pc ls stk := fun T locs X e N0 => by
  subst hp
  obtain ⟨cq, kq, qa, qb, qc⟩ := isOf C.hZ e E
  obtain ⟨v, _, ⟨T', L', k', n'⟩, -, X', ⟨Lc, ⟨hQ, N1⟩, l', y', z'⟩, s'⟩ := X.virtualBack C.hx (y := y) (z := z) C.ow (mvT C.hZ w1) (mvT C.hZ wd) (faceAs (args := #[]) (mvT C.hZ wf) hf0) (mvT C.hZ ws) (mvT C.hZ w2) hy (backOf (W := (rest.map fun v => v.category).sum) (Q := fun v h L => R' v h ∧ Fr G.n0 L) (M []) C.hZ w4 w3 hf hl) qa qc (g := mkF K.m pc ls stk) rfl (by rw [C.ml]; exact hsz) (Steps.refl _) (argsL := argsL) (rest := rest) hlen hst (by show 2 * 0 + _ ≤ _; omega) (hb C.by hd) (fun _ _ => ⟨rfl, e, hc, hs⟩)
  dsimp only [Pt.U, Pt.locs, Pt.cells, Pt.slots] at X' l' y' z' s' hQ
  subst l' y' z'
  obtain ⟨s₂, o, hs', r⟩ := k v T'.heap hQ T' _ X' rfl (N0.app N1)
  exact ⟨s₂, o, s'.trans hs', r⟩
/-- a method that KK has from its superclass, named by KK -/
theorem N.callUp (C : Cx G K own nm bytes maxL ret W) {i : Nat} {owner : String} (x : Addr) (argsL : List Value) (hd : decode bytes pc = .ok (.invokevirtual i, 3)) (w1 : (Jvm.Cond.methodLink own i y).before G.a0 G.Z = true) (wm : (Jvm.Cond.sameMethod y.cls owner y.name y.desc).before G.a0 G.Z = true) (wd : (Jvm.Cond.declares ⟨owner, y.name, y.desc⟩).before G.a0 G.Z = true) (ho : owner ≠ "java/lang/invoke/MethodHandle" ∧ owner ≠ "java/lang/invoke/VarHandle") (ws : (Jvm.Cond.selects KK y z).before G.a0 G.Z = true) (w2 : (Jvm.Cond.instanceMethod z).before G.a0 G.Z = true) (w3 : (Jvm.Cond.initialized z.cls).before G.a0 G.Z = true) (w4 : (Jvm.Cond.code z bytes' maxL' ret').before G.a0 G.Z = true)
    (E : Exa G.Z h x KK) (M : Con G z bytes' maxL' ret' rm' (.ref x :: argsL).toArray h R') (hlen : ∀ sig, parseMethodDescriptor y.desc = some sig → argsL.length = sig.parameters.length) (hsz : ls.size = maxL)
    (hf : rm'.frames + 1 ≤ rm.frames) (hl : (rest.map fun v => v.category).sum + (maxL' + 11) + rm'.locals ≤ rm.locals) (hc : a + rm'.cells ≤ rm.cells) (hs : b + rm'.slots ≤ rm.slots) (hst : stk = argsL.reverse ++ .ref x :: rest) (hp : pc + 3 = pc')
    (k : ∀ v h', R' v h' → NE G K rm Q h' (a + rm'.cells) (b + rm'.slots) pc' ls (v.toList ++ rest)) : NE G K rm Q h a b pc ls stk := fun T locs X e N0 => by
  subst hp
  obtain ⟨cq, kq, qa, qb, qc⟩ := isOf C.hZ e E
  obtain ⟨v, _, ⟨T', L', k', n'⟩, -, X', ⟨Lc, ⟨hQ, N1⟩, l', y', z'⟩, s'⟩ := X.virtualBackUp C.hx (x := y) (y := z) C.ow (mvT C.hZ w1) (mv C.hZ wm) (mvT C.hZ wd) ho (mvT C.hZ ws) (mvT C.hZ w2) (backOf (W := (rest.map fun v => v.category).sum) (Q := fun v h L => R' v h ∧ Fr G.n0 L) (M []) C.hZ w4 w3 hf hl) qa qc (g := mkF K.m pc ls stk) rfl (by rw [C.ml]; exact hsz) (Steps.refl _) (argsL := argsL) (rest := rest) hlen hst (by show 2 * 0 + _ ≤ _; omega) (hb C.by hd) (fun _ _ => ⟨rfl, e, hc, hs⟩)
  dsimp only [Pt.U, Pt.locs, Pt.cells, Pt.slots] at X' l' y' z' s' hQ
  subst l' y' z'
  obtain ⟨s₂, o, hs', r⟩ := k v T'.heap hQ T' _ X' rfl (N0.app N1)
  exact ⟨s₂, o, s'.trans hs', r⟩
/-- super.m(..) -/
theorem N.callU (C : Cx G K own nm bytes maxL ret W) {i : Nat} {C0 : String} (x : Addr) (argsL : List Value) (hd : decode bytes pc = .ok (.invokespecial i, 3)) (hy1 : y.name ≠ "<init>") (w1 : (Jvm.Cond.methodLink own i y).before G.a0 G.Z = true) (wf : (Jvm.Cond.selects C0 y0 y0).before G.a0 G.Z = true) (hf0 : y.cls = y0.cls) (w2 : (Jvm.Cond.instanceMethod y).before G.a0 G.Z = true) (ws : (Jvm.Cond.superclass own y.cls).before G.a0 G.Z = true) (w3 : (Jvm.Cond.initialized y.cls).before G.a0 G.Z = true) (w4 : (Jvm.Cond.code y bytes' maxL' ret').before G.a0 G.Z = true)
    (hy : y.cls ≠ "java/lang/invoke/MethodHandle" ∧ y.cls ≠ "java/lang/invoke/VarHandle") (E : Exa G.Z h x KK) (M : Con G y bytes' maxL' ret' rm' (.ref x :: argsL).toArray h R') (hlen : ∀ sig, parseMethodDescriptor y.desc = some sig → argsL.length = sig.parameters.length) (hsz : ls.size = maxL)
    (hf : rm'.frames + 1 ≤ rm.frames) (hl : (rest.map fun v => v.category).sum + (maxL' + 11) + rm'.locals ≤ rm.locals) (hc : a + rm'.cells ≤ rm.cells) (hs : b + rm'.slots ≤ rm.slots) (hst : stk = argsL.reverse ++ .ref x :: rest) (hp : pc + 3 = pc')
    (k : ∀ v h', R' v h' → NE G K rm Q h' (a + rm'.cells) (b + rm'.slots) pc' ls (v.toList ++ rest)) : NE G K rm Q h a b pc ls stk := fun T locs X e N0 => by
  subst hp
  obtain ⟨v, _, ⟨T', L', k', n'⟩, -, X', ⟨Lc, ⟨hQ, N1⟩, l', y', z'⟩, s'⟩ := superBack X C.hx C.hZ (y := y) C.ow w1 (sameSelf wf hf0 w2 hy) w2 ws hy1 (backOf (W := (rest.map fun v => v.category).sum) (Q := fun v h L => R' v h ∧ Fr G.n0 L) (M []) C.hZ w4 w3 hf hl) e (Ins.self E) (g := mkF K.m pc ls stk) rfl (by rw [C.ml]; exact hsz) w4 (argsL := argsL) (rest := rest) hlen hst (by show 2 * 0 + _ ≤ _; omega) (hb C.by hd) (fun _ _ => ⟨rfl, e, hc, hs⟩)
  dsimp only [Pt.U, Pt.locs, Pt.cells, Pt.slots] at X' l' y' z' s' hQ
  subst l' y' z'
  obtain ⟨s₂, o, hs', r⟩ := k v T'.heap hQ T' _ X' rfl (N0.app N1)
  exact ⟨s₂, o, s'.trans hs', r⟩
end CallsK
/-! a body that may intern -/
section Str
variable {EL : List (String × Nat)} {U : State} {ms : List Addr}
def EndS (G : Gx) (EL : List (String × Nat)) (U : State) (rm : Room) (Q : Option Value → Heap → Prop) : State → Outcome → Prop := fun s₂ o => ∃ v L, o = .returned v ∧ (Q v s₂.heap ∧ Fr G.n0 L) ∧ CHr G.Z EL U.vm U.heap s₂.vm s₂.heap ∧ ReturnedEndW U o s₂ L rm.cells rm.slots
abbrev NS (G : Gx) (K : Kx) (EL : List (String × Nat)) (U : State) (rm : Room) (Q : Option Value → Heap → Prop) (h : Heap) (cells slots pc : Nat) (ls : Array Slot) (st : List Value) : Prop := NE G K rm (EndS G EL U rm Q) h cells slots pc ls st
/-- where the tables at hand stand to the true start U; ms: what this walk may write -/
def EWK (G : Gx) (K : Kx) (U : State) (EL : List (String × Nat)) : Prop := EW G.Z G.a0 EL ∧ U.vm.MethodsKnown ∧ U.vm.FramesKnown K.below
def SX (G : Gx) (K : Kx) (EL : List (String × Nat)) (U : State) (h : Heap) (ms : List Addr) : Prop :=
  K.s = U.setVm K.s.vm ∧ (∃ k0, U.Since K.s.vm k0 ∧ k0 ≤ h.size) ∧ EWK G K U EL ∧ CHr G.Z EL U.vm U.heap K.s.vm h ∧ ∀ x ∈ ms, x < h.size ∧ Safe G.Z EL K.s.vm h x
theorem SX.ext {h' : Heap} (S : SX G K EL U h ms) (E : Ext h h') : SX G K EL U h' ms := by
  obtain ⟨s1, ⟨k0, s2, s3⟩, s4, s5, s6⟩ := S
  exact ⟨s1, ⟨k0, s2, Nat.le_trans s3 E.1⟩, s4, s5.trans (CHr.ext E s5.1), fun x hx => ⟨Nat.lt_of_lt_of_le (s6 x hx).1 E.1, (s6 x hx).2.ext E s5.1⟩⟩
theorem SX.born {h' : Heap} {x : Addr} (S : SX G K EL U h ms) (E : Ext h h') (hx : x = h.size) (hl : x < h'.size) : SX G K EL U h' (x :: ms) := by
  have S' := S.ext E
  obtain ⟨s1, ⟨k0, s2, s3⟩, s4, s5, s6⟩ := S'
  refine ⟨s1, ⟨k0, s2, s3⟩, s4, s5, fun y hy => ?_⟩
  rcases List.mem_cons.mp hy with rfl | hy
  · exact ⟨hl, Safe.ext E S.2.2.2.1.1 (Safe.new (Nat.le_of_eq hx.symm))⟩
  · exact s6 y hy
theorem SX.wr {h' : Heap} {x : Addr} {sl : Nat} {v : Value} (S : SX G K EL U h ms) (W : Wr h h' x sl v) (hx : x ∈ ms) : SX G K EL U h' ms := by
  obtain ⟨s1, ⟨k0, s2, s3⟩, s4, s5, s6⟩ := S
  have hz : h'.size = h.size := Wr.size W
  exact ⟨s1, ⟨k0, s2, by rw [hz]; exact s3⟩, s4, s5.trans (CHr.wr W (s6 x hx).2 s5.1), fun y hy => ⟨by rw [hz]; exact (s6 y hy).1, Safe.wr W (s6 x hx).2 s5.1 (s6 y hy).2⟩⟩
theorem SX.keep {h' : Heap} {ws : List Addr} (S : SX G K EL U h ms) (E : Keep h h' ws) (hx : ∀ x ∈ ws, x ∈ ms) : SX G K EL U h' ms := by
  obtain ⟨s1, ⟨k0, s2, s3⟩, s4, s5, s6⟩ := S
  have hs : ∀ x ∈ ws, Safe G.Z EL K.s.vm h x := fun x q => (s6 x (hx x q)).2
  exact ⟨s1, ⟨k0, s2, Nat.le_trans s3 E.1⟩, s4, s5.trans (CHr.keep E hs s5.1), fun y hy => ⟨Nat.lt_of_lt_of_le (s6 y hy).1 E.1, Safe.keep E hs s5.1 (s6 y hy).2⟩⟩
theorem SX.known (S : SX G K EL U h ms) : K.s.vm.MethodsKnown ∧ K.s.vm.FramesKnown K.below := by
  obtain ⟨s1, ⟨k0, s2, s3⟩, ⟨s4, s7, s8⟩, s5, s6⟩ := S
  exact ⟨Vm.MethodsKnown.alikeC s2.1.alike s7, Vm.FramesKnown.alikeC s2.1.alike s8⟩
theorem SX.keepNew {h' : Heap} {ws : List Addr} {x : Addr} (S : SX G K EL U h ms) (E : Keep h h' ws) (hx : ∀ x ∈ ws, x ∈ ms) (h0 : h.size ≤ x) (hl : x < h'.size) : SX G K EL U h' (x :: ms) := by
  have S' := S.keep E hx
  obtain ⟨s1, ⟨k0, s2, s3⟩, s4, s5, s6⟩ := S'
  refine ⟨s1, ⟨k0, s2, s3⟩, s4, s5, fun y hy => ?_⟩
  rcases List.mem_cons.mp hy with rfl | hy
  · exact ⟨hl, Safe.keep E (fun z q => (S.2.2.2.2 z (hx z q)).2) S.2.2.2.1.1 (Safe.new h0)⟩
  · exact s6 y hy
theorem SX.drop {ms' : List Addr} (S : SX G K EL U h ms) (hs : ∀ x ∈ ms', x ∈ ms) : SX G K EL U h ms' := ⟨S.1, S.2.1, S.2.2.1, S.2.2.2.1, fun x hx => S.2.2.2.2 x (hs x hx)⟩
def ConS (G : Gx) (EL : List (String × Nat)) (ms : List Addr) (y : MethodName) (bytes : ByteArray) (maxL : Nat) (ret : Option FieldType) (rm : Room) (as : Array Value) (h : Heap) (Q : Option Value → Heap → Prop) : Prop :=
  ∀ ws : List Jvm.Cond, MetFree G.l y (head1 (Jvm.Cond.code y bytes maxL ret :: ws) rm) (fun a U => a = as ∧ G.Z.Warmed39 U.vm ∧ U.heap = h ∧ CHv G.Z EL U.vm h ∧ ∀ x ∈ ms, x < h.size ∧ Safe G.Z EL U.vm h x) (fun _ _ bl s _ => s.vm.MethodsKnown ∧ s.vm.FramesKnown bl)
    (fun _ U o U' => ∃ v L, o = .returned v ∧ (Q v U'.heap ∧ Fr G.n0 L) ∧ CHr G.Z EL U.vm U.heap U'.vm U'.heap ∧ ReturnedEndW U o U' L rm.cells rm.slots)
theorem ConS.of {y : MethodName} {as : Array Value} {Q : Option Value → Heap → Prop} {ls : Array Slot} (hpl : plainFor y = true) (hW : ∀ d ∈ W, d.before G.a0 G.Z = true) (hEL : EW G.Z G.a0 EL)
    (he : ∀ m, entryFrame m as maxL = mkF m 0 ls []) (body : ∀ (K : Kx) (U : State), U.heap = h → Cx G K y.cls y.name bytes maxL ret W → SX G K EL U h ms → NS G K EL U rm Q h 0 0 0 ls []) : ConS G EL ms y bytes maxL ret rm as h Q := fun ws => by
  refine MetFree.of_bodySF hpl hisR ?_
  intro p e s m args below meth c s₁ Bd hml hP hK
  obtain ⟨rfl, hZ, hh, hC, hM⟩ := hP
  have X0 : Stand p G.l e rm s m args below meth c s₁ [] 0 0 := Stand.of_body Bd
  obtain ⟨s₂, o, h1, h2, h3, h4⟩ := body (p, e, s, m, args, below, meth, c) s hh ⟨Bd.exec, hZ, Bd.bytes, hml, findClass_of_methodNamed Bd.named, (name_of_methodNamed Bd.named Bd.method).1, Bd.returns, BodyLoose.notSynchronized Bd, hW⟩ ⟨rfl, ⟨0, (State.WarmedH.refl s).since 0, Nat.zero_le _⟩, ⟨hEL, hK⟩, by subst hh; exact CHr.refl hC, hM⟩ s₁ [] X0 (by rw [← hh, Bd.state]; rfl) (Fr.nil _)
  exact ⟨s₂, o, castTop (he m) h1, h2, h3, h4⟩
theorem SX.at (C : Cx G K own nm bytes maxL ret W) (S : SX G K EL U h ms) {T : State} {locs : List Loc} (X : Stand K.p G.l K.e rm K.s K.m K.args K.below K.meth K.c T locs a b) : CHr G.Z EL U.vm U.heap T.vm h ∧ ∀ x ∈ ms, x < h.size ∧ Safe G.Z EL T.vm h x := by
  have X' : Stand K.p G.l K.e rm (K.s.setVm K.s.vm) K.m K.args K.below K.meth K.c T locs a b := X
  have A := CHv.at X' C.hZ S.2.2.1.1 S.2.2.2.1.1
  exact ⟨S.2.2.2.1.trans A, fun x hx => ⟨(S.2.2.2.2 x hx).1, A.safe (S.2.2.2.2 x hx).1 (S.2.2.2.2 x hx).2⟩⟩
theorem N.leaveS (C : Cx G K own nm bytes maxL ret W) (S : SX G K EL U h ms) {T : State} {locs : List Loc} (X : Stand K.p G.l K.e rm K.s K.m K.args K.below K.meth K.c T locs a b) (e : T.heap = h) (N0 : Fr G.n0 locs) (ha : a ≤ rm.cells) (hb' : b ≤ rm.slots) {v : Option Value} (hv : K.meth.sig.returnType = none → v = none) (hq : Qv v h) :
    ∃ fs, (∀ (f : JFrame) (acts : List Action), f.method = K.m → f.locked = none → f.entered = [] → (doReturn K.e (T.setTop f) acts v).1 = T.setFrames fs) ∧ (T.setFrames fs).status = .running ∧ Ended (T.setFrames fs) K.below (.returned v) ∧ EndS G EL U rm Qv (T.setFrames fs) (.returned v) := by
  have A := (S.at C X).1
  obtain ⟨p, e', s, m, args, below, meth, c⟩ := K
  obtain ⟨s1, ⟨k0, s2, s3⟩, s4, s5, s6⟩ := S
  dsimp only [Kx.p, Kx.e, Kx.s, Kx.m, Kx.args, Kx.below, Kx.meth, Kx.c] at *
  generalize s.vm = vm0 at *
  subst s1
  obtain ⟨fs, hr', hrun, hended, hE⟩ := X.leaveW s2 (by rw [e]; exact s3) (v := v) hv (hlocks := C.lk)
  refine ⟨fs, hr', hrun, hended, v, locs, rfl, ⟨by show Qv v T.heap; rw [e]; exact hq, N0⟩, by show CHr G.Z EL U.vm U.heap T.vm T.heap; rw [e]; exact A, hE.1, hE.2.1, hE.2.2.1, hE.2.2.2.mono ha hb'⟩
theorem N.ret0S (C : Cx G K own nm bytes maxL ret W) (S : SX G K EL U h ms) (hr : ret = none) (hd : decode bytes pc = .ok (.return_, 1)) (ha : a ≤ rm.cells) (hb' : b ≤ rm.slots) (hq : Qv none h) : NS G K EL U rm Qv h a b pc ls [] := fun T locs X e N0 => by
  obtain ⟨fs, hr', hrun, hended, hE⟩ := N.leaveS C S X e N0 ha hb' (v := none) (fun _ => rfl) hq
  exact ⟨_, _, X.returnOut C.hx (C.rt.trans hr) (hb C.by hd) hr', hrun, hended, hE⟩
theorem N.retVS (C : Cx G K own nm bytes maxL ret W) (S : SX G K EL U h ms) {w : Value} {t : FieldType} {i : Instr} (hr : ret = some t) (hn : narrow t w = w)
    (hi : (i = .ireturn ∧ (t = .int ∨ t = .boolean ∨ t = .byte ∨ t = .char ∨ t = .short) ∧ ∃ z, w = .int z) ∨ (i = .lreturn ∧ t = .long ∧ ∃ z, w = .long z) ∨ (i = .dreturn ∧ t = .double ∧ ∃ z, w = .double z) ∨ (i = .freturn ∧ t = .float ∧ ∃ z, w = .float z) ∨ (i = .areturn ∧ t.isReference = true ∧ w.isRef = true))
    (hd : decode bytes pc = .ok (i, 1)) (ha : a ≤ rm.cells) (hb' : b ≤ rm.slots) (hq : Qv (some w) h) : NS G K EL U rm Qv h a b pc ls (w :: st) := fun T locs X e N0 => by
  obtain ⟨fs, hr', hrun, hended, hE⟩ := N.leaveS C S X e N0 ha hb' (v := some w) (fun q => by rw [C.rt, hr] at q; cases q) hq
  exact ⟨_, _, retOut X C.hx (C.rt.trans hr) hn hi (hb C.by hd) hr', hrun, hended, hE⟩
theorem N.retIS (C : Cx G K own nm bytes maxL (some .int) W) (S : SX G K EL U h ms) {z : Int32} (hd : decode bytes pc = .ok (.ireturn, 1)) (ha : a ≤ rm.cells) (hb' : b ≤ rm.slots) (hq : Qv (some (.int z)) h) : NS G K EL U rm Qv h a b pc ls (.int z :: st) :=
  N.retVS C S rfl rfl (Or.inl ⟨rfl, Or.inl rfl, z, rfl⟩) hd ha hb' hq
theorem N.retAS (C : Cx G K own nm bytes maxL (some t) W) (S : SX G K EL U h ms) {w : Value} (ht : t.isReference = true) (hw : w.isRef = true) (hd : decode bytes pc = .ok (.areturn, 1)) (ha : a ≤ rm.cells) (hb' : b ≤ rm.slots) (hq : Qv (some w) h) : NS G K EL U rm Qv h a b pc ls (w :: st) :=
  N.retVS C S rfl (by rcases ref_cases hw with rfl | ⟨z, rfl⟩ <;> cases t <;> first | rfl | (cases ht)) (Or.inr (Or.inr (Or.inr (Or.inr ⟨rfl, ht, hw⟩)))) hd ha hb' hq
theorem N.retNS (C : Cx G K own nm bytes maxL (some t) W) (S : SX G K EL U h ms) {z z' : Int32} (ht : t = .boolean ∨ t = .byte ∨ t = .char ∨ t = .short) (hz : nar t z = z') (hd : decode bytes pc = .ok (.ireturn, 1)) (ha : a ≤ rm.cells) (hb' : b ≤ rm.slots) (hq : Qv (some (.int z')) h) : NS G K EL U rm Qv h a b pc ls (.int z :: st) := fun T locs X e N0 => by
  subst hz
  obtain ⟨fs, hr', hrun, hended, hE⟩ := N.leaveS C S X e N0 ha hb' (v := some (.int (nar t z))) (fun q => by rw [C.rt] at q; cases q) hq
  exact ⟨_, _, Jvm.RoadKit.retN X C.hx C.rt ht (hb C.by hd) hr', hrun, hended, hE⟩
/-- ldc of a String constant of EL, read -/
theorem N.ldcS (C : Cx G K own nm bytes maxL ret W) (S : SX G K EL U h ms) {i : Nat} {text : String} {vs : List Value} (n : Nat) (hd : decode bytes pc = .ok (.ldc i, 2)) (w : (Jvm.Cond.stringLink own i text).before G.a0 G.Z = true) (wS : ∀ d ∈ Bundle.stringAtoms, d.before G.a0 G.Z = true) (hmem : (own, i) ∈ EL)
    (ht : (∀ c ∈ text.toList, c.toNat < 256) ∧ text.toList.map (fun c => Value.int (Jvm.Lit.byteI c.toNat.toUInt16)) = vs) {z : Int32} (hz : ¬ z < 0) (hl : z.toNatClampNeg = vs.length) (hn : 4 * text.toList.length ≤ n) (hbig : n ≤ 536870912) (hc : a + 2 ≤ rm.cells) (hs : b + (n + 4) ≤ rm.slots) (hp : pc + 2 = pc')
    (k : ∀ (K : Kx) (h' : Heap) (x y : Addr), Cx G K own nm bytes maxL ret W → SX G K EL U h' ms → Ext h h' → Exa G.Z h' x "java/lang/String" → Fld G.Z h' x "java/lang/String" "coder" "B" (.int 0) → Fld G.Z h' x "java/lang/String" "value" "[B" (.ref y) → Av G.Z h' y .byte vs → (∀ q ∈ ms, q ≠ x ∧ q ≠ y) → NE G K rm Q h' (a + 2) (b + (n + 4)) pc' ls (.ref x :: st)) : NE G K rm Q h a b pc ls st := fun T locs X e N0 => by
  subst hp
  obtain ⟨p, e', s, m, args, below, meth, c⟩ := K
  obtain ⟨s1, ⟨k0, s2, s3⟩, s4, s5, s6⟩ := S
  have hZ := C.hZ
  have how := C.ow
  have hbb := C.by
  have hxx := C.hx
  dsimp only [Kx.p, Kx.e, Kx.s, Kx.m, Kx.args, Kx.below, Kx.meth, Kx.c] at *
  generalize hv : s.vm = vm0 at *
  subst s1
  obtain ⟨x, T', h', k1, y, kk, X', eh', E, hS', hk', hW, how', EX, FC, FV, AV, -, -, hC', -, hne, st'⟩ := ldcCH X hxx hZ how w wS e s2 s3 s4.1 hmem s5.1 ht hz hl (g := mkF m pc ls st) rfl (hb hbb hd) hn hbig hc hs
  have hA : Av G.Z h' y .byte vs := by
    obtain ⟨cl, A, -, h2, h3, h4, -⟩ := AV
    refine ⟨cl, A, List.ext_getElem? fun j => ?_⟩
    by_cases q : j < vs.length
    · have := h4 j (by omega)
      simpa [List.getElem?_eq_getElem q] using this
    · rw [List.getElem?_eq_none (by simp; omega), List.getElem?_eq_none (by omega)]
  obtain ⟨s₂, o, hs', r⟩ := k (p, e', U.setVm T'.vm, m, args, below, meth, c) h' x y ⟨hxx, hW, hbb, C.ml, how', C.name, C.rt, C.lk, C.2.2.2.2.2.2.2.2⟩ ⟨rfl, ⟨k1, hS', hk'⟩, s4, s5.trans hC', fun q hq => ⟨Nat.lt_of_lt_of_le (s6 q hq).1 E.1, hC'.safe (s6 q hq).1 (s6 q hq).2⟩⟩ E EX FC FV hA (fun q hq => hne q (hC'.safe (s6 q hq).1 (s6 q hq).2)) T' locs X' eh' N0
  exact ⟨s₂, o, st' _ hs', r⟩
section CallsS
variable {y : MethodName} {bytes' : ByteArray} {maxL' : Nat} {ret' : Option FieldType} {rm' : Room} {as : Array Value} {R' : Option Value → Heap → Prop} {stk rest : List Value} {mc : List Addr}
theorem backS {p : Program} {e : Env} {R : Room} {below : List Frame} {s : State} {vm0 : Vm} {args : Array Value} {len W : Nat} (M : ConS G EL mc y bytes' maxL' ret' rm' as h R')
    (hZ : G.Z.Warmed39 vm0) (wc : (Jvm.Cond.code y bytes' maxL' ret').before G.a0 G.Z = true) (wz : (Jvm.Cond.initialized y.cls).before G.a0 G.Z = true) (hf : rm'.frames + 1 ≤ R.frames) (hl : W + (maxL' + 11) + rm'.locals ≤ R.locals) (hEL : EW G.Z G.a0 EL) (H : CHv G.Z EL vm0 h) (hS : ∀ x ∈ mc, x < h.size ∧ Safe G.Z EL vm0 h x) (hTK : vm0.MethodsKnown) (hBelow : vm0.FramesKnown below) :
    BackS G.l R p e below (s.setVm vm0) args y len W (fun A a => a = as ∧ A.U.heap = h ∧ A.cells + rm'.cells ≤ R.cells ∧ A.slots + rm'.slots ≤ R.slots)
      (fun A _ v B => ∃ L, (R' v B.U.heap ∧ Fr G.n0 L) ∧ B.locs = A.locs ++ L ∧ B.cells = A.cells + rm'.cells ∧ B.slots = A.slots + rm'.slots ∧ CHr G.Z EL vm0 h B.U.vm B.U.heap) :=
  BackS.of_freeWG (bytes := bytes') (maxL := maxL') (ret := ret') (E := fun _ first o t L k n => k = rm'.cells ∧ n = rm'.slots ∧ (∃ v, o = .returned v ∧ (R' v t.heap ∧ Fr G.n0 L)) ∧ CHr G.Z EL first.vm first.heap t.vm t.heap) (M []) hf hl
    (fun m meth c A a Y hp => have hU : G.Z.Warmed39 A.U.vm := wtrans (s := s.setVm vm0) hZ Y.warmed
      ⟨by show (Cond.and _ .tt).before a A.U = true; rw [Cond.before_and, mv hU wc]; rfl, mv hU wc, mv hU wz, hp.2.2.1, hp.2.2.2⟩)
    (fun m meth c A a g mk Y hp => have B := CHv.at Y hZ hEL H
      ⟨hp.1, wtrans (s := s.setVm vm0) hZ Y.warmed, hp.2.1, B.1, fun x hx => ⟨(hS x hx).1, B.safe (hS x hx).1 (hS x hx).2⟩⟩) (fun m meth c A a g mk Y _ hg => known_frames Y hg hTK hBelow)
    (fun _ _ _ _ ⟨v, L, h1, h2, h3, h4⟩ => ⟨L, _, _, h4, rfl, rfl, ⟨v, h1, h2⟩, h3⟩)
    (fun m meth c A a g mk v t L k n Y hp _ _ ⟨e1, e2, ⟨v', e3, e4⟩, e5⟩ => by
      cases e3; subst e1 e2
      refine ⟨L, e4, rfl, rfl, rfl, (CHv.at Y hZ hEL H).trans ?_⟩
      rw [← hp.2.1]; exact e5)
/-- what stands behind such a call -/
theorem SX.back {vm0 vm1 : Vm} {p : Program} {e : Env} {m : MethodId} {args : Array Value} {below : List Frame} {meth : Method} {c : Code} {h' : Heap} (C : Cx G (p, e, U.setVm vm0, m, args, below, meth, c) own nm bytes maxL ret W) (S : SX G (p, e, U.setVm vm0, m, args, below, meth, c) EL U h ms) (h2 : (U.setVm vm0).Since vm1 h'.size) (hg : h.size ≤ h'.size) (hC : CHr G.Z EL vm0 h vm1 h') :
    Cx G (p, e, U.setVm vm1, m, args, below, meth, c) own nm bytes maxL ret W ∧ SX G (p, e, U.setVm vm1, m, args, below, meth, c) EL U h' ms := by
  obtain ⟨s1, ⟨k0, s2, s3⟩, s4, s5, s6⟩ := S
  refine ⟨⟨C.hx, State.Warmed39.trans C.hZ h2.1, C.by, C.ml, (h2.1.alike.findClass _ _).trans C.ow, C.name, C.rt, C.lk, C.2.2.2.2.2.2.2.2⟩, rfl, ⟨h'.size, s2.trans h2 (Nat.le_trans s3 hg), Nat.le_refl _⟩, s4, s5.trans hC, fun q hq => ⟨Nat.lt_of_lt_of_le (s6 q hq).1 hg, hC.safe (s6 q hq).1 (s6 q hq).2⟩⟩
theorem N.callSS (C : Cx G K own nm bytes maxL ret W) (S : SX G K EL U h ms) {i : Nat} (argsL : List Value) (hd : decode bytes pc = .ok (.invokestatic i, 3)) (w1 : (Jvm.Cond.methodLink own i y).before G.a0 G.Z = true) (w2 : (Jvm.Cond.static y).before G.a0 G.Z = true) (w3 : (Jvm.Cond.initialized y.cls).before G.a0 G.Z = true) (w4 : (Jvm.Cond.code y bytes' maxL' ret').before G.a0 G.Z = true)
    (hy : y.cls ≠ "java/lang/invoke/MethodHandle" ∧ y.cls ≠ "java/lang/invoke/VarHandle") (hm : ∀ x ∈ mc, x ∈ ms) (M : ConS G EL mc y bytes' maxL' ret' rm' argsL.toArray h R') (hlen : ∀ sig, parseMethodDescriptor y.desc = some sig → argsL.length = sig.parameters.length) (hsz : ls.size = maxL)
    (hf : rm'.frames + 1 ≤ rm.frames) (hl : (rest.map fun v => v.category).sum + (maxL' + 11) + rm'.locals ≤ rm.locals) (hc : a + rm'.cells ≤ rm.cells) (hs : b + rm'.slots ≤ rm.slots) (hst : stk = argsL.reverse ++ rest) (hp : pc + 3 = pc')
    (k : ∀ (K : Kx) v h', Cx G K own nm bytes maxL ret W → SX G K EL U h' ms → R' v h' → NE G K rm Q h' (a + rm'.cells) (b + rm'.slots) pc' ls (v.toList ++ rest)) : NE G K rm Q h a b pc ls stk := fun T locs X e N0 => by
  subst hp
  obtain ⟨p, e', s, m, args, below, meth, c⟩ := K
  obtain ⟨vm0, hv⟩ : ∃ v, s = U.setVm v := ⟨_, S.1⟩
  subst hv
  obtain ⟨v, _, ⟨T', L', k', n'⟩, -, X', hS', hg', ⟨Lc, ⟨hQ, N1⟩, l', y', z', hC'⟩, s'⟩ := Jvm.RoadKit.callSS X C.hx (y := y) C.ow (mvT C.hZ w1) (mvT C.hZ w2) (mvT C.hZ w3) (mvT C.hZ w4) hy (backS (W := (rest.map fun v => v.category).sum) M C.hZ w4 w3 hf hl S.2.2.1.1 S.2.2.2.1.1 (fun x hx => S.2.2.2.2 x (hm x hx)) S.known.1 S.known.2) (g := mkF m pc ls stk) rfl (by rw [← C.ml] at hsz; exact hsz) (argsL := argsL) (rest := rest) hlen hst (by show 2 * 0 + _ ≤ _; omega) (hb C.by hd) (fun _ _ => ⟨rfl, e, hc, hs⟩)
  dsimp only [Pt.U, Pt.locs, Pt.cells, Pt.slots] at X' l' y' z' s' hQ hS' hg' hC'
  subst l' y' z'
  obtain ⟨C', S'⟩ := SX.back C S hS' (by rw [← e]; exact hg') hC'
  obtain ⟨s₂, o, hs', r⟩ := k _ v T'.heap C' S' hQ T' _ X' rfl (N0.app N1)
  exact ⟨s₂, o, s'.trans hs', r⟩
theorem N.callIS (C : Cx G K own nm bytes maxL ret W) (S : SX G K EL U h ms) {i : Nat} (x : Addr) (argsL : List Value) (hd : decode bytes pc = .ok (.invokespecial i, 3)) (hy1 : y.name = "<init>") (w1 : (Jvm.Cond.methodLink own i y).before G.a0 G.Z = true) (w2 : (Jvm.Cond.instanceMethod y).before G.a0 G.Z = true) (w3 : (Jvm.Cond.initialized y.cls).before G.a0 G.Z = true) (w4 : (Jvm.Cond.code y bytes' maxL' none).before G.a0 G.Z = true)
    (hy : y.cls ≠ "java/lang/invoke/MethodHandle" ∧ y.cls ≠ "java/lang/invoke/VarHandle") (hm : ∀ x ∈ mc, x ∈ ms) (M : ConS G EL mc y bytes' maxL' none rm' (.ref x :: argsL).toArray h R') (hlen : ∀ sig, parseMethodDescriptor y.desc = some sig → argsL.length = sig.parameters.length) (hsz : ls.size = maxL)
    (hf : rm'.frames + 1 ≤ rm.frames) (hl : (rest.map fun v => v.category).sum + (maxL' + 11) + rm'.locals ≤ rm.locals) (hc : a + rm'.cells ≤ rm.cells) (hs : b + rm'.slots ≤ rm.slots) (hst : stk = argsL.reverse ++ .ref x :: rest) (hp : pc + 3 = pc')
    (k : ∀ (K : Kx) v h', Cx G K own nm bytes maxL ret W → SX G K EL U h' ms → R' v h' → NE G K rm Q h' (a + rm'.cells) (b + rm'.slots) pc' ls (v.toList ++ rest)) : NE G K rm Q h a b pc ls stk := fun T locs X e N0 => by
  subst hp
  obtain ⟨p, e', s, m, args, below, meth, c⟩ := K
  obtain ⟨vm0, hv⟩ : ∃ v, s = U.setVm v := ⟨_, S.1⟩
  subst hv
  obtain ⟨v, _, ⟨T', L', k', n'⟩, -, X', hS', hg', ⟨Lc, ⟨hQ, N1⟩, l', y', z', hC'⟩, s'⟩ := X.specialBackS C.hx (y := y) hy1 C.ow (mvT C.hZ w1) (mvT C.hZ w2) (mvT C.hZ w4) hy (backS (W := (rest.map fun v => v.category).sum) M C.hZ w4 w3 hf hl S.2.2.1.1 S.2.2.2.1.1 (fun x hx => S.2.2.2.2 x (hm x hx)) S.known.1 S.known.2) (g := mkF m pc ls stk) rfl (by rw [← C.ml] at hsz; exact hsz) (Steps.refl _) (a := x) (argsL := argsL) (rest := rest) hlen hst (by show 2 * 0 + _ ≤ _; omega) (hb C.by hd) (fun _ _ => ⟨rfl, e, hc, hs⟩)
  dsimp only [Pt.U, Pt.locs, Pt.cells, Pt.slots] at X' l' y' z' s' hQ hS' hg' hC'
  subst l' y' z'
  obtain ⟨C', S'⟩ := SX.back C S hS' (by rw [← e]; exact hg') hC'
  obtain ⟨s₂, o, hs', r⟩ := k _ v T'.heap C' S' hQ T' _ X' rfl (N0.app N1)
  exact ⟨s₂, o, s'.trans hs', r⟩
theorem N.callVS (C : Cx G K own nm bytes maxL ret W) (S : SX G K EL U h ms) {i : Nat} (x : Addr) (argsL : List Value) (hd : decode bytes pc = .ok (.invokevirtual i, 3)) (w1 : (Jvm.Cond.methodLink own i y).before G.a0 G.Z = true) (wd : (Jvm.Cond.declares y).before G.a0 G.Z = true) (ws : (Jvm.Cond.selects y.cls y y).before G.a0 G.Z = true) (w2 : (Jvm.Cond.instanceMethod y).before G.a0 G.Z = true) (w3 : (Jvm.Cond.initialized y.cls).before G.a0 G.Z = true) (w4 : (Jvm.Cond.code y bytes' maxL' ret').before G.a0 G.Z = true)
    (hy : y.cls ≠ "java/lang/invoke/MethodHandle" ∧ y.cls ≠ "java/lang/invoke/VarHandle") (E : Exa G.Z h x y.cls) (hm : ∀ x ∈ mc, x ∈ ms) (M : ConS G EL mc y bytes' maxL' ret' rm' (.ref x :: argsL).toArray h R') (hlen : ∀ sig, parseMethodDescriptor y.desc = some sig → argsL.length = sig.parameters.length) (hsz : ls.size = maxL)
    (hf : rm'.frames + 1 ≤ rm.frames) (hl : (rest.map fun v => v.category).sum + (maxL' + 11) + rm'.locals ≤ rm.locals) (hc : a + rm'.cells ≤ rm.cells) (hs : b + rm'.slots ≤ rm.slots) (hst : stk = argsL.reverse ++ .ref x :: rest) (hp : pc + 3 = pc')
    (k : ∀ (K : Kx) v h', Cx G K own nm bytes maxL ret W → SX G K EL U h' ms → R' v h' → NE G K rm Q h' (a + rm'.cells) (b + rm'.slots) pc' ls (v.toList ++ rest)) : NE G K rm Q h a b pc ls stk := fun T locs X e N0 => by
  subst hp
  obtain ⟨cq, kq, qa, qb, qc⟩ := isOf C.hZ e E
  obtain ⟨p, e', s, m, args, below, meth, c⟩ := K
  obtain ⟨vm0, hv⟩ : ∃ v, s = U.setVm v := ⟨_, S.1⟩
  subst hv
  obtain ⟨v, _, ⟨T', L', k', n'⟩, -, X', hS', hg', ⟨Lc, ⟨hQ, N1⟩, l', y', z', hC'⟩, s'⟩ := X.virtualBackS C.hx (y := y) (z := y) C.ow (mvT C.hZ w1) (mvT C.hZ wd) (notFace_of_selects (args := #[]) (mvT C.hZ ws)) (mvT C.hZ ws) (mvT C.hZ w2) hy (backS (W := (rest.map fun v => v.category).sum) M C.hZ w4 w3 hf hl S.2.2.1.1 S.2.2.2.1.1 (fun x hx => S.2.2.2.2 x (hm x hx)) S.known.1 S.known.2) qa qc (g := mkF m pc ls stk) rfl (by rw [← C.ml] at hsz; exact hsz) (Steps.refl _) (argsL := argsL) (rest := rest) hlen hst (by show 2 * 0 + _ ≤ _; omega) (hb C.by hd) (fun _ _ => ⟨rfl, e, hc, hs⟩)
  dsimp only [Pt.U, Pt.locs, Pt.cells, Pt.slots] at X' l' y' z' s' hQ hS' hg' hC'
  subst l' y' z'
  obtain ⟨C', S'⟩ := SX.back C S hS' (by rw [← e]; exact hg') hC'
  obtain ⟨s₂, o, hs', r⟩ := k _ v T'.heap C' S' hQ T' _ X' rfl (N0.app N1)
  exact ⟨s₂, o, s'.trans hs', r⟩
end CallsS

/-- the one word of the library's list that the table lacks -/
def misW : Jvm.Cond := .lays tN tN "suppressedExceptions" listD
theorem thrT {args : Array Value} {s : State} {pl : Platform} {rc : String} (hrc : rc ≠ tN) (howns : pl.frameOwnsMonitors = true) (hfin : pl.finalization = false) (hpl : pl.magicAccessors = ({} : Platform).magicAccessors) (Wd : ∀ d ∈ excAtoms rc, d = misW ∨ d.before args s = true) :
    ∃ T : ThrowableC, T.Links pl s ∧ s.vm.findClass tN = some T.cT ∧ s.methodNamed? tFill = some T.fill ∧ s.methodNamed? tFill0 = some T.fill0 ∧ s.fieldFound? tN "stackTrace" steD = some (T.cT, T.kT, T.i17, T.fStack) ∧ s.fieldFound? tN "UNASSIGNED_STACK" steD = some (T.cT, T.kT, T.i13, T.fUnassigned) ∧ T.fStack.name = "stackTrace" ∧ T.fStack.type = .array (.object "java/lang/StackTraceElement") := by
  have w : ∀ d, d ∈ excAtoms rc → d ≠ misW → d.holds args s none s [] = true := fun d hd q => (Wd d hd).resolve_left q
  -- the class, and its native method
  obtain ⟨⟨c, i0⟩, mN, nN, qN, natN, codN, lokN, sigN⟩ := Cond.native_spec (w (.native tFill0) (by simp [excAtoms, throwableAtoms]) (by simp [misW]))
  have hc : s.vm.findClass tN = some c := findClass_of_methodNamed nN
  obtain ⟨k, hk, hname⟩ := Vm.findClass_spec hc
  have hini := Cond.initialized_spec hc hk (w (.initialized tN) (by simp [excAtoms, throwableAtoms]) (by simp [misW]))
  obtain ⟨_, k1, _, _, hk1, _, _, _, _, hni⟩ := Cond.superclass_spec hc (w (.superclass tN "java/lang/Object") (by simp [excAtoms, throwableAtoms]) (by simp [misW]))
  cases hk.symm.trans hk1
  obtain ⟨_, mN', nN', qN', atN, stN, abN, nmN, dsN⟩ := Cond.ownMethod (x := tFill0) hc hk (w (.instanceMethod tFill0) (by simp [excAtoms, throwableAtoms]) (by simp [misW]))
  cases nN.symm.trans nN'
  cases qN.symm.trans qN'
  -- fillInStackTrace()
  obtain ⟨iF, mF, nF, qF, atF, stF, abF, -, -⟩ := Cond.ownMethod (x := tFill) hc hk (w (.instanceMethod tFill) (by simp [excAtoms, throwableAtoms]) (by simp [misW]))
  obtain ⟨mF', cF, qF', codF, byF, loF, reF, lkF, -, sigF⟩ := Cond.codeSync_spec nF (w (.codeSync tFill LibCode.Throwable.Fill.code 1 (some (.object tN))) (by simp [excAtoms, throwableAtoms]) (by simp [misW]))
  cases qF.symm.trans qF'
  -- Object's constructor; Throwable()
  obtain ⟨iZ, mZ, nZ, qZ, atZ, -, -, -, -⟩ := Cond.ownMethod (x := tInit0) hc hk (w (.instanceMethod tInit0) (by simp [excAtoms, throwableAtoms]) (by simp [misW]))
  obtain ⟨mZ', cZ, qZ', codZ, byZ, loZ, -, lkZ, -, -⟩ := Cond.code_spec nZ (w (.code tInit0 LibCode.Throwable.Init0.code 1 none) (by simp [excAtoms, throwableAtoms]) (by simp [misW]))
  cases qZ.symm.trans qZ'
  obtain ⟨oM, oX, oN, oQ, oS, oA⟩ := Cond.instanceMethod_spec (w (.instanceMethod oInit) (by simp [excAtoms, throwableAtoms]) (by simp [misW]))
  obtain ⟨oX', oC, oQ', oK, oB, -, -, oL, -, oG⟩ := Cond.code_spec oN (w (.code oInit ⟨#[0xb1]⟩ 1 none) (by simp [excAtoms, throwableAtoms]) (by simp [misW]))
  cases oQ.symm.trans oQ'
  obtain ⟨kO, hkO, hnO⟩ := Vm.findClass_spec (findClass_of_methodNamed oN)
  obtain ⟨oNm, oDs⟩ := name_of_methodNamed oN oQ
  -- the links
  obtain ⟨c1, n1, cf, l1, r1, f1, p1⟩ := Cond.linkedMethod hc hk oN (w (.methodLink tN 1 oInit) (by simp [excAtoms, throwableAtoms]) (by simp [misW])) pl hpl
  obtain ⟨c27, n27, cf2, l27, r27, f27, p27⟩ := Cond.linkedMethod hc hk nF (w (.methodLink tN 27 tFill) (by simp [excAtoms, throwableAtoms]) (by simp [misW])) pl hpl
  cases f1.symm.trans f27
  obtain ⟨c202, n202, cf3, l202, r202, f202, p202⟩ := Cond.linkedMethod hc hk nN (w (.methodLink tN 202 tFill0) (by simp [excAtoms, throwableAtoms]) (by simp [misW])) pl hpl
  cases f1.symm.trans f202
  -- the fields
  obtain ⟨c7, i7, f7, k7, g7, a7, s7, t7, -, -, -⟩ := Cond.ownField (t := .object tN) hc hk (by decide +kernel) (w (.fieldLink tN 7 tN "cause" "Ljava/lang/Throwable;") (by simp [excAtoms, throwableAtoms]) (by simp [misW])) (w (.lays tN tN "cause" "Ljava/lang/Throwable;") (by simp [excAtoms, throwableAtoms]) (by simp [misW])) pl hpl
  obtain ⟨c17, i17, f17, k17, g17, a17, s17, t17, nm17, ty17, ff17⟩ := Cond.ownField (t := .array (.object "java/lang/StackTraceElement")) hc hk (by decide +kernel) (w (.fieldLink tN 17 tN "stackTrace" steD) (by simp [excAtoms, throwableAtoms]) (by simp [misW])) (w (.lays tN tN "stackTrace" steD) (by simp [excAtoms, throwableAtoms]) (by simp [misW])) pl hpl
  obtain ⟨c24, i24, f24, k24, g24, a24, s24, t24, nm24, -, ff24⟩ := Cond.ownField (C' := rc) (t := .object "java/util/List") hc hk (by decide +kernel) (w (.fieldLink tN 24 tN "suppressedExceptions" listD) (by simp [excAtoms, throwableAtoms]) (by simp [misW])) (w (.lays rc tN "suppressedExceptions" listD) (by simp [excAtoms]) (by simp [misW, hrc])) pl hpl
  obtain ⟨c13, i13, f13, aS, cS, k13, g13, a13, s13, -, -, sta, -, -, -, -, ff13⟩ := Cond.ownStatic (t := .array (.object "java/lang/StackTraceElement")) hc hk (by decide +kernel) (w (.fieldLink tN 13 tN "UNASSIGNED_STACK" steD) (by simp [excAtoms, throwableAtoms]) (by simp [misW])) (w (.laysStatic tN "UNASSIGNED_STACK" steD) (by simp [excAtoms, throwableAtoms]) (by simp [misW])) pl hpl
  obtain ⟨c20, i20, f20, _, _, k20, g20, a20, s20, -⟩ := Cond.ownStatic (t := .object "java/util/List") hc hk (by decide +kernel) (w (.fieldLink tN 20 tN "SUPPRESSED_SENTINEL" listD) (by simp [excAtoms, throwableAtoms]) (by simp [misW])) (w (.laysStatic tN "SUPPRESSED_SENTINEL" listD) (by simp [excAtoms, throwableAtoms]) (by simp [misW])) pl hpl
  obtain ⟨_, _, _, _, _, fM, _, _, _, sM, tM, _⟩ := Cond.lays_spec (w (.lays tN tN "detailMessage" "Ljava/lang/String;") (by simp [excAtoms, throwableAtoms]) (by simp [misW]))
  -- stackTrace and suppressedExceptions lie apart: by the layout of rc
  obtain ⟨cR, kR, _, _, _, _, hcR, hkR, _⟩ := Cond.lays_spec (w (.lays rc tN "stackTrace" steD) (by simp [excAtoms]) (by simp [misW]))
  obtain ⟨_, d17, hd17, hn17⟩ := Cond.laysAt hcR hkR ff17 (w (.lays rc tN "stackTrace" steD) (by simp [excAtoms]) (by simp [misW]))
  obtain ⟨_, d24, hd24, hn24⟩ := Cond.laysAt hcR hkR ff24 (w (.lays rc tN "suppressedExceptions" listD) (by simp [excAtoms]) (by simp [misW, hrc]))
  have apart := Cond.laysApart hd17 hd24 hn17 hn24 (by rw [nm17, nm24]; decide)
  have pF : mF.sig.parameters = [] := by
    have q : (parseMethodDescriptor tFill.desc).map (·.parameters) = some [] := by decide +kernel
    rw [sigF] at q; simpa using q
  have pN : mN.sig.parameters = [.int] := by
    have q : (parseMethodDescriptor tFill0.desc).map (·.parameters) = some [.int] := by decide +kernel
    rw [sigN] at q; simpa using q
  have pO : oX.sig.parameters.length = 0 := by
    have q : (parseMethodDescriptor oInit.desc).map (·.parameters) = some [] := by decide +kernel
    rw [oG] at q
    have q2 : oX.sig.parameters = [] := by simpa using q
    rw [q2]; rfl
  refine ⟨{ cT := c, kT := k, cO := c, aS := aS, fillIdx := iF, fill0Idx := i0, initSIdx := iZ, obj := oM, kObj := kO, methFill := mF, methFill0 := mN, methInitS := mZ, methObj := oX, codeFill := cF, codeInitS := cZ, codeObj := oC, fBack := f7, fDepth := f7, fStack := f17, fCause := f7, fSupp := f24, fMsg := fM, fUnassigned := f13, fSentinel := f20, cfT := cf, ci1 := c1, n1 := n1, ci27 := c27, n27 := n27, ci202 := c202, n202 := n202, ci7 := c7, i7 := i7, ci13 := c13, i13 := i13, ci17 := c17, i17 := i17, ci20 := c20, i20 := i20, ci24 := c24, i24 := i24 }, ?_, hc, nF, nN, ff17, ff13, nm17, ty17⟩
  exact { owns := howns, noFinalization := hfin, cls := hk, name := hname, boot := Vm.findClass_boot hc hk, notInterface := hni, initialized := hini, statics := sta, fillAt := atF, fillCode := codF, fillBytes := byF, fillLocals := loF, fillLocks := lkF, fillStatic := stF, fillAbstract := abF, fillReturns := reF, fillParams := pF, fill0At := atN, fill0Name := nmN, fill0Desc := dsN, fill0Params := pN, fill0Static := stN, fill0Native := natN, fill0Code := codN, fill0Locks := lokN, fill0Abstract := abN, stackInstance := s17, stackNotFinal := t17, unassignedStatic := s13, objClass := hkO, objClassName := hnO, objMethod := oQ, objName := oNm, objStatic := oS, objAbstract := oA, objFound := by rw [oDs]; exact lookupSpecial_of_named oN oQ oS, objParams := pO, objCode := oK, objBytes := oB, objLocks := oL, causeInstance := s7, causeNotFinal := t7, sentinelStatic := s20, suppInstance := s24, suppNotFinal := t24, msgInstance := sM, msgNotFinal := tM, stackApartSupp := apart, file := f1, mlink1 := l1, mright1 := r1, pool1 := p1, mlink27 := l27, mright27 := r27, pool27 := p27, mlink202 := l202, mright202 := r202, pool202 := p202, link7 := k7, right7 := g7, at7 := a7, link13 := k13, right13 := g13, at13 := a13, link17 := k17, right17 := g17, at17 := a17, link20 := k20, right20 := g20, at20 := a20, link24 := k24, right24 := g24, at24 := a24 }
theorem ffOf {Z s : State} {C n d : String} {c i : Nat} {k : Class} {f : Field} (hal : Z.vm.Alike s.vm) (h : Z.fieldFound? C n d = some (c, k, i, f)) : ∃ k', s.fieldFound? C n d = some (c, k', i, f) ∧ k'.statics = k.statics := by
  obtain ⟨k', h1, h2⟩ := State.fieldFound?_setVm hal h
  exact ⟨k', h1, by rw [h2]⟩
/-- x.fillInStackTrace() on an object of this walk, in a constructor of Throwable -/
theorem N.fill (C : Cx G K own nm bytes maxL ret W) (S : SX G K EL U h ms) (hl : G.l.stackTraces = true) {rc : String} {x us : Addr} {ic n : Nat} (hrc : rc ≠ tN) (hd : decode bytes pc = .ok (.invokevirtual ic, 3)) (w1 : (Jvm.Cond.methodLink own ic tFill).before G.a0 G.Z = true)
    (Wx : ∀ d ∈ excAtoms rc, d = misW ∨ d.before G.a0 G.Z = true) (wi : (Jvm.Cond.instantiable rc n).before G.a0 G.Z = true) (hT0 : ThS G.Z U.heap) (E : Exa G.Z h x rc) (Nx : Unt h x) (Fs : Fld G.Z h x tN "stackTrace" steD (.ref us)) (Su : Sta G.Z h tN "UNASSIGNED_STACK" steD (.ref us)) (Fb : Fld G.Z h x tN "backtrace" obD .null) (Fm : Fld G.Z h x tN "detailMessage" msgD .null)
    (hx : x ∈ ms) (gx : G.n0 ≤ x) (hsz : ls.size = maxL) (hf : 3 ≤ rm.frames) (hlo : (st.map fun v => v.category).sum + 42 ≤ rm.locals) (hc : a + 1 ≤ rm.cells) (hs : b + 2752 ≤ rm.slots) (hp : pc + 3 = pc')
    (k : ∀ h', Keep h h' [x] → SX G K EL U h' ms → Fld G.Z h' x tN "detailMessage" msgD .null → NE G K rm Q h' (a + 1) (b + 2752) pc' ls (.ref x :: st)) : NE G K rm Q h a b pc ls (.ref x :: st) := fun T locs X e N0 => by
  subst hp
  have hTs : ThS G.Z K.s.heap := by
    have e1 : K.s.heap = U.heap := by rw [S.1]; rfl
    rw [e1]; exact hT0
  have Ws : ∀ d ∈ excAtoms rc, d = misW ∨ d.before K.args K.s = true := fun d hd => (Wx d hd).imp id (fun w => mvX hTs C.hZ (List.all_eq_true.mp exc_ok d hd) w)
  have w : ∀ d, d ∈ excAtoms rc → d ≠ misW → d.before K.args K.s = true := fun d hd q => (Ws d hd).resolve_left q
  have howns : K.e.platform.frameOwnsMonitors = true := by rw [X.admits.platform]
  have hfin : K.e.platform.finalization = false := by rw [X.admits.platform]
  have hpl : K.e.platform.magicAccessors = ({} : Platform).magicAccessors := by rw [X.admits.platform]
  have htr : K.e.platform.stackTraces = true := by rw [X.admits.platform]; exact hl
  obtain ⟨Tc, L, hfound, hfillN, hfill0, hff, hfu, hnS, htyS⟩ := thrT hrc howns hfin hpl Ws
  have E0 := E
  obtain ⟨cell, kc, e1, e2, e3, e4, e5⟩ := E
  obtain ⟨cell', n1, n2, n3⟩ := Nx
  cases e1.symm.trans n1
  have hal := C.hZ.alike
  have hfR : K.s.vm.findClass rc = some cell.cls := by rw [hal.findClass]; exact e2
  obtain ⟨cI, kR, i1, hkR, hord, -⟩ := Cond.instantiable_spec (mvT (args := K.args) C.hZ wi)
  cases hfR.symm.trans i1
  have hsz' : cell.slots.size = kR.instanceTypes.size := by
    obtain ⟨k2, q1, q2⟩ := hal.2.2 _ _ e3
    cases hkR.symm.trans q1
    have : kc.kind = .ordinary := by rw [← hord, q2]
    rw [e5 this, q2]
  -- the fields
  obtain ⟨ci198, i198, fB, hk198, hg198, ha198, hsB, -, hnB, htB, hffB⟩ := Cond.ownField (t := .object "java/lang/Object") hfound L.cls (by decide +kernel) (w (.fieldLink tN 198 tN "backtrace" obD) (by simp [excAtoms]) (by simp [misW])) (w (.lays tN tN "backtrace" obD) (by simp [excAtoms]) (by simp [misW])) K.e.platform hpl
  obtain ⟨_, _, cD, kD, iD, fD, -, -, hffD, hstD, -, -, -, -⟩ := Cond.lays_spec (w (.lays rc tN "depth" "I") (by simp [excAtoms]) (by simp [misW]))
  cases Option.some.inj ((Cond.lays_declared (w (.lays rc tN "depth" "I") (by simp [excAtoms]) (by simp [misW])) hffD).symm.trans hfound)
  obtain ⟨hkD, hatD⟩ := State.fieldFound?_spec hffD
  cases Option.some.inj (hkD.symm.trans L.cls)
  obtain ⟨hnD, htD⟩ := State.fieldFound?_type hffD (t := .int) (by decide +kernel)
  obtain ⟨_, _, cM, kM, iM, fM, -, -, hffM, -⟩ := Cond.lays_spec (w (.lays rc tN "detailMessage" msgD) (by simp [excAtoms]) (by simp [misW]))
  obtain ⟨hnM, -⟩ := State.fieldFound?_type hffM (t := .object "java/lang/String") (by decide +kernel)
  have hfb := Cond.soleField_find hfound L.cls (w (.soleField tN "backtrace") (by simp [excAtoms]) (by simp [misW])) ha198 hnB hsB
  have hfd := Cond.soleField_find hfound L.cls (w (.soleField tN "depth") (by simp [excAtoms]) (by simp [misW])) hatD hnD hstD
  obtain ⟨comp, cO, kO, -, -, hkO, hkindO, hO⟩ := Cond.arrayOver_spec (w (.arrayOver (.object "java/lang/Object")) (by simp [excAtoms]) (by simp [misW]))
  obtain ⟨tyS, dS, hdS, hdnS⟩ := Cond.laysAt hfR hkR hff (w (.lays rc tN "stackTrace" steD) (by simp [excAtoms]) (by simp [misW]))
  obtain ⟨tyM, dM, hdM, hdnM⟩ := Cond.laysAt hfR hkR hffM (w (.lays rc tN "detailMessage" msgD) (by simp [excAtoms]) (by simp [misW]))
  obtain ⟨tyB, dB, hdB, hdnB⟩ := Cond.laysAt hfR hkR hffB (w (.lays rc tN "backtrace" obD) (by simp [excAtoms]) (by simp [misW]))
  obtain ⟨tyD, dD, hdD, hdnD⟩ := Cond.laysAt hfR hkR hffD (w (.lays rc tN "depth" "I") (by simp [excAtoms]) (by simp [misW]))
  have mS := Cond.laysApart hdM hdS hdnM hdnS (by rw [hnM, hnS]; decide)
  have mB := Cond.laysApart hdM hdB hdnM hdnB (by rw [hnM, hnB]; decide)
  have mD := Cond.laysApart hdM hdD hdnM hdnD (by rw [hnM, hnD]; decide)
  have tk : ∀ {f : Field} {v : Value}, kR.instanceTypes[f.slot]? = some f.type → fits f.type v = true → Jvm.Takes K.s cell f v := fun {f v} h1 h2 => by
    obtain ⟨q1, q2⟩ := Takes.of_laid (v := v) hkR hord h1 h2
    exact ⟨by rw [hsz']; simpa using q1, by rw [n2]; exact q2⟩
  -- what the cells hold
  have slotOf : ∀ {nn dd : String} {v : Value} {c2 i2 : Nat} {k2 : Class} {f2 : Field}, Fld G.Z h x tN nn dd v → K.s.fieldFound? tN nn dd = some (c2, k2, i2, f2) → cell.slots[f2.slot]? = some v := fun {nn dd v c2 i2 k2 f2} F q => by
    obtain ⟨c9, cf, k9, i9, f9, g1, g2, -, -, -, -, g7⟩ := F
    cases e1.symm.trans g1
    obtain ⟨k', q1, -⟩ := ffOf (s := K.s) hal g2
    have q3 := Option.some.inj (q1.symm.trans q)
    simp only [Prod.mk.injEq] at q3
    obtain ⟨-, -, -, rfl⟩ := q3
    exact g7
  obtain ⟨cu, iu, ku, fu, stt, cellS, u1, -, -, u4, u5, u6, u7⟩ := Su
  obtain ⟨ku', u8, u9⟩ := ffOf (s := K.s) hal u1
  have u10 := Option.some.inj (u8.symm.trans hfu)
  simp only [Prod.mk.injEq] at u10
  obtain ⟨-, rfl, -, rfl⟩ := u10
  have haS : stt = Tc.aS := Option.some.inj ((u4.symm.trans u9.symm).trans L.statics)
  subst haS
  have hneS : Tc.aS ≠ x := fun q => by
    rw [q] at u5
    cases e1.symm.trans u5
    rw [n2] at u6; cases u6
  have hsel0 : selectMethod K.e.platform K.s.vm cell.cls Tc.fill0 = .method Tc.fill0 := by
    obtain ⟨c2, r2, m2, q1, q2, q3, q4, -⟩ := Cond.selects_spec (w (.selects rc tFill0 tFill0) (by simp [excAtoms]) (by simp [misW]))
    cases Option.some.inj (q1.symm.trans hfR)
    cases Option.some.inj (q2.symm.trans (State.methodFound?_of_named hfill0 (by decide)))
    cases Option.some.inj (q3.symm.trans hfill0)
    rw [Launch.admits_selectMethod X.admits]; exact q4
  have BK := Jvm.Free.Str.fillPays (l := G.l) (R := rm) (p := K.p) (e := K.e) (below := K.below) (s := K.s) (sargs := K.args) (len := 3) (W := (st.map fun v => v.category).sum) C.hx htr Tc L hfillN (u0 := ⟨.ref us, rfl⟩) (by simp) (self := x) (cell := cell) (cellS := cellS) (by rw [n2]; simp) (by rw [n2]; simp) (by rw [n3]) (by rw [n3]) (slotOf Fs hff) hsel0 hneS (fun q => by rw [q] at u6; cases u6) u7 (tk tyS (by rw [htyS]; rfl))
    ⟨⟨ci198, i198, fB⟩, ⟨hk198, hg198, ha198, hsB⟩, slotOf Fb hffB⟩ S.known.1 S.known.2 hfound hO hkO hkindO hfb hfd (fun _ => tk tyB (by rw [htB]; rfl)) (fun _ => tk tyD (by rw [htD]; rfl)) (by omega) (by omega)
  obtain ⟨v, _, ⟨T', L', k', n'⟩, -, X', ⟨hv, vm', lines, hll, -, hU, hL', hc', hn'⟩, s'⟩ := X.virtualBack C.hx (C := rc) (y := tFill) (z := tFill) C.ow (mvT C.hZ w1) (w (.declares tFill) (by simp [excAtoms]) (by simp [misW])) (notFace_of_selects (args := K.args) (w (.selects rc tFill tFill) (by simp [excAtoms]) (by simp [misW]))) (w (.selects rc tFill tFill) (by simp [excAtoms]) (by simp [misW])) (w (.instanceMethod tFill) (by simp [excAtoms, throwableAtoms]) (by simp [misW])) (by decide) BK hfR ⟨cell, by rw [e]; exact e1, rfl, e4⟩
    (g := mkF K.m pc ls (.ref x :: st)) rfl (by rw [C.ml]; exact hsz) (Steps.refl _) (argsL := []) (rest := st) (fun sig hsig => by have q : parseMethodDescriptor tFill.desc = some ⟨[], some (.object "java/lang/Throwable")⟩ := (by decide +kernel); cases hsig.symm.trans q; rfl) rfl (by show 2 * 0 + _ ≤ _; omega) (hb C.by hd) (fun vm₁ _ => ⟨rfl, hc, hs, by show T.heap[x]? = _; rw [e]; exact e1, by show T.heap[Tc.aS]? = _; rw [e]; exact u5⟩)
  dsimp only [Pt.U, Pt.locs, Pt.cells, Pt.slots] at X' hU hL' hc' hn' s'
  subst hL' hc' hn' hv
  have hxl : x < h.size := (Array.getElem?_eq_some_iff.mp e1).1
  have hh' : T'.heap = (h.push (traceHolder cO lines)).setIfInBounds x (Jvm.Free.Str.filledOn Tc.toThrowableT fB fD cell ⟨.ref us, rfl⟩ T.heap.size lines.length.toInt32) := by rw [hU, ← e]; rfl
  generalize hfl : Jvm.Free.Str.filledOn Tc.toThrowableT fB fD cell ⟨.ref us, rfl⟩ T.heap.size lines.length.toInt32 = CN at hh'
  have hget : T'.heap[x]? = some CN := by rw [hh', Array.getElem?_setIfInBounds_self_of_lt (by rw [Array.size_push]; exact Nat.lt_succ_of_lt hxl)]
  have hcn : CN.cls = cell.cls ∧ CN.vm = cell.vm ∧ CN.slots.size = cell.slots.size := by rw [← hfl]; exact ⟨rfl, rfl, by simp [Cell.setSlot]⟩
  have Kp : Keep h T'.heap [x] := by
    refine ⟨by rw [hh']; simp, fun y cy q hy => ?_, fun y cy q => ?_⟩
    · have hyx : x ≠ y := fun z => hy (by simp [z])
      rw [hh', Array.getElem?_setIfInBounds_ne hyx, Array.getElem?_push_lt (Array.getElem?_eq_some_iff.mp q).1]
      exact (Array.getElem?_eq_getElem _).symm.trans q
    · by_cases z : x = y
      · subst z; cases e1.symm.trans q; exact ⟨CN, hget, hcn⟩
      · refine ⟨cy, ?_, rfl, rfl, rfl⟩
        rw [hh', Array.getElem?_setIfInBounds_ne z, Array.getElem?_push_lt (Array.getElem?_eq_some_iff.mp q).1]
        exact (Array.getElem?_eq_getElem _).symm.trans q
  have Fm' : Fld G.Z T'.heap x tN "detailMessage" msgD .null := by
    have hv := slotOf Fm hffM
    obtain ⟨c9, cf, k9, i9, f9, g1, g2, g3, g4, g5, g6, g7⟩ := Fm
    cases e1.symm.trans g1
    obtain ⟨kq, q1, -⟩ := ffOf (s := K.s) hal g2
    have q3 := Option.some.inj (q1.symm.trans hffM)
    simp only [Prod.mk.injEq] at q3
    obtain ⟨-, -, -, rfl⟩ := q3
    refine ⟨CN, cf, k9, i9, f9, hget, g2, g3, by rw [hcn.2.1]; exact g4, by rw [hcn.2.1]; exact g5, by rw [hcn.1]; exact g6, ?_⟩
    rw [← hfl]
    simp only [Cell.setSlot, Array.getElem?_setIfInBounds, Ne.symm mS, Ne.symm mB, Ne.symm mD, if_false]
    exact g7
  have hle : (traceHolder cO lines).slots.size ≤ 2752 := traceHolder_size_le cO hll
  obtain ⟨s₂, o, hs', r⟩ := k T'.heap Kp (S.keep Kp (by intro q hq; rcases List.mem_singleton.mp hq with rfl; exact hx)) Fm' T' _ (X'.more (Nat.le_refl _) (Nat.add_le_add_left hle _)) rfl (N0.app fun y hy => by simp only [List.mem_cons, List.not_mem_nil, or_false] at hy; rcases hy with rfl | rfl | rfl <;> exact gx)
  exact ⟨s₂, o, s'.trans hs', r⟩
end Str
end Calls
end Rules
end Jvm.OwnKit

namespace Jvm.Pilot.@@N@@
open Jvm Jvm.ClassFile Sem Op Lib Jvm.Free Jvm.Stand Jvm.LawKit Jvm.RoadKit Bundle Jvm.OwnKit Jvm.Free.Exc Jvm.Pilot.@@N@@.Jvm.D
def own_ok (cs : List Int32) : Prop := cs.length ≤ 3 ∧ ∀ (j : Nat) (c : Int32), cs[j]? = some c → 0 ≤ c.toInt ∧ c.toInt < 256
def own_lo (cs : List Int32) : Bool := cs.all (fun c => decide (c.toInt ≤ 255))
def own_b8 (c : Int32) : Int32 := nar .byte c.toInt8.toInt32
def own_b0 (c : Int32) : Int32 := nar .byte ((c >>> ((0 : Int32) &&& 31)).toInt8.toInt32)
def own_b1 (c : Int32) : Int32 := nar .byte ((c >>> ((8 : Int32) &&& 31)).toInt8.toInt32)
def own_ub (cs : List Int32) (j : Nat) : Int32 := if j % 2 = 0 then own_b0 (cs.getD (j / 2) 0) else own_b1 (cs.getD (j / 2) 0)
def own_u16 (cs : List Int32) : List Int32 := (List.range (2 * cs.length)).map (own_ub cs)
def own_bytes (cs : List Int32) : List Int32 := if own_lo cs = true then cs.map own_b8 else own_u16 cs
def own_cod (cs : List Int32) : Int32 := if own_lo cs = true then 0 else 1
def own_mk (n c1 c2 c3 : Int32) : List Int32 := if n = 0 then [] else if n = 1 then [nar .char c1] else if n = 2 then [nar .char c1, nar .char c2] else [nar .char c1, nar .char c2, nar .char c3]
theorem own_pm {ps : List Int32} {i : Nat} {y : Int32} (h : ps[i]? = some y) : (ps.map Value.int)[i]? = some (.int y) := by rw [List.getElem?_map, h]; rfl
theorem own_at (cs : List Int32) {k : Nat} (h : k < cs.length) : ∃ c, cs[k]? = some c := ⟨cs[k], List.getElem?_eq_getElem h⟩
theorem own_inc {i : Int32} {k : Nat} (h : i.toInt = (k : Nat)) (hk : k < 100) : (i + (1 : Int32)).toInt = ((k + 1 : Nat) : Int) := by
  have h1 := c_iadd i 1
  have h3 := rng32 (i + 1)
  have e1 : (1 : Int32).toInt = 1 := by decide
  omega
theorem own_narc (x : Int32) : 0 ≤ (nar .char x).toInt ∧ (nar .char x).toInt < 65536 := (c_i2c x).2
theorem own_mk_len {n c1 c2 c3 : Int32} (h0 : 0 ≤ n.toInt) (h3 : n.toInt ≤ 3) : n.toInt = ((own_mk n c1 c2 c3).length : Nat) := by
  unfold own_mk
  split
  · rename_i h; subst h; decide
  split
  · rename_i h; subst h; rfl
  split
  · rename_i h; subst h; rfl
  · rename_i a b c
    have := neI a; have := neI b; have := neI c
    have e0 : (0 : Int32).toInt = 0 := by decide
    have e1 : (1 : Int32).toInt = 1 := by decide
    have e2 : (2 : Int32).toInt = 2 := by decide
    simp; omega
theorem own_stp {n : Nat} {tb cs : List Int32} {k : Nat} {c : Int32} (hl : tb.length = n) (hk : k < n) (h : ∀ j : Nat, j < k → tb[j]? = cs[j]?) (hc : cs[k]? = some c) : ∀ j : Nat, j < k + 1 → (tb.set k c)[j]? = cs[j]? := fun j hj => by
  by_cases q : k = j
  · subst q; rw [List.getElem?_set_self (by omega), hc]
  · rw [List.getElem?_set_ne q]; exact h j (by omega)
theorem own_eqN {n : Nat} {cs tb : List Int32} (hc : cs.length = n) (hl : tb.length = n) (h : ∀ j : Nat, j < n → tb[j]? = cs[j]?) : tb = cs := by
  apply List.ext_getElem?
  intro i
  by_cases q : i < n
  · exact h i q
  · rw [List.getElem?_eq_none (by omega), List.getElem?_eq_none (by omega)]
theorem own_lo1 {cs : List Int32} (h : ∀ (j : Nat), j < cs.length → ∀ c, cs[j]? = some c → c.toInt ≤ 255) : own_lo cs = true := by
  unfold own_lo
  rw [List.all_eq_true]
  intro c hc
  obtain ⟨j, hj, e⟩ := List.getElem_of_mem hc
  exact decide_eq_true (h j hj c (by rw [List.getElem?_eq_getElem hj, e]))
theorem own_lo0 {cs : List Int32} {k : Nat} {c : Int32} (h : cs[k]? = some c) (hc : 255 < c.toInt) : own_lo cs = false := by
  unfold own_lo
  rw [List.all_eq_false]
  exact ⟨c, List.mem_of_getElem? h, by simp; omega⟩
theorem own_u16_len (cs : List Int32) : (own_u16 cs).length = 2 * cs.length := by simp [own_u16]
theorem own_u16_at {cs : List Int32} {k : Nat} {c : Int32} (h : cs[k]? = some c) : (own_u16 cs)[2 * k]? = some (own_b0 c) ∧ (own_u16 cs)[2 * k + 1]? = some (own_b1 c) := by
  have hk : k < cs.length := (List.getElem?_eq_some_iff.mp h).1
  have e : cs.getD k 0 = c := by simp [List.getD, h]
  have e1 : 2 * k / 2 = k := by omega
  have e2 : (2 * k + 1) / 2 = k := by omega
  have e3 : 2 * k % 2 = 0 := by omega
  have e4 : (2 * k + 1) % 2 ≠ 0 := by omega
  constructor
  · rw [own_u16, List.getElem?_map, List.getElem?_range (by omega)]; simp only [Option.map_some, own_ub, e3, e1, if_true, e]
  · rw [own_u16, List.getElem?_map, List.getElem?_range (by omega)]; simp only [Option.map_some, own_ub, e4, e2, if_false, e]
theorem own_s0 (c : Int32) : (c >>> ((0 : Int32) &&& 31)).toInt = c.toInt := by
  have h := c_ishr c 0 0 (by decide)
  have e : ((2 ^ 0 : Nat) : Int) = 1 := by decide
  rw [e] at h; omega
theorem own_s8 (c : Int32) : (c >>> ((8 : Int32) &&& 31)).toInt = c.toInt / 256 := by
  have h := c_ishr c 8 8 (by decide)
  have e : ((2 ^ 8 : Nat) : Int) = 256 := by decide
  rw [e] at h; exact h
theorem own_nb {x : Int32} : ((nar .byte x.toInt8.toInt32) &&& (255 : Int32)).toInt = x.toInt % 256 := by
  have h := c_mask (nar .byte x.toInt8.toInt32) 255 8 (by decide) (by decide)
  have e : ((2 ^ 8 : Nat) : Int) = 256 := by decide
  rw [e] at h
  have h1 := c_i2b x
  have h2 := c_i2b x.toInt8.toInt32
  have h3 : (nar .byte x.toInt8.toInt32).toInt = x.toInt8.toInt32.toInt8.toInt32.toInt := rfl
  omega
theorem own_rt {c : Int32} (h0 : 0 ≤ c.toInt) (h1 : c.toInt < 65536) : (nar .char (((((own_b0 c) &&& (255 : Int32)) <<< ((0 : Int32) &&& 31)) ||| (((own_b1 c) &&& (255 : Int32)) <<< ((8 : Int32) &&& 31))).toUInt32.toUInt16.toUInt32.toInt32)).toInt = c.toInt := by
  have a0 : ((own_b0 c) &&& (255 : Int32)).toInt = c.toInt % 256 := by unfold own_b0; rw [own_nb, own_s0]
  have a1 : ((own_b1 c) &&& (255 : Int32)).toInt = c.toInt / 256 := by unfold own_b1; rw [own_nb, own_s8]; omega
  generalize (own_b0 c) &&& (255 : Int32) = x at *
  generalize (own_b1 c) &&& (255 : Int32) = y at *
  have b0 := c_ishl x 0 0 (by decide)
  have b1 := c_ishl y 8 8 (by decide)
  have e0 : ((2 ^ 0 : Nat) : Int) = 1 := by decide
  have e8 : ((2 ^ 8 : Nat) : Int) = 256 := by decide
  rw [e0] at b0
  rw [e8] at b1
  have r0 := rng32 (x <<< ((0 : Int32) &&& 31))
  have r1 := rng32 (y <<< ((8 : Int32) &&& 31))
  generalize x <<< ((0 : Int32) &&& 31) = X at *
  generalize y <<< ((8 : Int32) &&& 31) = Y at *
  have q := c_or' X Y 8 (by decide) 256 (by decide) (by omega) (by omega) (by omega)
  have r2 := rng32 (X ||| Y)
  have q1 := c_i2c (X ||| Y)
  have q2 := c_i2c (X ||| Y).toUInt32.toUInt16.toUInt32.toInt32
  have q3 : (nar .char (X ||| Y).toUInt32.toUInt16.toUInt32.toInt32).toInt = (X ||| Y).toUInt32.toUInt16.toUInt32.toInt32.toUInt32.toUInt16.toUInt32.toInt32.toInt := rfl
  omega
theorem own_dbl {n : Int32} {k : Nat} (h : n.toInt = (k : Nat)) (hk : k < 100) : (n <<< ((1 : Int32) &&& 31)).toInt = ((2 * k : Nat) : Int) := by
  have b0 := c_ishl n 1 1 (by decide)
  have e0 : ((2 ^ 1 : Nat) : Int) = 2 := by decide
  rw [e0] at b0
  have r0 := rng32 (n <<< ((1 : Int32) &&& 31))
  omega
theorem own_cfa {n m : Int32} (h0 : 0 ≤ n.toInt) (hn : n.toInt ≤ 3) (hm : m.toInt = n.toInt ∨ (m.toInt = 2 * n.toInt ∧ 0 < n.toInt)) : nar .byte ((((n - m).toUInt32 >>> ((31 : Int32) &&& 31).toUInt32).toInt32).toInt8.toInt32) = if m.toInt = n.toInt then 0 else 1 := by
  have h1 := c_isub n m
  have h2 := rng32 (n - m)
  have h3 := c_iushr (n - m) 31 31 (by decide) (by decide)
  have e : ((2 ^ 31 : Nat) : Int) = 2147483648 := by decide
  rw [e] at h3
  generalize ((n - m).toUInt32 >>> ((31 : Int32) &&& 31).toUInt32).toInt32 = z at *
  have h4 := c_i2b z
  have h5 := c_i2b z.toInt8.toInt32
  have h6 : (nar .byte z.toInt8.toInt32).toInt = z.toInt8.toInt32.toInt8.toInt32.toInt := rfl
  have e0 : (0 : Int32).toInt = 0 := by decide
  have e1 : (1 : Int32).toInt = 1 := by decide
  apply Int32.toInt_inj.mp
  split <;> omega
theorem own_bytes_len (cs : List Int32) : (own_bytes cs).length = (if own_lo cs = true then cs.length else 2 * cs.length) := by
  unfold own_bytes
  split <;> simp [own_u16]
theorem own_len {cs : List Int32} {m : Int32} {k : Nat} (hm : m.toInt = ((own_bytes cs).length : Nat)) (hl : cs.length ≤ 3) : (m >>> (own_cod cs &&& 31)).toInt = (cs.length : Nat) := by
  rw [own_bytes_len] at hm
  unfold own_cod
  split at hm
  · rename_i q; rw [if_pos q, own_s0]; exact hm
  · rename_i q
    rw [if_neg q]
    have h := c_ishr m 1 1 (by decide)
    have e : ((2 ^ 1 : Nat) : Int) = 2 := by decide
    rw [e] at h; omega
theorem own_cod01 (cs : List Int32) : nar .byte (own_cod cs) = own_cod cs := by
  unfold own_cod
  split <;> decide
/-- digits of a number -/
def own_dv (n : Nat) : Int32 := Int32.ofNat (48 + n)
theorem own_dvI : ∀ d : Nat, d < 10 → (own_dv d).toInt = 48 + (d : Int) := by decide
def own_dgf : Nat → Nat → List Int32
  | 0, n => [own_dv n]
  | f + 1, n => if n < 10 then [own_dv n] else own_dgf f (n / 10) ++ [own_dv (n % 10)]
def own_dg (n : Nat) : List Int32 := own_dgf n n
theorem own_dgfS (f n : Nat) : own_dgf (f + 1) n = if n < 10 then [own_dv n] else own_dgf f (n / 10) ++ [own_dv (n % 10)] := rfl
theorem own_dgfE : ∀ (f g n : Nat), n ≤ f → n ≤ g → own_dgf f n = own_dgf g n
  | 0, 0, _, _, _ => rfl
  | 0, g + 1, n, h, _ => by
    have e : n = 0 := Nat.le_zero.mp h
    subst e; rw [own_dgfS, if_pos (by omega)]; rfl
  | f + 1, 0, n, _, h => by
    have e : n = 0 := Nat.le_zero.mp h
    subst e; rw [own_dgfS, if_pos (by omega)]; rfl
  | f + 1, g + 1, n, h1, h2 => by
    rw [own_dgfS, own_dgfS]
    by_cases q : n < 10
    · rw [if_pos q, if_pos q]
    · rw [if_neg q, if_neg q, own_dgfE f g (n / 10) (by omega) (by omega)]
theorem own_dg1 {n : Nat} (h : n < 10) : own_dg n = [own_dv n] := by
  show own_dgf n n = _
  rw [own_dgfE n (n + 1) n (Nat.le_refl _) (Nat.le_succ _), own_dgfS, if_pos h]
theorem own_dg2 {n : Nat} (h : 10 ≤ n) : own_dg n = own_dg (n / 10) ++ [own_dv (n % 10)] := by
  show own_dgf n n = own_dgf (n / 10) (n / 10) ++ _
  rw [own_dgfE n (n + 1) n (Nat.le_refl _) (Nat.le_succ _), own_dgfS, if_neg (by omega), own_dgfE n (n / 10) (n / 10) (by omega) (Nat.le_refl _)]
theorem own_dg3 {n : Nat} (h : 100 ≤ n) : own_dg n = own_dg (n / 100) ++ [own_dv (n % 100 / 10), own_dv (n % 100 % 10)] := by
  rw [own_dg2 (by omega), own_dg2 (n := n / 10) (by omega), List.append_assoc]
  have e1 : n / 10 / 10 = n / 100 := by omega
  have e2 : n / 10 % 10 = n % 100 / 10 := by omega
  have e3 : n % 10 = n % 100 % 10 := by omega
  rw [e1, e2, e3]; rfl
theorem own_dgM : ∀ (n : Nat), ∀ d ∈ own_dg n, 48 ≤ d.toInt ∧ d.toInt ≤ 57 := by
  intro n
  induction n using Nat.strongRecOn with
  | _ n ih =>
  intro d hd
  by_cases q : n < 10
  · rw [own_dg1 q] at hd
    have := own_dvI n q
    simp at hd; subst hd; omega
  · rw [own_dg2 (by omega)] at hd
    rcases List.mem_append.mp hd with hd | hd
    · exact ih _ (by omega) d hd
    · have := own_dvI (n % 10) (by omega)
      simp at hd; subst hd; omega
def own_vl (l : List Int32) : Int := l.foldl (fun a d => 10 * a + (d.toInt - 48)) 0
theorem own_vld (n : Nat) : own_vl (own_dg n) = n := by
  induction n using Nat.strongRecOn with
  | _ n ih =>
  by_cases q : n < 10
  · rw [own_dg1 q]
    have := own_dvI n q
    simp [own_vl]; omega
  · have e := ih (n / 10) (by omega)
    have := own_dvI (n % 10) (by omega)
    rw [own_dg2 (by omega)]
    unfold own_vl at e ⊢
    rw [List.foldl_append, e]
    simp; omega
theorem own_dgl : ∀ (k : Nat) {n : Nat}, n < 10 ^ (k + 1) → (k = 0 ∨ 10 ^ k ≤ n) → (own_dg n).length = k + 1 := by
  intro k
  induction k with
  | zero => intro n h _; rw [own_dg1 (by simpa using h)]; rfl
  | succ k ih =>
    intro n h h2
    have e1 : 10 ^ (k + 1 + 1) = 10 * 10 ^ (k + 1) := by rw [Nat.pow_succ]; omega
    have e2 : 10 ^ (k + 1) = 10 * 10 ^ k := by rw [Nat.pow_succ]; omega
    have e3 : 0 < 10 ^ k := Nat.pow_pos (by omega)
    have h3 : 10 ^ (k + 1) ≤ n := by rcases h2 with q | q; omega; exact q
    rw [own_dg2 (by omega), List.length_append, ih (n := n / 10) (by omega) (by right; omega)]
    rfl
/-- the decimal text of an int -/
def own_mag (x : Int32) : Nat := x.toInt.natAbs
def own_sg (x : Int32) : List Int32 := if x.toInt < 0 then [45] else []
def own_dec (x : Int32) : List Int32 := own_sg x ++ own_dg (own_mag x)
theorem own_magB (x : Int32) : own_mag x ≤ 2147483648 := by
  unfold own_mag
  have h1 := x.toInt_lt
  have h2 := x.le_toInt
  omega
theorem own_e45 : (45 : Int32).toInt = 45 := by decide
theorem own_decInj {x y : Int32} (h : own_dec x = own_dec y) : x = y := by
  apply Int32.toInt_inj.mp
  have ax := own_dgM (own_mag x)
  have ay := own_dgM (own_mag y)
  have e45 := own_e45
  unfold own_dec own_sg at h
  split at h <;> split at h
  · have e : own_dg (own_mag x) = own_dg (own_mag y) := by simpa using h
    have e1 := own_vld (own_mag x)
    rw [e, own_vld] at e1
    unfold own_mag at e1
    omega
  · exfalso
    have m : (45 : Int32) ∈ own_dg (own_mag y) := by rw [← List.nil_append (own_dg (own_mag y)), ← h]; simp
    have := ay _ m; omega
  · exfalso
    have m : (45 : Int32) ∈ own_dg (own_mag x) := by rw [← List.nil_append (own_dg (own_mag x)), h]; simp
    have := ax _ m; omega
  · have e : own_dg (own_mag x) = own_dg (own_mag y) := by simpa using h
    have e1 := own_vld (own_mag x)
    rw [e, own_vld] at e1
    unfold own_mag at e1
    omega
/-- the eight to eighteen signs of the message -/
def own_msg (x : Int32) : List Int32 := (((((([115] ++ [58]) ++ own_dec x) ++ [58]) ++ own_dec 1) ++ [58, 32]) ++ [112])
theorem own_dec1 : own_dec 1 = [49] := by
  have e : own_mag 1 = 1 := by decide
  unfold own_dec own_sg
  rw [if_neg (by decide), e, own_dg1 (by omega)]; decide
theorem own_dec7 : own_dec 7 = [55] := by
  have e : own_mag 7 = 7 := by decide
  unfold own_dec own_sg
  rw [if_neg (by decide), e, own_dg1 (by omega)]; decide
theorem own_msgInj {x y : Int32} (h : own_msg x = own_msg y) : x = y := by
  unfold own_msg at h
  exact own_decInj (by simpa using h)
theorem own_msg7 : own_msg 7 = [115, 58, 55, 58, 49, 58, 32, 112] := by unfold own_msg; rw [own_dec7, own_dec1]; rfl
theorem own_dgL (n : Nat) (h : n ≤ 2147483648) : 1 ≤ (own_dg n).length ∧ (own_dg n).length ≤ 10 := by
  rcases Nat.lt_or_ge n 10 with q | q
  · rw [own_dgl 0 (by simpa using q) (Or.inl rfl)]; omega
  rcases Nat.lt_or_ge n 100 with q1 | q1
  · rw [own_dgl 1 q1 (Or.inr q)]; omega
  rcases Nat.lt_or_ge n 1000 with q2 | q2
  · rw [own_dgl 2 q2 (Or.inr q1)]; omega
  rcases Nat.lt_or_ge n 10000 with q3 | q3
  · rw [own_dgl 3 q3 (Or.inr q2)]; omega
  rcases Nat.lt_or_ge n 100000 with q4 | q4
  · rw [own_dgl 4 q4 (Or.inr q3)]; omega
  rcases Nat.lt_or_ge n 1000000 with q5 | q5
  · rw [own_dgl 5 q5 (Or.inr q4)]; omega
  rcases Nat.lt_or_ge n 10000000 with q6 | q6
  · rw [own_dgl 6 q6 (Or.inr q5)]; omega
  rcases Nat.lt_or_ge n 100000000 with q7 | q7
  · rw [own_dgl 7 q7 (Or.inr q6)]; omega
  rcases Nat.lt_or_ge n 1000000000 with q8 | q8
  · rw [own_dgl 8 q8 (Or.inr q7)]; omega
  · rw [own_dgl 9 (show n < 10000000000 by omega) (Or.inr q8)]; omega
theorem own_decL (x : Int32) : 1 ≤ (own_dec x).length ∧ (own_dec x).length ≤ 11 := by
  have h := own_dgL _ (own_magB x)
  unfold own_dec own_sg
  rw [List.length_append]
  split <;> simp <;> omega
/-- bytes -/
def own_by (zs : List Int32) : Prop := ∀ z ∈ zs, -128 ≤ z.toInt ∧ z.toInt ≤ 127
theorem own_byA {a b : List Int32} (ha : own_by a) (hb : own_by b) : own_by (a ++ b) := fun z hz => by
  rcases List.mem_append.mp hz with q | q
  · exact ha z q
  · exact hb z q
theorem own_byT {a : List Int32} (n : Nat) (ha : own_by a) : own_by (a.take n) := fun z hz => ha z (List.mem_of_mem_take hz)
theorem own_byD {a : List Int32} (n : Nat) (ha : own_by a) : own_by (a.drop n) := fun z hz => ha z (List.mem_of_mem_drop hz)
theorem own_byS {a : List Int32} {n : Nat} {v : Int32} (ha : own_by a) (hv : -128 ≤ v.toInt ∧ v.toInt ≤ 127) : own_by (a.set n v) := fun z hz => by
  rcases List.mem_or_eq_of_mem_set hz with q | q
  · exact ha z q
  · subst q; exact hv
theorem own_byZ (n : Nat) : own_by (List.replicate n (0 : Int32)) := fun z hz => by
  have := List.eq_of_mem_replicate hz; subst this; decide
theorem own_byDec (x : Int32) : own_by (own_dec x) := by
  unfold own_dec own_sg
  refine own_byA ?_ ?_
  · split
    · intro z hz; simp at hz; subst hz; decide
    · intro z hz; simp at hz
  · intro z hz; have := own_dgM _ z hz; omega
/-- the array begins with cs -/
def own_pf (bs cs : List Int32) : Prop := ∀ j : Nat, j < cs.length → bs[j]? = cs[j]?
theorem own_pfLe {bs cs : List Int32} (h : own_pf bs cs) : cs.length ≤ bs.length := by
  apply Nat.le_of_not_lt
  intro q
  have e := h (bs.length) q
  rw [List.getElem?_eq_none (Nat.le_refl _), List.getElem?_eq_getElem q] at e
  cases e
theorem own_pfTake {bs cs : List Int32} (h : own_pf bs cs) : bs.take cs.length = cs := by
  have hl := own_pfLe h
  apply List.ext_getElem?
  intro j
  by_cases q : j < cs.length
  · rw [List.getElem?_take_of_lt q]; exact h j q
  · rw [List.getElem?_eq_none (by simp; omega), List.getElem?_eq_none (by omega)]
/-- text behind the old, as arraycopy lays it -/
theorem own_pfApp {bs cs ss : List Int32} (h : own_pf bs cs) : own_pf (bs.take cs.length ++ ss ++ bs.drop (cs.length + ss.length)) (cs ++ ss) := fun j hj => by
  rw [own_pfTake h, List.getElem?_append_left hj]
theorem own_pfGrow {bs cs : List Int32} {t : List Int32} (h : own_pf bs cs) : own_pf (bs ++ t) cs := fun j hj => by
  rw [List.getElem?_append_left (by have := own_pfLe h; omega)]; exact h j hj
/-- getChars: w is the whole text, c where the number begins; right so far: ahead of c and from p on -/
def own_ag (bs w : List Int32) (c p : Nat) : Prop := ∀ j : Nat, (j < c ∨ p ≤ j) → j < w.length → bs[j]? = w[j]?
theorem own_agS {bs w : List Int32} {c p : Nat} {v : Int32} (h : own_ag bs w c (p + 1)) (hv : w[p]? = some v) (hl : p < bs.length) : own_ag (bs.set p v) w c p := fun j hj hw => by
  by_cases q : p = j
  · subst q; rw [List.getElem?_set_self hl, hv]
  · rw [List.getElem?_set_ne q]; exact h j (by omega) hw
theorem own_ag0 {bs w : List Int32} {c : Nat} (h : own_ag bs w c c) : own_pf bs w := fun j hj => h j (by omega) hj
theorem own_agI {bs cs d : List Int32} (h : own_pf bs cs) : own_ag bs (cs ++ d) cs.length (cs ++ d).length := fun j hj hw => by
  rcases hj with q | q
  · rw [h j q, List.getElem?_append_left q]
  · omega
def own_ones : List Int32 := (List.range 100).map fun j => own_dv (j % 10)
def own_tens : List Int32 := (List.range 100).map fun j => own_dv (j / 10)
theorem own_onesAt {j : Nat} (h : j < 100) : own_ones[j]? = some (own_dv (j % 10)) := by unfold own_ones; rw [List.getElem?_map, List.getElem?_range h]; rfl
theorem own_tensAt {j : Nat} (h : j < 100) : own_tens[j]? = some (own_dv (j / 10)) := by unfold own_tens; rw [List.getElem?_map, List.getElem?_range h]; rfl
theorem own_dvB {d : Nat} (h : d < 10) : -128 ≤ (own_dv d).toInt ∧ (own_dv d).toInt ≤ 127 := by have := own_dvI d h; omega
def own_EL : List (String × Nat) := consts_1
theorem own_ew {a0 : Array Value} {Z : State} (hw : ∀ d ∈ tables_1, d.before a0 Z = true) : EW Z a0 own_EL :=
  EW.cons (hw _ (List.mem_of_getElem? (i := 18) rfl)) (by decide) (EW.cons (hw _ (List.mem_of_getElem? (i := 46) rfl)) (by decide) (EW.cons (hw _ (List.mem_of_getElem? (i := 40) rfl)) (by decide) (EW.cons (hw _ (List.mem_of_getElem? (i := 41) rfl)) (by decide) (EW.cons (hw _ (List.mem_of_getElem? (i := 74) rfl)) (by decide) (EW.cons (hw _ (List.mem_of_getElem? (i := 323) rfl)) (by decide) (EW.cons (hw _ (List.mem_of_getElem? (i := 172) rfl)) (by decide) (EW.cons (hw _ (List.mem_of_getElem? (i := 195) rfl)) (by decide) (EW.nil))))))))
theorem own_SA {a0 : Array Value} {Z : State} (hw : ∀ d ∈ tables_1, d.before a0 Z = true) : ∀ d ∈ Bundle.stringAtoms, d.before a0 Z = true := fun d hd => by
  simp only [Bundle.stringAtoms, List.mem_cons, List.not_mem_nil, or_false] at hd
  rcases hd with rfl | rfl | rfl | rfl | rfl | rfl | rfl
  · exact hw _ (List.mem_of_getElem? (i := 6) rfl)
  · exact hw _ (List.mem_of_getElem? (i := 5) rfl)
  · exact hw _ (List.mem_of_getElem? (i := 19) rfl)
  · exact hw _ (List.mem_of_getElem? (i := 20) rfl)
  · exact hw _ (List.mem_of_getElem? (i := 21) rfl)
  · exact hw _ (List.mem_of_getElem? (i := 22) rfl)
  · exact hw _ (List.mem_of_getElem? (i := 23) rfl)
def Ss (G : Gx) (cp : Int32) (dO dT us sn : Addr) : Prop := Sta G.Z G.Z.heap "java/lang/String" "COMPACT_STRINGS" "Z" (.int cp) ∧ ¬ cp = 0 ∧ Sta G.Z G.Z.heap "java/lang/Integer" "DigitOnes" "[B" (.ref dO) ∧ Sta G.Z G.Z.heap "java/lang/Integer" "DigitTens" "[B" (.ref dT) ∧ Av G.Z G.Z.heap dO .byte (own_ones.map .int) ∧ Av G.Z G.Z.heap dT .byte (own_tens.map .int) ∧ G.l.stackTraces = true ∧ Sta G.Z G.Z.heap "java/lang/Throwable" "UNASSIGNED_STACK" "[Ljava/lang/StackTraceElement;" (.ref us) ∧ Sta G.Z G.Z.heap "java/lang/Throwable" "SUPPRESSED_SENTINEL" "Ljava/util/List;" (.ref sn)
section
variable {G : Gx} {cp : Int32} {dO dT us sn : Addr}
theorem Ss.s0 (H : Ss G cp dO dT us sn) : Sta G.Z G.Z.heap "java/lang/String" "COMPACT_STRINGS" "Z" (.int cp) := H.1
theorem Ss.cp0 (H : Ss G cp dO dT us sn) : ¬ cp = 0 := H.2.1
theorem Ss.sO (H : Ss G cp dO dT us sn) : Sta G.Z G.Z.heap "java/lang/Integer" "DigitOnes" "[B" (.ref dO) := H.2.2.1
theorem Ss.sT (H : Ss G cp dO dT us sn) : Sta G.Z G.Z.heap "java/lang/Integer" "DigitTens" "[B" (.ref dT) := H.2.2.2.1
theorem Ss.aO (H : Ss G cp dO dT us sn) : Av G.Z G.Z.heap dO .byte (own_ones.map .int) := H.2.2.2.2.1
theorem Ss.aT (H : Ss G cp dO dT us sn) : Av G.Z G.Z.heap dT .byte (own_tens.map .int) := H.2.2.2.2.2.1
theorem Ss.hl (H : Ss G cp dO dT us sn) : G.l.stackTraces = true := H.2.2.2.2.2.2.1
theorem Ss.sU (H : Ss G cp dO dT us sn) : Sta G.Z G.Z.heap "java/lang/Throwable" "UNASSIGNED_STACK" "[Ljava/lang/StackTraceElement;" (.ref us) := H.2.2.2.2.2.2.2.1
theorem Ss.sS (H : Ss G cp dO dT us sn) : Sta G.Z G.Z.heap "java/lang/Throwable" "SUPPRESSED_SENTINEL" "Ljava/util/List;" (.ref sn) := H.2.2.2.2.2.2.2.2
end
theorem own_c255 (p : Int32) : 0 ≤ ((p &&& (255 : Int32)).toUInt32.toUInt16.toUInt32.toInt32).toInt ∧ ((p &&& (255 : Int32)).toUInt32.toUInt16.toUInt32.toInt32).toInt < 256 := by
  have h := c_mask p 255 8 (by decide) (by decide)
  have e : ((2 ^ 8 : Nat) : Int) = 256 := by decide
  rw [e] at h
  have h1 := c_i2c (p &&& (255 : Int32))
  omega
theorem own_nc {c : Int32} (h : 0 ≤ c.toInt ∧ c.toInt < 256) : 0 ≤ (nar .char c).toInt ∧ (nar .char c).toInt < 256 := by
  have h1 := c_i2c c
  have h2 : (nar .char c).toInt = c.toUInt32.toUInt16.toUInt32.toInt32.toInt := rfl
  omega
theorem own_okM {cs : List Int32} (h3 : cs.length ≤ 3) (h : ∀ c ∈ cs, 0 ≤ c.toInt ∧ c.toInt < 256) : own_ok cs := ⟨h3, fun j c hc => h c (List.mem_of_getElem? hc)⟩
theorem own_ok0 : own_ok [] := own_okM (by decide) nofun
theorem own_ok1 {a : Int32} (ha : 0 ≤ a.toInt ∧ a.toInt < 256) : own_ok [nar .char a] := own_okM (by simp) fun c hc => by
  simp at hc; subst hc; exact own_nc ha
theorem own_ok2 {a b : Int32} (ha : 0 ≤ a.toInt ∧ a.toInt < 256) (hb : 0 ≤ b.toInt ∧ b.toInt < 256) : own_ok [nar .char a, nar .char b] := own_okM (by simp) fun c hc => by
  simp at hc; rcases hc with rfl | rfl
  · exact own_nc ha
  · exact own_nc hb
theorem own_ok3 {a b d : Int32} (ha : 0 ≤ a.toInt ∧ a.toInt < 256) (hb : 0 ≤ b.toInt ∧ b.toInt < 256) (hd : 0 ≤ d.toInt ∧ d.toInt < 256) : own_ok [nar .char a, nar .char b, nar .char d] := own_okM (by simp) fun c hc => by
  simp at hc; rcases hc with rfl | rfl | rfl
  · exact own_nc ha
  · exact own_nc hb
  · exact own_nc hd
theorem own_okl {cs : List Int32} (h : own_ok cs) : own_lo cs = true := own_lo1 fun j _ c hc => by have := h.2 j c hc; omega
theorem own_cod0 {cs : List Int32} (h : own_ok cs) : own_cod cs = 0 := by unfold own_cod; rw [if_pos (own_okl h)]
theorem own_bl3 {cs : List Int32} (h : own_ok cs) : (own_bytes cs).length ≤ 3 := by rw [own_bytes_len, if_pos (own_okl h)]; exact h.1
theorem own_fb {zs : List Int32} (h : own_by zs) : ∀ z ∈ zs, fits .byte (.int z) = true := fun z hz => by
  have := h z hz
  have e1 : (-128 : Int32).toInt = -128 := by decide
  have e2 : (127 : Int32).toInt = 127 := by decide
  simp only [fits, Bool.and_eq_true, decide_eq_true_eq]
  first | exact ⟨Int32.le_iff_toInt_le.mpr (by omega), Int32.le_iff_toInt_le.mpr (by omega)⟩ | exact ⟨by omega, by omega⟩ | omega
theorem own_nd {d : Nat} (h : d < 10) : nar .byte (own_dv d) = own_dv d := by
  have q : ∀ d : Nat, d < 10 → nar .byte (own_dv d) = own_dv d := by decide
  exact q d h
theorem own_l0 (k : Int32) : (k <<< ((0 : Int32) &&& 31)).toInt = k.toInt := by
  have h := c_ishl k 0 0 (by decide)
  have e : ((2 ^ 0 : Nat) : Int) = 1 := by decide
  rw [e] at h
  have h1 := rng32 k
  have h2 := rng32 (k <<< ((0 : Int32) &&& 31))
  omega
theorem own_add {x y : Int32} {a b : Nat} (hx : x.toInt = (a : Nat)) (hy : y.toInt = (b : Nat)) (ha : a < 1000) (hb : b < 1000) : (x + y).toInt = ((a + b : Nat) : Int) := by
  have h1 := c_iadd x y
  have h3 := rng32 (x + y)
  omega
theorem own_lenI {zs : List Int32} (h : zs.length < 1000) : ∃ m : Int32, m.toInt = (zs.length : Nat) ∧ m.toInt = ((zs.map Value.int).length : Nat) := by
  refine ⟨Int32.ofNat zs.length, ?_, ?_⟩
  · rw [Int32.toInt_ofNat_of_lt (by omega)]
  · rw [Int32.toInt_ofNat_of_lt (by omega), List.length_map]
theorem own_ne {y b b' : Addr} {h : Heap} (hb : b' = b ∨ h.size ≤ b') (n : y ≠ b) (l : y < h.size) : y ≠ b' := by
  rcases hb with rfl | hb
  · exact n
  · exact Nat.ne_of_lt (Nat.lt_of_lt_of_le l hb)
def Str (G : Gx) (h : Heap) (s y : Addr) (zs : List Int32) : Prop := Exa G.Z h s "java/lang/String" ∧ Fld G.Z h s "java/lang/String" "coder" "B" (.int 0) ∧ Fld G.Z h s "java/lang/String" "value" "[B" (.ref y) ∧ Av G.Z h y .byte (zs.map .int)
def Sb (G : Gx) (h : Heap) (x b : Addr) (n : Int32) (bs cs : List Int32) : Prop := Exa G.Z h x "java/lang/StringBuilder" ∧ Fld G.Z h x "java/lang/AbstractStringBuilder" "value" "[B" (.ref b) ∧ Fld G.Z h x "java/lang/AbstractStringBuilder" "coder" "B" (.int 0) ∧ Fld G.Z h x "java/lang/AbstractStringBuilder" "count" "I" (.int n) ∧ Av G.Z h b .byte (bs.map .int) ∧ Exa G.Z h b "[B" ∧ x ≠ b ∧ G.n0 ≤ x ∧ G.n0 ≤ b ∧ n.toInt = (cs.length : Nat) ∧ own_pf bs cs ∧ own_by bs ∧ (bs.length = 16 ∨ bs.length = 34)
theorem own_codL {cs : List Int32} {n m : Int32} (hn : n.toInt = (cs.length : Nat)) (h3 : cs.length ≤ 3) (h0 : 0 < cs.length) (hm : m.toInt = ((own_bytes cs).length : Nat)) : nar .byte ((((n - m).toUInt32 >>> ((31 : Int32) &&& 31).toUInt32).toInt32).toInt8.toInt32) = own_cod cs := by
  rw [own_bytes_len] at hm
  unfold own_cod
  split at hm
  · rename_i q; rw [own_cfa (by omega) (by omega) (Or.inl (by omega)), if_pos (by omega), if_pos q]
  · rename_i q; rw [own_cfa (by omega) (by omega) (Or.inr ⟨by omega, by omega⟩), if_neg (by omega), if_neg q]
theorem own_bl {cs : List Int32} (h3 : cs.length ≤ 3) : ∃ m : Int32, m.toInt = (((own_bytes cs).map Value.int).length : Nat) := by
  refine ⟨Int32.ofNat (own_bytes cs).length, ?_⟩
  rw [List.length_map, Int32.toInt_ofNat_of_lt]
  rw [own_bytes_len]
  split <;> omega
section
variable {G : Gx} {h : Heap} {x b : Addr} {n : Int32} {bs cs : List Int32}
theorem Sb.E (B : Sb G h x b n bs cs) : Exa G.Z h x "java/lang/StringBuilder" := B.1
theorem Sb.Fv (B : Sb G h x b n bs cs) : Fld G.Z h x "java/lang/AbstractStringBuilder" "value" "[B" (.ref b) := B.2.1
theorem Sb.Fc (B : Sb G h x b n bs cs) : Fld G.Z h x "java/lang/AbstractStringBuilder" "coder" "B" (.int 0) := B.2.2.1
theorem Sb.Fn (B : Sb G h x b n bs cs) : Fld G.Z h x "java/lang/AbstractStringBuilder" "count" "I" (.int n) := B.2.2.2.1
theorem Sb.A (B : Sb G h x b n bs cs) : Av G.Z h b .byte (bs.map .int) := B.2.2.2.2.1
theorem Sb.Eb (B : Sb G h x b n bs cs) : Exa G.Z h b "[B" := B.2.2.2.2.2.1
theorem Sb.ne (B : Sb G h x b n bs cs) : x ≠ b := B.2.2.2.2.2.2.1
theorem Sb.gx (B : Sb G h x b n bs cs) : G.n0 ≤ x := B.2.2.2.2.2.2.2.1
theorem Sb.gb (B : Sb G h x b n bs cs) : G.n0 ≤ b := B.2.2.2.2.2.2.2.2.1
theorem Sb.cnt (B : Sb G h x b n bs cs) : n.toInt = (cs.length : Nat) := B.2.2.2.2.2.2.2.2.2.1
theorem Sb.pf (B : Sb G h x b n bs cs) : own_pf bs cs := B.2.2.2.2.2.2.2.2.2.2.1
theorem Sb.by' (B : Sb G h x b n bs cs) : own_by bs := B.2.2.2.2.2.2.2.2.2.2.2.1
theorem Sb.cap (B : Sb G h x b n bs cs) : bs.length = 16 ∨ bs.length = 34 := B.2.2.2.2.2.2.2.2.2.2.2.2
end
theorem own_grow {bs : List Int32} (h : bs.length = 16) : (List.replicate 34 (0 : Int32)).take 0 ++ (bs.drop 0).take 16 ++ (List.replicate 34 (0 : Int32)).drop (0 + 16) = bs ++ List.replicate 18 0 := by
  rw [List.drop_zero, List.take_of_length_le (l := bs) (by omega), List.drop_replicate, List.take_zero, List.nil_append]
theorem own_z {k n : Nat} (h : k = n) : List.replicate k (Value.int (0 : Int32)) = (List.replicate n (0 : Int32)).map .int := by rw [List.map_replicate, h]
theorem own_capApp {bs zs : List Int32} {c : Nat} (h : c + zs.length ≤ bs.length) : (bs.take c ++ zs ++ bs.drop (c + zs.length)).length = bs.length := by
  rw [List.length_append, List.length_append, List.length_take, List.length_drop]; omega
theorem own_kd {k d : Int32} {i e : Nat} (hk : k.toInt = (i : Nat)) (hd : d.toInt = (e : Nat)) (hi : i ≤ 10) (he : e ≤ 1) : (k + d).toInt = ((i + e : Nat) : Int) := own_add hk hd (by omega) (by omega)
theorem own_szN {x : Int32} (h : x.toInt < 0) : own_dec x = 45 :: own_dg (own_mag x) := by unfold own_dec own_sg; rw [if_pos h]; rfl
theorem own_szP {x : Int32} (h : 0 ≤ x.toInt) : own_dec x = own_dg (own_mag x) := by unfold own_dec own_sg; rw [if_neg (by omega)]; rfl
theorem own_at1 (A : List Int32) (v : Int32) (T : List Int32) : (A ++ v :: T)[A.length]? = some v := by rw [List.getElem?_append_right (Nat.le_refl _), Nat.sub_self]; rfl
theorem own_pm1 {p : Int32} {k : Nat} (h : p.toInt = ((k + 1 : Nat) : Int)) (hk : k < 1000) : (p + (-1 : Int32)).toInt = (k : Nat) := by
  have h1 := c_iadd p (-1)
  have h3 := rng32 (p + (-1))
  have e1 : (-1 : Int32).toInt = -1 := by decide
  omega
theorem own_q100 {z : Int32} {n : Nat} (h : z.toInt = -(n : Int)) (hn : n ≤ 2147483648) (h1 : 100 ≤ n) : (z / (100 : Int32)).toInt = -((n / 100 : Nat) : Int) := by
  have q := (c_idiv z 100 100 (by decide) (by decide)).2 (by omega)
  rw [q, h]
  have e : -(-(n : Int)) = (n : Int) := by omega
  rw [e]; rfl
theorem own_r100 {z q : Int32} {n : Nat} (h : z.toInt = -(n : Int)) (hn : n ≤ 2147483648) (hq : q.toInt = -((n / 100 : Nat) : Int)) : (q * (100 : Int32) - z).toInt = ((n % 100 : Nat) : Int) := by
  have h1 := c_imul q 100
  have h2 := c_isub (q * 100) z
  have h3 := rng32 (q * (100 : Int32) - z)
  have h4 := rng32 (q * (100 : Int32))
  have e1 : (100 : Int32).toInt = 100 := by decide
  rw [e1] at h1
  omega
theorem own_neg {z : Int32} {n : Nat} (h : z.toInt = -(n : Int)) (hn : n < 1000) : (-z).toInt = (n : Nat) := by
  have h1 := c_ineg z
  have h2 := rng32 (-z)
  omega
theorem own_at2 (A : List Int32) (u v : Int32) (T : List Int32) : (A ++ u :: v :: T)[A.length + 1]? = some v := by
  rw [List.getElem?_append_right (by omega)]
  have e : A.length + 1 - A.length = 1 := by omega
  rw [e]; rfl
theorem own_last (P : List Int32) {n : Nat} (h : n < 100) : ∃ D, P ++ own_dg n = D ++ [own_dv (n % 10)] ∧ D = P ++ (if n < 10 then [] else [own_dv (n / 10)]) := by
  by_cases q : n < 10
  · refine ⟨P, ?_, by rw [if_pos q, List.append_nil]⟩
    rw [own_dg1 q, Nat.mod_eq_of_lt q]
  · refine ⟨P ++ [own_dv (n / 10)], ?_, by rw [if_neg q]⟩
    rw [own_dg2 (by omega), own_dg1 (by omega), List.append_assoc]
theorem own_m1 (n : Nat) : n % 100 / 10 < 10 := by omega
theorem own_m2 (n : Nat) : n % 100 % 10 < 10 := by omega
theorem own_m3 (n : Nat) : n % 10 < 10 := by omega
theorem own_m4 {n : Nat} (h : n < 100) : n / 10 < 10 := by omega
theorem own_m5 (n : Nat) : n % 100 < 100 := by omega
theorem own_z9 {z : Int32} {n : Nat} (hz : z.toInt = -(n : Int)) (h : (-9) ≤ z.toInt) : n < 10 := by omega
theorem own_z10 {z : Int32} {n : Nat} (hz : z.toInt = -(n : Int)) (h : z.toInt < (-9)) : ¬ n < 10 := by omega
theorem own_z100 {z : Int32} {n : Nat} (hz : z.toInt = -(n : Int)) (h : z.toInt ≤ (-100)) : 100 ≤ n := by omega
theorem own_z99 {z : Int32} {n : Nat} (hz : z.toInt = -(n : Int)) (h : (-100) < z.toInt) : n < 100 := by omega
theorem own_r1 {n m : Nat} (h : 100 ≤ n) (hm : n ≤ m) : n / 100 < m := by omega
theorem own_r2 {n : Nat} (h : n ≤ 2147483648) : n / 100 ≤ 2147483648 := by omega
theorem own_k1 {a n : Nat} (h : a + 1 ≤ n) (hb : n < 1000) : a < 1000 := by omega
theorem own_k2 {a n : Nat} (h : a + 2 ≤ n) : a + 1 ≤ n := by omega
theorem own_j1 {a n u : Nat} (h : a + 1 ≤ n) (hu : u = n) : a < u := by omega
theorem own_i1 {us : List Int32} {a n : Nat} (h : a + 1 ≤ n) (hu : us.length = n) : a < (us.map Value.int).length := by rw [List.length_map]; omega
theorem own_ls {us : List Int32} {i n : Nat} {v : Int32} (hu : us.length = n) : (us.set i v).length = n := by rw [List.length_set]; exact hu
theorem own_wl {W B : List Int32} {u v : Int32} {T : List Int32} {n : Nat} (h : W.length ≤ n) (e : W = B ++ u :: v :: T) : B.length + 2 ≤ n := by
  rw [e, List.length_append] at h
  simp only [List.length_cons] at h
  omega
theorem own_wl1 {W B : List Int32} {u : Int32} {T : List Int32} {n : Nat} (h : W.length ≤ n) (e : W = B ++ u :: T) : B.length + 1 ≤ n := by
  rw [e, List.length_append] at h
  simp only [List.length_cons] at h
  omega
/-- getChars: what stands while digits are still to be written -/
def own_gc (us w : List Int32) (c k : Nat) : Prop := own_ag us w c k ∧ own_by us
theorem own_gcS {us w : List Int32} {c p k : Nat} {v : Int32} (h : own_gc us w c k) (hk : k = p + 1) (hv : w[p]? = some v) (hl : p < us.length) (hb : -128 ≤ v.toInt ∧ v.toInt ≤ 127) : own_gc (us.set p v) w c p := by
  subst hk; exact ⟨own_agS h.1 hv hl, own_byS h.2 hb⟩
theorem own_range {bs cs : List Int32} (h : own_pf bs cs) : (List.replicate cs.length (0 : Int32)).take 0 ++ (bs.drop 0).take cs.length ++ (List.replicate cs.length (0 : Int32)).drop (0 + cs.length) = cs := by
  rw [List.drop_zero, own_pfTake h, List.drop_replicate, Nat.zero_add, Nat.sub_self]; simp
theorem own_all {bs cs : List Int32} (h : own_pf bs cs) (hl : cs.length = bs.length) : bs = cs := by
  have q := own_pfTake h
  rwa [hl, List.take_length] at q
theorem own_l115 : own_by [115] := fun z hz => by simp at hz; subst hz; decide
theorem own_l112 : own_by [112] := fun z hz => by simp at hz; subst hz; decide
theorem own_l58 : own_by [58] := fun z hz => by simp at hz; subst hz; decide
theorem own_l582 : own_by [58, 32] := fun z hz => by simp at hz; rcases hz with rfl | rfl <;> decide
theorem own_xw {a0 : Array Value} {Z : State} (hw : ∀ d ∈ tables_1, d.before a0 Z = true) : ∀ d ∈ excAtoms "quadrille/SyntaxException", d = misW ∨ d.before a0 Z = true := fun d hd => by
  simp only [excAtoms, Bundle.throwableAtoms, List.cons_append, List.nil_append, List.mem_cons, List.not_mem_nil, or_false] at hd
  rcases hd with rfl | rfl | rfl | rfl | rfl | rfl | rfl | rfl | rfl | rfl | rfl | rfl | rfl | rfl | rfl | rfl | rfl | rfl | rfl | rfl | rfl | rfl | rfl | rfl | rfl | rfl | rfl | rfl | rfl | rfl | rfl | rfl | rfl | rfl | rfl | rfl | rfl | rfl
  · exact Or.inr (hw _ (List.mem_of_getElem? (i := 246) rfl))
  · exact Or.inr (hw _ (List.mem_of_getElem? (i := 264) rfl))
  · exact Or.inr (hw _ (List.mem_of_getElem? (i := 259) rfl))
  · exact Or.inr (hw _ (List.mem_of_getElem? (i := 265) rfl))
  · exact Or.inr (hw _ (List.mem_of_getElem? (i := 266) rfl))
  · exact Or.inr (hw _ (List.mem_of_getElem? (i := 267) rfl))
  · exact Or.inr (hw _ (List.mem_of_getElem? (i := 268) rfl))
  · exact Or.inr (hw _ (List.mem_of_getElem? (i := 269) rfl))
  · exact Or.inr (hw _ (List.mem_of_getElem? (i := 16) rfl))
  · exact Or.inr (hw _ (List.mem_of_getElem? (i := 17) rfl))
  · exact Or.inr (hw _ (List.mem_of_getElem? (i := 248) rfl))
  · exact Or.inr (hw _ (List.mem_of_getElem? (i := 257) rfl))
  · exact Or.inr (hw _ (List.mem_of_getElem? (i := 270) rfl))
  · exact Or.inr (hw _ (List.mem_of_getElem? (i := 249) rfl))
  · exact Or.inr (hw _ (List.mem_of_getElem? (i := 271) rfl))
  · exact Or.inr (hw _ (List.mem_of_getElem? (i := 252) rfl))
  · exact Or.inr (hw _ (List.mem_of_getElem? (i := 272) rfl))
  · exact Or.inr (hw _ (List.mem_of_getElem? (i := 255) rfl))
  · exact Or.inl rfl
  · exact Or.inr (hw _ (List.mem_of_getElem? (i := 251) rfl))
  · exact Or.inr (hw _ (List.mem_of_getElem? (i := 277) rfl))
  · exact Or.inr (hw _ (List.mem_of_getElem? (i := 254) rfl))
  · exact Or.inr (hw _ (List.mem_of_getElem? (i := 278) rfl))
  · exact Or.inr (hw _ (List.mem_of_getElem? (i := 273) rfl))
  · exact Or.inr (hw _ (List.mem_of_getElem? (i := 258) rfl))
  · exact Or.inr (hw _ (List.mem_of_getElem? (i := 279) rfl))
  · exact Or.inr (hw _ (List.mem_of_getElem? (i := 260) rfl))
  · exact Or.inr (hw _ (List.mem_of_getElem? (i := 250) rfl))
  · exact Or.inr (hw _ (List.mem_of_getElem? (i := 253) rfl))
  · exact Or.inr (hw _ (List.mem_of_getElem? (i := 256) rfl))
  · exact Or.inr (hw _ (List.mem_of_getElem? (i := 280) rfl))
  · exact Or.inr (hw _ (List.mem_of_getElem? (i := 275) rfl))
  · exact Or.inr (hw _ (List.mem_of_getElem? (i := 276) rfl))
  · exact Or.inr (hw _ (List.mem_of_getElem? (i := 281) rfl))
  · exact Or.inr (hw _ (List.mem_of_getElem? (i := 261) rfl))
  · exact Or.inr (hw _ (List.mem_of_getElem? (i := 262) rfl))
  · exact Or.inr (hw _ (List.mem_of_getElem? (i := 263) rfl))
  · exact Or.inr (hw _ (List.mem_of_getElem? (i := 282) rfl))
theorem own_mapI : ∀ as bs : List Int32, as.map Value.int = bs.map Value.int → as = bs
  | [], [], _ => rfl
  | [], _ :: _, h => by simp at h
  | _ :: _, [], h => by simp at h
  | x :: as, y :: bs, h => by
    rw [List.map_cons, List.map_cons, List.cons.injEq] at h
    rw [Value.int.inj h.1, own_mapI as bs h.2]
theorem own_avU {Z : State} {h : Heap} {x : Addr} {as bs : List Int32} (A : Av Z h x .byte (as.map .int)) (B : Av Z h x .byte (bs.map .int)) : as = bs := by
  obtain ⟨c, A, ea⟩ := A
  obtain ⟨c', B, eb⟩ := B
  cases A.1.symm.trans B.1
  have q := ea.symm.trans eb
  exact own_mapI as bs q
theorem own_0i {i : Int32} : (0 : Int32) + i = i := by simp
theorem own_msgL (x : Int32) : (own_msg x).length < 90 := by
  have h := own_decL x
  unfold own_msg
  rw [own_dec1]
  simp only [List.length_append, List.length_cons, List.length_nil]; omega
theorem pn0 : plainName "quadrille/LexerResetPinLaw" = true := by first | (simp [plainName, overriddenIn]; done) | decide +kernel
theorem pn6 : plainName "java/lang/StringUTF16" = true := by first | (simp [plainName, overriddenIn]; done) | decide +kernel
theorem pn5 : plainName "java/lang/StringUTF16" = true := by first | (simp [plainName, overriddenIn]; done) | decide +kernel
theorem pn7 : plainName "java/lang/StringUTF16" = true := by first | (simp [plainName, overriddenIn]; done) | decide +kernel
theorem pn3 : plainName "java/lang/String" = true := by first | (simp [plainName, overriddenIn]; done) | decide +kernel
theorem pn2 : plainName "java/lang/String" = true := by first | (simp [plainName, overriddenIn]; done) | decide +kernel
theorem pn1 : plainName "quadrille/LexerResetPinLaw" = true := by first | (simp [plainName, overriddenIn]; done) | decide +kernel
theorem pn8 : plainName "quadrille/Lexer" = true := by first | (simp [plainName, overriddenIn]; done) | decide +kernel
theorem pn9 : plainName "quadrille/Lexer" = true := by first | (simp [plainName, overriddenIn]; done) | decide +kernel
theorem pn10 : plainName "quadrille/Lexer" = true := by first | (simp [plainName, overriddenIn]; done) | decide +kernel
theorem pn11 : plainName "quadrille/Lexer" = true := by first | (simp [plainName, overriddenIn]; done) | decide +kernel
theorem pn13 : plainName "quadrille/LineColumn" = true := by first | (simp [plainName, overriddenIn]; done) | decide +kernel
theorem pn14 : plainName "quadrille/LineColumn" = true := by first | (simp [plainName, overriddenIn]; done) | decide +kernel
theorem pn15 : plainName "quadrille/LineColumn" = true := by first | (simp [plainName, overriddenIn]; done) | decide +kernel
theorem pn22 : plainName "java/lang/String" = true := by first | (simp [plainName, overriddenIn]; done) | decide +kernel
theorem pn21 : plainName "java/lang/String" = true := by first | (simp [plainName, overriddenIn]; done) | decide +kernel
theorem pn18 : plainName "java/lang/AbstractStringBuilder" = true := by first | (simp [plainName, overriddenIn]; done) | decide +kernel
theorem pn17 : plainName "java/lang/StringBuilder" = true := by first | (simp [plainName, overriddenIn]; done) | decide +kernel
theorem pl55 : plainFor (⟨"java/lang/Math", "max", "(II)I"⟩ : MethodName) = true := Jvm.Free.JP.mathPlain rfl (by decide +kernel)
theorem pl41 : plainFor (⟨"java/lang/Math", "min", "(II)I"⟩ : MethodName) = true := Jvm.Free.JP.mathPlain rfl (by decide +kernel)
theorem pn54 : plainName "jdk/internal/util/ArraysSupport" = true := by first | (simp [plainName, overriddenIn]; done) | decide +kernel
theorem pn53 : plainName "java/lang/AbstractStringBuilder" = true := by first | (simp [plainName, overriddenIn]; done) | decide +kernel
theorem pn56 : plainName "java/util/Arrays" = true := by first | (simp [plainName, overriddenIn]; done) | decide +kernel
theorem pn23 : plainName "java/lang/AbstractStringBuilder" = true := by first | (simp [plainName, overriddenIn]; done) | decide +kernel
theorem pn25 : plainName "java/lang/AbstractStringBuilder" = true := by first | (simp [plainName, overriddenIn]; done) | decide +kernel
theorem pn26 : plainName "java/lang/String" = true := by first | (simp [plainName, overriddenIn]; done) | decide +kernel
theorem pn24 : plainName "java/lang/AbstractStringBuilder" = true := by first | (simp [plainName, overriddenIn]; done) | decide +kernel
theorem pn20 : plainName "java/lang/AbstractStringBuilder" = true := by first | (simp [plainName, overriddenIn]; done) | decide +kernel
theorem pn19 : plainName "java/lang/StringBuilder" = true := by first | (simp [plainName, overriddenIn]; done) | decide +kernel
theorem pn29 : plainName "java/lang/Integer" = true := by first | (simp [plainName, overriddenIn]; done) | decide +kernel
theorem pn30 : plainName "java/lang/AbstractStringBuilder" = true := by first | (simp [plainName, overriddenIn]; done) | decide +kernel
theorem pn31 : plainName "java/lang/Integer" = true := by first | (simp [plainName, overriddenIn]; done) | decide +kernel
theorem pn28 : plainName "java/lang/AbstractStringBuilder" = true := by first | (simp [plainName, overriddenIn]; done) | decide +kernel
theorem pn27 : plainName "java/lang/StringBuilder" = true := by first | (simp [plainName, overriddenIn]; done) | decide +kernel
theorem pn35 : plainName "java/lang/AbstractStringBuilder" = true := by first | (simp [plainName, overriddenIn]; done) | decide +kernel
theorem pn37 : plainName "java/lang/AbstractStringBuilder" = true := by first | (simp [plainName, overriddenIn]; done) | decide +kernel
theorem pn36 : plainName "java/lang/StringBuilder" = true := by first | (simp [plainName, overriddenIn]; done) | decide +kernel
theorem pn40 : plainName "java/util/Arrays" = true := by first | (simp [plainName, overriddenIn]; done) | decide +kernel
theorem pn39 : plainName "java/util/Arrays" = true := by first | (simp [plainName, overriddenIn]; done) | decide +kernel
theorem pn38 : plainName "java/util/Arrays" = true := by first | (simp [plainName, overriddenIn]; done) | decide +kernel
theorem pn34 : plainName "java/lang/String" = true := by first | (simp [plainName, overriddenIn]; done) | decide +kernel
theorem pn33 : plainName "java/lang/String" = true := by first | (simp [plainName, overriddenIn]; done) | decide +kernel
theorem pn32 : plainName "java/lang/StringBuilder" = true := by first | (simp [plainName, overriddenIn]; done) | decide +kernel
theorem pn43 : plainName "java/lang/Throwable" = true := by first | (simp [plainName, overriddenIn]; done) | decide +kernel
theorem pn42 : plainName "java/lang/Exception" = true := by first | (simp [plainName, overriddenIn]; done) | decide +kernel
theorem pn16 : plainName "quadrille/SyntaxException" = true := by first | (simp [plainName, overriddenIn]; done) | decide +kernel
theorem pn12 : plainName "quadrille/Lexer" = true := by first | (simp [plainName, overriddenIn]; done) | decide +kernel
theorem pn46 : plainName "java/lang/Throwable" = true := by first | (simp [plainName, overriddenIn]; done) | decide +kernel
theorem pn48 : plainName "java/lang/StringLatin1" = true := by first | (simp [plainName, overriddenIn]; done) | decide +kernel
theorem pn47 : plainName "java/lang/String" = true := by first | (simp [plainName, overriddenIn]; done) | decide +kernel
theorem pn51 : plainName "jdk/internal/util/ArraysSupport" = true := by first | (simp [plainName, overriddenIn]; done) | decide +kernel
theorem pn50 : plainName "java/lang/String" = true := by first | (simp [plainName, overriddenIn]; done) | decide +kernel
theorem pn49 : plainName "quadrille/Lexer" = true := by first | (simp [plainName, overriddenIn]; done) | decide +kernel
theorem pn52 : plainName "quadrille/Lexer" = true := by first | (simp [plainName, overriddenIn]; done) | decide +kernel
theorem pd__ICCC_Ljava_lang_String_ : parseMethodDescriptor "(ICCC)Ljava/lang/String;" = some ⟨[.int, .char, .char, .char], some (.object "java/lang/String")⟩ := by decide +kernel
theorem pd__Ljava_lang_String_Ljava_lang_String__V : parseMethodDescriptor "(Ljava/lang/String;Ljava/lang/String;)V" = some ⟨[(.object "java/lang/String"), (.object "java/lang/String")], none⟩ := by decide +kernel
theorem pd__Ljava_lang_String_I_V : parseMethodDescriptor "(Ljava/lang/String;I)V" = some ⟨[(.object "java/lang/String"), .int], none⟩ := by decide +kernel
theorem pd__I_V : parseMethodDescriptor "(I)V" = some ⟨[.int], none⟩ := by decide +kernel
theorem pd___I : parseMethodDescriptor "()I" = some ⟨[], some .int⟩ := by decide +kernel
theorem pd__ILjava_lang_String__Lquadrille_SyntaxException_ : parseMethodDescriptor "(ILjava/lang/String;)Lquadrille/SyntaxException;" = some ⟨[.int, (.object "java/lang/String")], some (.object "quadrille/SyntaxException")⟩ := by decide +kernel
theorem pd___Ljava_lang_String_ : parseMethodDescriptor "()Ljava/lang/String;" = some ⟨[], some (.object "java/lang/String")⟩ := by decide +kernel
theorem pd__Ljava_lang_Object__Z : parseMethodDescriptor "(Ljava/lang/Object;)Z" = some ⟨[(.object "java/lang/Object")], some .boolean⟩ := by decide +kernel
theorem pd__Ljava_lang_String__Z : parseMethodDescriptor "(Ljava/lang/String;)Z" = some ⟨[(.object "java/lang/String")], some .boolean⟩ := by decide +kernel
theorem pd___Z : parseMethodDescriptor "()Z" = some ⟨[], some .boolean⟩ := by decide +kernel
theorem pd___CI_BII_I : parseMethodDescriptor "([CI[BII)I" = some ⟨[(.array .char), .int, (.array .byte), .int, .int], some .int⟩ := by decide +kernel
theorem pd___CII__B : parseMethodDescriptor "([CII)[B" = some ⟨[(.array .char), .int, .int], some (.array .byte)⟩ := by decide +kernel
theorem pd___BI_B : parseMethodDescriptor "([BI)B" = some ⟨[(.array .byte), .int], some .byte⟩ := by decide +kernel
theorem pd___CIILjava_lang_Void__V : parseMethodDescriptor "([CIILjava/lang/Void;)V" = some ⟨[(.array .char), .int, .int, (.object "java/lang/Void")], none⟩ := by decide +kernel
theorem pd___C_V : parseMethodDescriptor "([C)V" = some ⟨[(.array .char)], none⟩ := by decide +kernel
theorem pd___B : parseMethodDescriptor "()B" = some ⟨[], some .byte⟩ := by decide +kernel
theorem pd__II_I : parseMethodDescriptor "(II)I" = some ⟨[.int, .int], some .int⟩ := by decide +kernel
theorem pd__III_I : parseMethodDescriptor "(III)I" = some ⟨[.int, .int, .int], some .int⟩ := by decide +kernel
theorem pd__I_I : parseMethodDescriptor "(I)I" = some ⟨[.int], some .int⟩ := by decide +kernel
theorem pd___BI__B : parseMethodDescriptor "([BI)[B" = some ⟨[(.array .byte), .int], some (.array .byte)⟩ := by decide +kernel
theorem pd__Ljava_lang_String__V : parseMethodDescriptor "(Ljava/lang/String;)V" = some ⟨[(.object "java/lang/String")], none⟩ := by decide +kernel
theorem pd___BIB_V : parseMethodDescriptor "([BIB)V" = some ⟨[(.array .byte), .int, .byte], none⟩ := by decide +kernel
theorem pd__ILjava_lang_String__V : parseMethodDescriptor "(ILjava/lang/String;)V" = some ⟨[.int, (.object "java/lang/String")], none⟩ := by decide +kernel
theorem pd__Ljava_lang_String__Ljava_lang_AbstractStringBuilder_ : parseMethodDescriptor "(Ljava/lang/String;)Ljava/lang/AbstractStringBuilder;" = some ⟨[(.object "java/lang/String")], some (.object "java/lang/AbstractStringBuilder")⟩ := by decide +kernel
theorem pd__II_B_I : parseMethodDescriptor "(II[B)I" = some ⟨[.int, .int, (.array .byte)], some .int⟩ := by decide +kernel
theorem pd__I_Ljava_lang_AbstractStringBuilder_ : parseMethodDescriptor "(I)Ljava/lang/AbstractStringBuilder;" = some ⟨[.int], some (.object "java/lang/AbstractStringBuilder")⟩ := by decide +kernel
theorem pd__II_V : parseMethodDescriptor "(II)V" = some ⟨[.int, .int], none⟩ := by decide +kernel
theorem pd___BII__B : parseMethodDescriptor "([BII)[B" = some ⟨[(.array .byte), .int, .int], some (.array .byte)⟩ := by decide +kernel
theorem pd____B : parseMethodDescriptor "()[B" = some ⟨[], some (.array .byte)⟩ := by decide +kernel
theorem pd__Ljava_lang_AbstractStringBuilder_Ljava_lang_Void__V : parseMethodDescriptor "(Ljava/lang/AbstractStringBuilder;Ljava/lang/Void;)V" = some ⟨[(.object "java/lang/AbstractStringBuilder"), (.object "java/lang/Void")], none⟩ := by decide +kernel
theorem pd__Ljava_lang_StringBuilder__V : parseMethodDescriptor "(Ljava/lang/StringBuilder;)V" = some ⟨[(.object "java/lang/StringBuilder")], none⟩ := by decide +kernel
theorem pd___V : parseMethodDescriptor "()V" = some ⟨[], none⟩ := by decide +kernel
theorem pd__Ljava_lang_String__Ljava_lang_StringBuilder_ : parseMethodDescriptor "(Ljava/lang/String;)Ljava/lang/StringBuilder;" = some ⟨[(.object "java/lang/String")], some (.object "java/lang/StringBuilder")⟩ := by decide +kernel
theorem pd__I_Ljava_lang_StringBuilder_ : parseMethodDescriptor "(I)Ljava/lang/StringBuilder;" = some ⟨[.int], some (.object "java/lang/StringBuilder")⟩ := by decide +kernel
theorem pd__Ljava_lang_String_IILjava_lang_String__V : parseMethodDescriptor "(Ljava/lang/String;IILjava/lang/String;)V" = some ⟨[(.object "java/lang/String"), .int, .int, (.object "java/lang/String")], none⟩ := by decide +kernel
theorem pd___B_B_Z : parseMethodDescriptor "([B[B)Z" = some ⟨[(.array .byte), (.array .byte)], some .boolean⟩ := by decide +kernel
theorem pd___BI_BII_I : parseMethodDescriptor "([BI[BII)I" = some ⟨[(.array .byte), .int, (.array .byte), .int, .int], some .int⟩ := by decide +kernel
theorem pd__Ljava_lang_String_I_Z : parseMethodDescriptor "(Ljava/lang/String;I)Z" = some ⟨[(.object "java/lang/String"), .int], some .boolean⟩ := by decide +kernel

theorem d6_0 : decode jdk_52_method_21_code 0 = .ok (.iconst 0, 1) := by decide +kernel
theorem d6_1 : decode jdk_52_method_21_code 1 = .ok (.istore 5, 2) := by decide +kernel
theorem d6_3 : decode jdk_52_method_21_code 3 = .ok (.iload 5, 2) := by decide +kernel
theorem d6_5 : decode jdk_52_method_21_code 5 = .ok (.iload 4, 2) := by decide +kernel
theorem d6_7 : decode jdk_52_method_21_code 7 = .ok (.if_icmp .ge 37, 3) := by decide +kernel
theorem d6_10 : decode jdk_52_method_21_code 10 = .ok (.aload_n 0, 1) := by decide +kernel
theorem d6_11 : decode jdk_52_method_21_code 11 = .ok (.iload_n 1, 1) := by decide +kernel
theorem d6_12 : decode jdk_52_method_21_code 12 = .ok (.caload, 1) := by decide +kernel
theorem d6_13 : decode jdk_52_method_21_code 13 = .ok (.istore 6, 2) := by decide +kernel
theorem d6_15 : decode jdk_52_method_21_code 15 = .ok (.iload 6, 2) := by decide +kernel
theorem d6_17 : decode jdk_52_method_21_code 17 = .ok (.sipush 255, 3) := by decide +kernel
theorem d6_20 : decode jdk_52_method_21_code 20 = .ok (.if_icmp .le 6, 3) := by decide +kernel
theorem d6_23 : decode jdk_52_method_21_code 23 = .ok (.iload 5, 2) := by decide +kernel
theorem d6_25 : decode jdk_52_method_21_code 25 = .ok (.ireturn, 1) := by decide +kernel
theorem d6_26 : decode jdk_52_method_21_code 26 = .ok (.aload_n 2, 1) := by decide +kernel
theorem d6_27 : decode jdk_52_method_21_code 27 = .ok (.iload_n 3, 1) := by decide +kernel
theorem d6_28 : decode jdk_52_method_21_code 28 = .ok (.iload 6, 2) := by decide +kernel
theorem d6_30 : decode jdk_52_method_21_code 30 = .ok (.i2b, 1) := by decide +kernel
theorem d6_31 : decode jdk_52_method_21_code 31 = .ok (.bastore, 1) := by decide +kernel
theorem d6_32 : decode jdk_52_method_21_code 32 = .ok (.iinc 1 1, 3) := by decide +kernel
theorem d6_35 : decode jdk_52_method_21_code 35 = .ok (.iinc 3 1, 3) := by decide +kernel
theorem d6_38 : decode jdk_52_method_21_code 38 = .ok (.iinc 5 1, 3) := by decide +kernel
theorem d6_41 : decode jdk_52_method_21_code 41 = .ok (.goto (-38), 3) := by decide +kernel
theorem d6_44 : decode jdk_52_method_21_code 44 = .ok (.iload 4, 2) := by decide +kernel
theorem d6_46 : decode jdk_52_method_21_code 46 = .ok (.ireturn, 1) := by decide +kernel
theorem d5_0 : decode jdk_52_method_16_code 0 = .ok (.iload_n 2, 1) := by decide +kernel
theorem d5_1 : decode jdk_52_method_16_code 1 = .ok (.newarray .byte, 2) := by decide +kernel
theorem d5_3 : decode jdk_52_method_16_code 3 = .ok (.astore_n 3, 1) := by decide +kernel
theorem d5_4 : decode jdk_52_method_16_code 4 = .ok (.aload_n 0, 1) := by decide +kernel
theorem d5_5 : decode jdk_52_method_16_code 5 = .ok (.iload_n 1, 1) := by decide +kernel
theorem d5_6 : decode jdk_52_method_16_code 6 = .ok (.aload_n 3, 1) := by decide +kernel
theorem d5_7 : decode jdk_52_method_16_code 7 = .ok (.iconst 0, 1) := by decide +kernel
theorem d5_8 : decode jdk_52_method_16_code 8 = .ok (.iload_n 2, 1) := by decide +kernel
theorem d5_9 : decode jdk_52_method_16_code 9 = .ok (.invokestatic 115, 3) := by decide +kernel
theorem d5_12 : decode jdk_52_method_16_code 12 = .ok (.istore 4, 2) := by decide +kernel
theorem d5_14 : decode jdk_52_method_16_code 14 = .ok (.iload 4, 2) := by decide +kernel
theorem d5_16 : decode jdk_52_method_16_code 16 = .ok (.iload_n 2, 1) := by decide +kernel
theorem d5_17 : decode jdk_52_method_16_code 17 = .ok (.if_icmp .eq 40, 3) := by decide +kernel
theorem d5_57 : decode jdk_52_method_16_code 57 = .ok (.aload_n 3, 1) := by decide +kernel
theorem d5_58 : decode jdk_52_method_16_code 58 = .ok (.areturn, 1) := by decide +kernel
theorem d7_0 : decode jdk_52_method_15_code 0 = .ok (.iload_n 1, 1) := by decide +kernel
theorem d7_1 : decode jdk_52_method_15_code 1 = .ok (.aload_n 0, 1) := by decide +kernel
theorem d7_2 : decode jdk_52_method_15_code 2 = .ok (.arraylength, 1) := by decide +kernel
theorem d7_3 : decode jdk_52_method_15_code 3 = .ok (.isub, 1) := by decide +kernel
theorem d7_4 : decode jdk_52_method_15_code 4 = .ok (.bipush 31, 2) := by decide +kernel
theorem d7_6 : decode jdk_52_method_15_code 6 = .ok (.iushr, 1) := by decide +kernel
theorem d7_7 : decode jdk_52_method_15_code 7 = .ok (.i2b, 1) := by decide +kernel
theorem d7_8 : decode jdk_52_method_15_code 8 = .ok (.ireturn, 1) := by decide +kernel
theorem d3_0 : decode jdk_42_method_149_code 0 = .ok (.aload_n 0, 1) := by decide +kernel
theorem d3_1 : decode jdk_42_method_149_code 1 = .ok (.invokespecial 1, 3) := by decide +kernel
theorem d3_4 : decode jdk_42_method_149_code 4 = .ok (.iload_n 3, 1) := by decide +kernel
theorem d3_5 : decode jdk_42_method_149_code 5 = .ok (.ifCond .ne 22, 3) := by decide +kernel
theorem d3_8 : decode jdk_42_method_149_code 8 = .ok (.aload_n 0, 1) := by decide +kernel
theorem d3_9 : decode jdk_42_method_149_code 9 = .ok (.ldc 7, 2) := by decide +kernel
theorem d3_11 : decode jdk_42_method_149_code 11 = .ok (.getfield 9, 3) := by decide +kernel
theorem d3_14 : decode jdk_42_method_149_code 14 = .ok (.putfield 9, 3) := by decide +kernel
theorem d3_17 : decode jdk_42_method_149_code 17 = .ok (.aload_n 0, 1) := by decide +kernel
theorem d3_18 : decode jdk_42_method_149_code 18 = .ok (.ldc 7, 2) := by decide +kernel
theorem d3_20 : decode jdk_42_method_149_code 20 = .ok (.getfield 15, 3) := by decide +kernel
theorem d3_23 : decode jdk_42_method_149_code 23 = .ok (.putfield 15, 3) := by decide +kernel
theorem d3_26 : decode jdk_42_method_149_code 26 = .ok (.return_, 1) := by decide +kernel
theorem d3_27 : decode jdk_42_method_149_code 27 = .ok (.getstatic 38, 3) := by decide +kernel
theorem d3_30 : decode jdk_42_method_149_code 30 = .ok (.ifCond .eq 28, 3) := by decide +kernel
theorem d3_33 : decode jdk_42_method_149_code 33 = .ok (.aload_n 1, 1) := by decide +kernel
theorem d3_34 : decode jdk_42_method_149_code 34 = .ok (.iload_n 2, 1) := by decide +kernel
theorem d3_35 : decode jdk_42_method_149_code 35 = .ok (.iload_n 3, 1) := by decide +kernel
theorem d3_36 : decode jdk_42_method_149_code 36 = .ok (.invokestatic 177, 3) := by decide +kernel
theorem d3_39 : decode jdk_42_method_149_code 39 = .ok (.astore 5, 2) := by decide +kernel
theorem d3_41 : decode jdk_42_method_149_code 41 = .ok (.aload_n 0, 1) := by decide +kernel
theorem d3_42 : decode jdk_42_method_149_code 42 = .ok (.aload 5, 2) := by decide +kernel
theorem d3_44 : decode jdk_42_method_149_code 44 = .ok (.iload_n 3, 1) := by decide +kernel
theorem d3_45 : decode jdk_42_method_149_code 45 = .ok (.invokestatic 47, 3) := by decide +kernel
theorem d3_48 : decode jdk_42_method_149_code 48 = .ok (.putfield 15, 3) := by decide +kernel
theorem d3_51 : decode jdk_42_method_149_code 51 = .ok (.aload_n 0, 1) := by decide +kernel
theorem d3_52 : decode jdk_42_method_149_code 52 = .ok (.aload 5, 2) := by decide +kernel
theorem d3_54 : decode jdk_42_method_149_code 54 = .ok (.putfield 9, 3) := by decide +kernel
theorem d3_57 : decode jdk_42_method_149_code 57 = .ok (.return_, 1) := by decide +kernel
theorem d2_0 : decode jdk_42_method_3_code 0 = .ok (.aload_n 0, 1) := by decide +kernel
theorem d2_1 : decode jdk_42_method_3_code 1 = .ok (.aload_n 1, 1) := by decide +kernel
theorem d2_2 : decode jdk_42_method_3_code 2 = .ok (.iconst 0, 1) := by decide +kernel
theorem d2_3 : decode jdk_42_method_3_code 3 = .ok (.aload_n 1, 1) := by decide +kernel
theorem d2_4 : decode jdk_42_method_3_code 4 = .ok (.arraylength, 1) := by decide +kernel
theorem d2_5 : decode jdk_42_method_3_code 5 = .ok (.aconst_null, 1) := by decide +kernel
theorem d2_6 : decode jdk_42_method_3_code 6 = .ok (.invokespecial 27, 3) := by decide +kernel
theorem d2_9 : decode jdk_42_method_3_code 9 = .ok (.return_, 1) := by decide +kernel
theorem d1_0 : decode method_2_code 0 = .ok (.iload_n 0, 1) := by decide +kernel
theorem d1_1 : decode method_2_code 1 = .ok (.ifCond .ne 14, 3) := by decide +kernel
theorem d1_4 : decode method_2_code 4 = .ok (.new 7, 3) := by decide +kernel
theorem d1_7 : decode method_2_code 7 = .ok (.dup, 1) := by decide +kernel
theorem d1_8 : decode method_2_code 8 = .ok (.iconst 0, 1) := by decide +kernel
theorem d1_9 : decode method_2_code 9 = .ok (.newarray .char, 2) := by decide +kernel
theorem d1_11 : decode method_2_code 11 = .ok (.invokespecial 9, 3) := by decide +kernel
theorem d1_14 : decode method_2_code 14 = .ok (.areturn, 1) := by decide +kernel
theorem d1_15 : decode method_2_code 15 = .ok (.iload_n 0, 1) := by decide +kernel
theorem d1_16 : decode method_2_code 16 = .ok (.iconst 1, 1) := by decide +kernel
theorem d1_17 : decode method_2_code 17 = .ok (.if_icmp .ne 18, 3) := by decide +kernel
theorem d1_20 : decode method_2_code 20 = .ok (.new 7, 3) := by decide +kernel
theorem d1_23 : decode method_2_code 23 = .ok (.dup, 1) := by decide +kernel
theorem d1_24 : decode method_2_code 24 = .ok (.iconst 1, 1) := by decide +kernel
theorem d1_25 : decode method_2_code 25 = .ok (.newarray .char, 2) := by decide +kernel
theorem d1_27 : decode method_2_code 27 = .ok (.dup, 1) := by decide +kernel
theorem d1_28 : decode method_2_code 28 = .ok (.iconst 0, 1) := by decide +kernel
theorem d1_29 : decode method_2_code 29 = .ok (.iload_n 1, 1) := by decide +kernel
theorem d1_30 : decode method_2_code 30 = .ok (.castore, 1) := by decide +kernel
theorem d1_31 : decode method_2_code 31 = .ok (.invokespecial 9, 3) := by decide +kernel
theorem d1_34 : decode method_2_code 34 = .ok (.areturn, 1) := by decide +kernel
theorem d1_35 : decode method_2_code 35 = .ok (.iload_n 0, 1) := by decide +kernel
theorem d1_36 : decode method_2_code 36 = .ok (.iconst 2, 1) := by decide +kernel
theorem d1_37 : decode method_2_code 37 = .ok (.if_icmp .ne 22, 3) := by decide +kernel
theorem d1_40 : decode method_2_code 40 = .ok (.new 7, 3) := by decide +kernel
theorem d1_43 : decode method_2_code 43 = .ok (.dup, 1) := by decide +kernel
theorem d1_44 : decode method_2_code 44 = .ok (.iconst 2, 1) := by decide +kernel
theorem d1_45 : decode method_2_code 45 = .ok (.newarray .char, 2) := by decide +kernel
theorem d1_47 : decode method_2_code 47 = .ok (.dup, 1) := by decide +kernel
theorem d1_48 : decode method_2_code 48 = .ok (.iconst 0, 1) := by decide +kernel
theorem d1_49 : decode method_2_code 49 = .ok (.iload_n 1, 1) := by decide +kernel
theorem d1_50 : decode method_2_code 50 = .ok (.castore, 1) := by decide +kernel
theorem d1_51 : decode method_2_code 51 = .ok (.dup, 1) := by decide +kernel
theorem d1_52 : decode method_2_code 52 = .ok (.iconst 1, 1) := by decide +kernel
theorem d1_53 : decode method_2_code 53 = .ok (.iload_n 2, 1) := by decide +kernel
theorem d1_54 : decode method_2_code 54 = .ok (.castore, 1) := by decide +kernel
theorem d1_55 : decode method_2_code 55 = .ok (.invokespecial 9, 3) := by decide +kernel
theorem d1_58 : decode method_2_code 58 = .ok (.areturn, 1) := by decide +kernel
theorem d1_59 : decode method_2_code 59 = .ok (.new 7, 3) := by decide +kernel
theorem d1_62 : decode method_2_code 62 = .ok (.dup, 1) := by decide +kernel
theorem d1_63 : decode method_2_code 63 = .ok (.iconst 3, 1) := by decide +kernel
theorem d1_64 : decode method_2_code 64 = .ok (.newarray .char, 2) := by decide +kernel
theorem d1_66 : decode method_2_code 66 = .ok (.dup, 1) := by decide +kernel
theorem d1_67 : decode method_2_code 67 = .ok (.iconst 0, 1) := by decide +kernel
theorem d1_68 : decode method_2_code 68 = .ok (.iload_n 1, 1) := by decide +kernel
theorem d1_69 : decode method_2_code 69 = .ok (.castore, 1) := by decide +kernel
theorem d1_70 : decode method_2_code 70 = .ok (.dup, 1) := by decide +kernel
theorem d1_71 : decode method_2_code 71 = .ok (.iconst 1, 1) := by decide +kernel
theorem d1_72 : decode method_2_code 72 = .ok (.iload_n 2, 1) := by decide +kernel
theorem d1_73 : decode method_2_code 73 = .ok (.castore, 1) := by decide +kernel
theorem d1_74 : decode method_2_code 74 = .ok (.dup, 1) := by decide +kernel
theorem d1_75 : decode method_2_code 75 = .ok (.iconst 2, 1) := by decide +kernel
theorem d1_76 : decode method_2_code 76 = .ok (.iload_n 3, 1) := by decide +kernel
theorem d1_77 : decode method_2_code 77 = .ok (.castore, 1) := by decide +kernel
theorem d1_78 : decode method_2_code 78 = .ok (.invokespecial 9, 3) := by decide +kernel
theorem d1_81 : decode method_2_code 81 = .ok (.areturn, 1) := by decide +kernel
theorem d8_0 : decode prog_70_method_1_code 0 = .ok (.aload_n 0, 1) := by decide +kernel
theorem d8_1 : decode prog_70_method_1_code 1 = .ok (.invokespecial 1, 3) := by decide +kernel
theorem d8_4 : decode prog_70_method_1_code 4 = .ok (.aload_n 0, 1) := by decide +kernel
theorem d8_5 : decode prog_70_method_1_code 5 = .ok (.ldc 7, 2) := by decide +kernel
theorem d8_7 : decode prog_70_method_1_code 7 = .ok (.putfield 9, 3) := by decide +kernel
theorem d8_10 : decode prog_70_method_1_code 10 = .ok (.aload_n 0, 1) := by decide +kernel
theorem d8_11 : decode prog_70_method_1_code 11 = .ok (.iconst 1, 1) := by decide +kernel
theorem d8_12 : decode prog_70_method_1_code 12 = .ok (.putfield 15, 3) := by decide +kernel
theorem d8_15 : decode prog_70_method_1_code 15 = .ok (.aload_n 0, 1) := by decide +kernel
theorem d8_16 : decode prog_70_method_1_code 16 = .ok (.aload_n 1, 1) := by decide +kernel
theorem d8_17 : decode prog_70_method_1_code 17 = .ok (.putfield 19, 3) := by decide +kernel
theorem d8_20 : decode prog_70_method_1_code 20 = .ok (.aload_n 0, 1) := by decide +kernel
theorem d8_21 : decode prog_70_method_1_code 21 = .ok (.aload_n 2, 1) := by decide +kernel
theorem d8_22 : decode prog_70_method_1_code 22 = .ok (.putfield 22, 3) := by decide +kernel
theorem d8_25 : decode prog_70_method_1_code 25 = .ok (.return_, 1) := by decide +kernel
theorem d9_0 : decode prog_70_method_2_code 0 = .ok (.aload_n 0, 1) := by decide +kernel
theorem d9_1 : decode prog_70_method_2_code 1 = .ok (.aload_n 1, 1) := by decide +kernel
theorem d9_2 : decode prog_70_method_2_code 2 = .ok (.putfield 9, 3) := by decide +kernel
theorem d9_5 : decode prog_70_method_2_code 5 = .ok (.aload_n 0, 1) := by decide +kernel
theorem d9_6 : decode prog_70_method_2_code 6 = .ok (.iload_n 2, 1) := by decide +kernel
theorem d9_7 : decode prog_70_method_2_code 7 = .ok (.putfield 15, 3) := by decide +kernel
theorem d9_10 : decode prog_70_method_2_code 10 = .ok (.aload_n 0, 1) := by decide +kernel
theorem d9_11 : decode prog_70_method_2_code 11 = .ok (.iconst 0, 1) := by decide +kernel
theorem d9_12 : decode prog_70_method_2_code 12 = .ok (.putfield 25, 3) := by decide +kernel
theorem d9_15 : decode prog_70_method_2_code 15 = .ok (.aload_n 0, 1) := by decide +kernel
theorem d9_16 : decode prog_70_method_2_code 16 = .ok (.iconst 0, 1) := by decide +kernel
theorem d9_17 : decode prog_70_method_2_code 17 = .ok (.putfield 28, 3) := by decide +kernel
theorem d9_20 : decode prog_70_method_2_code 20 = .ok (.return_, 1) := by decide +kernel
theorem d10_0 : decode prog_70_method_7_code 0 = .ok (.aload_n 0, 1) := by decide +kernel
theorem d10_1 : decode prog_70_method_7_code 1 = .ok (.iload_n 1, 1) := by decide +kernel
theorem d10_2 : decode prog_70_method_7_code 2 = .ok (.putfield 25, 3) := by decide +kernel
theorem d10_5 : decode prog_70_method_7_code 5 = .ok (.return_, 1) := by decide +kernel
theorem d11_0 : decode prog_70_method_6_code 0 = .ok (.aload_n 0, 1) := by decide +kernel
theorem d11_1 : decode prog_70_method_6_code 1 = .ok (.getfield 25, 3) := by decide +kernel
theorem d11_4 : decode prog_70_method_6_code 4 = .ok (.ireturn, 1) := by decide +kernel
theorem d13_0 : decode prog_72_method_1_code 0 = .ok (.aload_n 0, 1) := by decide +kernel
theorem d13_1 : decode prog_72_method_1_code 1 = .ok (.invokespecial 1, 3) := by decide +kernel
theorem d13_4 : decode prog_72_method_1_code 4 = .ok (.aload_n 0, 1) := by decide +kernel
theorem d13_5 : decode prog_72_method_1_code 5 = .ok (.iconst 1, 1) := by decide +kernel
theorem d13_6 : decode prog_72_method_1_code 6 = .ok (.putfield 7, 3) := by decide +kernel
theorem d13_9 : decode prog_72_method_1_code 9 = .ok (.aload_n 0, 1) := by decide +kernel
theorem d13_10 : decode prog_72_method_1_code 10 = .ok (.iload_n 1, 1) := by decide +kernel
theorem d13_11 : decode prog_72_method_1_code 11 = .ok (.putfield 13, 3) := by decide +kernel
theorem d13_14 : decode prog_72_method_1_code 14 = .ok (.return_, 1) := by decide +kernel
theorem d14_0 : decode prog_72_method_3_code 0 = .ok (.aload_n 0, 1) := by decide +kernel
theorem d14_1 : decode prog_72_method_3_code 1 = .ok (.getfield 13, 3) := by decide +kernel
theorem d14_4 : decode prog_72_method_3_code 4 = .ok (.ireturn, 1) := by decide +kernel
theorem d15_0 : decode prog_72_method_4_code 0 = .ok (.aload_n 0, 1) := by decide +kernel
theorem d15_1 : decode prog_72_method_4_code 1 = .ok (.getfield 7, 3) := by decide +kernel
theorem d15_4 : decode prog_72_method_4_code 4 = .ok (.ireturn, 1) := by decide +kernel
theorem d22_0 : decode jdk_42_method_152_code 0 = .ok (.getstatic 38, 3) := by decide +kernel
theorem d22_3 : decode jdk_42_method_152_code 3 = .ok (.ifCond .eq 10, 3) := by decide +kernel
theorem d22_6 : decode jdk_42_method_152_code 6 = .ok (.aload_n 0, 1) := by decide +kernel
theorem d22_7 : decode jdk_42_method_152_code 7 = .ok (.getfield 15, 3) := by decide +kernel
theorem d22_10 : decode jdk_42_method_152_code 10 = .ok (.goto 4, 3) := by decide +kernel
theorem d22_14 : decode jdk_42_method_152_code 14 = .ok (.ireturn, 1) := by decide +kernel
theorem d21_0 : decode jdk_42_method_54_code 0 = .ok (.aload_n 0, 1) := by decide +kernel
theorem d21_1 : decode jdk_42_method_54_code 1 = .ok (.getfield 9, 3) := by decide +kernel
theorem d21_4 : decode jdk_42_method_54_code 4 = .ok (.arraylength, 1) := by decide +kernel
theorem d21_5 : decode jdk_42_method_54_code 5 = .ok (.aload_n 0, 1) := by decide +kernel
theorem d21_6 : decode jdk_42_method_54_code 6 = .ok (.invokevirtual 335, 3) := by decide +kernel
theorem d21_9 : decode jdk_42_method_54_code 9 = .ok (.ishr, 1) := by decide +kernel
theorem d21_10 : decode jdk_42_method_54_code 10 = .ok (.ireturn, 1) := by decide +kernel
theorem d18_0 : decode jdk_68_method_2_code 0 = .ok (.aload_n 0, 1) := by decide +kernel
theorem d18_1 : decode jdk_68_method_2_code 1 = .ok (.invokespecial 3, 3) := by decide +kernel
theorem d18_4 : decode jdk_68_method_2_code 4 = .ok (.getstatic 18, 3) := by decide +kernel
theorem d18_7 : decode jdk_68_method_2_code 7 = .ok (.ifCond .eq 18, 3) := by decide +kernel
theorem d18_10 : decode jdk_68_method_2_code 10 = .ok (.aload_n 0, 1) := by decide +kernel
theorem d18_11 : decode jdk_68_method_2_code 11 = .ok (.iload_n 1, 1) := by decide +kernel
theorem d18_12 : decode jdk_68_method_2_code 12 = .ok (.newarray .byte, 2) := by decide +kernel
theorem d18_14 : decode jdk_68_method_2_code 14 = .ok (.putfield 15, 3) := by decide +kernel
theorem d18_17 : decode jdk_68_method_2_code 17 = .ok (.aload_n 0, 1) := by decide +kernel
theorem d18_18 : decode jdk_68_method_2_code 18 = .ok (.iconst 0, 1) := by decide +kernel
theorem d18_19 : decode jdk_68_method_2_code 19 = .ok (.putfield 22, 3) := by decide +kernel
theorem d18_22 : decode jdk_68_method_2_code 22 = .ok (.goto 16, 3) := by decide +kernel
theorem d18_38 : decode jdk_68_method_2_code 38 = .ok (.return_, 1) := by decide +kernel
theorem d17_0 : decode jdk_67_method_1_code 0 = .ok (.aload_n 0, 1) := by decide +kernel
theorem d17_1 : decode jdk_67_method_1_code 1 = .ok (.bipush 16, 2) := by decide +kernel
theorem d17_3 : decode jdk_67_method_1_code 3 = .ok (.invokespecial 1, 3) := by decide +kernel
theorem d17_6 : decode jdk_67_method_1_code 6 = .ok (.return_, 1) := by decide +kernel
theorem d55_0 : decode jdk_29_method_65_code 0 = .ok (.iload_n 0, 1) := by decide +kernel
theorem d55_1 : decode jdk_29_method_65_code 1 = .ok (.iload_n 1, 1) := by decide +kernel
theorem d55_2 : decode jdk_29_method_65_code 2 = .ok (.if_icmp .lt 7, 3) := by decide +kernel
theorem d55_5 : decode jdk_29_method_65_code 5 = .ok (.iload_n 0, 1) := by decide +kernel
theorem d55_6 : decode jdk_29_method_65_code 6 = .ok (.goto 4, 3) := by decide +kernel
theorem d55_9 : decode jdk_29_method_65_code 9 = .ok (.iload_n 1, 1) := by decide +kernel
theorem d55_10 : decode jdk_29_method_65_code 10 = .ok (.ireturn, 1) := by decide +kernel
theorem d41_0 : decode jdk_29_method_69_code 0 = .ok (.iload_n 0, 1) := by decide +kernel
theorem d41_1 : decode jdk_29_method_69_code 1 = .ok (.iload_n 1, 1) := by decide +kernel
theorem d41_2 : decode jdk_29_method_69_code 2 = .ok (.if_icmp .gt 7, 3) := by decide +kernel
theorem d41_5 : decode jdk_29_method_69_code 5 = .ok (.iload_n 0, 1) := by decide +kernel
theorem d41_6 : decode jdk_29_method_69_code 6 = .ok (.goto 4, 3) := by decide +kernel
theorem d41_9 : decode jdk_29_method_69_code 9 = .ok (.iload_n 1, 1) := by decide +kernel
theorem d41_10 : decode jdk_29_method_69_code 10 = .ok (.ireturn, 1) := by decide +kernel
theorem d54_0 : decode jdk_48_method_27_code 0 = .ok (.iload_n 0, 1) := by decide +kernel
theorem d54_1 : decode jdk_48_method_27_code 1 = .ok (.iload_n 1, 1) := by decide +kernel
theorem d54_2 : decode jdk_48_method_27_code 2 = .ok (.iload_n 2, 1) := by decide +kernel
theorem d54_3 : decode jdk_48_method_27_code 3 = .ok (.invokestatic 194, 3) := by decide +kernel
theorem d54_6 : decode jdk_48_method_27_code 6 = .ok (.iadd, 1) := by decide +kernel
theorem d54_7 : decode jdk_48_method_27_code 7 = .ok (.istore_n 3, 1) := by decide +kernel
theorem d54_8 : decode jdk_48_method_27_code 8 = .ok (.iconst 0, 1) := by decide +kernel
theorem d54_9 : decode jdk_48_method_27_code 9 = .ok (.iload_n 3, 1) := by decide +kernel
theorem d54_10 : decode jdk_48_method_27_code 10 = .ok (.if_icmp .ge 11, 3) := by decide +kernel
theorem d54_13 : decode jdk_48_method_27_code 13 = .ok (.iload_n 3, 1) := by decide +kernel
theorem d54_14 : decode jdk_48_method_27_code 14 = .ok (.ldc 200, 2) := by decide +kernel
theorem d54_16 : decode jdk_48_method_27_code 16 = .ok (.if_icmp .gt 5, 3) := by decide +kernel
theorem d54_19 : decode jdk_48_method_27_code 19 = .ok (.iload_n 3, 1) := by decide +kernel
theorem d54_20 : decode jdk_48_method_27_code 20 = .ok (.ireturn, 1) := by decide +kernel
theorem d53_0 : decode jdk_68_method_10_code 0 = .ok (.aload_n 0, 1) := by decide +kernel
theorem d53_1 : decode jdk_68_method_10_code 1 = .ok (.getfield 15, 3) := by decide +kernel
theorem d53_4 : decode jdk_68_method_10_code 4 = .ok (.arraylength, 1) := by decide +kernel
theorem d53_5 : decode jdk_68_method_10_code 5 = .ok (.istore_n 2, 1) := by decide +kernel
theorem d53_6 : decode jdk_68_method_10_code 6 = .ok (.iload_n 1, 1) := by decide +kernel
theorem d53_7 : decode jdk_68_method_10_code 7 = .ok (.aload_n 0, 1) := by decide +kernel
theorem d53_8 : decode jdk_68_method_10_code 8 = .ok (.getfield 22, 3) := by decide +kernel
theorem d53_11 : decode jdk_68_method_10_code 11 = .ok (.ishl, 1) := by decide +kernel
theorem d53_12 : decode jdk_68_method_10_code 12 = .ok (.istore_n 3, 1) := by decide +kernel
theorem d53_13 : decode jdk_68_method_10_code 13 = .ok (.iload_n 3, 1) := by decide +kernel
theorem d53_14 : decode jdk_68_method_10_code 14 = .ok (.iload_n 2, 1) := by decide +kernel
theorem d53_15 : decode jdk_68_method_10_code 15 = .ok (.isub, 1) := by decide +kernel
theorem d53_16 : decode jdk_68_method_10_code 16 = .ok (.istore 4, 2) := by decide +kernel
theorem d53_18 : decode jdk_68_method_10_code 18 = .ok (.iload_n 2, 1) := by decide +kernel
theorem d53_19 : decode jdk_68_method_10_code 19 = .ok (.iload 4, 2) := by decide +kernel
theorem d53_21 : decode jdk_68_method_10_code 21 = .ok (.iload_n 2, 1) := by decide +kernel
theorem d53_22 : decode jdk_68_method_10_code 22 = .ok (.iconst 2, 1) := by decide +kernel
theorem d53_23 : decode jdk_68_method_10_code 23 = .ok (.aload_n 0, 1) := by decide +kernel
theorem d53_24 : decode jdk_68_method_10_code 24 = .ok (.getfield 22, 3) := by decide +kernel
theorem d53_27 : decode jdk_68_method_10_code 27 = .ok (.ishl, 1) := by decide +kernel
theorem d53_28 : decode jdk_68_method_10_code 28 = .ok (.iadd, 1) := by decide +kernel
theorem d53_29 : decode jdk_68_method_10_code 29 = .ok (.invokestatic 114, 3) := by decide +kernel
theorem d53_32 : decode jdk_68_method_10_code 32 = .ok (.istore 5, 2) := by decide +kernel
theorem d53_34 : decode jdk_68_method_10_code 34 = .ok (.iload 5, 2) := by decide +kernel
theorem d53_36 : decode jdk_68_method_10_code 36 = .ok (.ldc 39, 2) := by decide +kernel
theorem d53_38 : decode jdk_68_method_10_code 38 = .ok (.if_icmp .ne 13, 3) := by decide +kernel
theorem d53_51 : decode jdk_68_method_10_code 51 = .ok (.iload 5, 2) := by decide +kernel
theorem d53_53 : decode jdk_68_method_10_code 53 = .ok (.aload_n 0, 1) := by decide +kernel
theorem d53_54 : decode jdk_68_method_10_code 54 = .ok (.getfield 22, 3) := by decide +kernel
theorem d53_57 : decode jdk_68_method_10_code 57 = .ok (.ishr, 1) := by decide +kernel
theorem d53_58 : decode jdk_68_method_10_code 58 = .ok (.ireturn, 1) := by decide +kernel
theorem d56_0 : decode jdk_65_method_121_code 0 = .ok (.iload_n 1, 1) := by decide +kernel
theorem d56_1 : decode jdk_65_method_121_code 1 = .ok (.aload_n 0, 1) := by decide +kernel
theorem d56_2 : decode jdk_65_method_121_code 2 = .ok (.arraylength, 1) := by decide +kernel
theorem d56_3 : decode jdk_65_method_121_code 3 = .ok (.if_icmp .ne 11, 3) := by decide +kernel
theorem d56_14 : decode jdk_65_method_121_code 14 = .ok (.iload_n 1, 1) := by decide +kernel
theorem d56_15 : decode jdk_65_method_121_code 15 = .ok (.newarray .byte, 2) := by decide +kernel
theorem d56_17 : decode jdk_65_method_121_code 17 = .ok (.astore_n 2, 1) := by decide +kernel
theorem d56_18 : decode jdk_65_method_121_code 18 = .ok (.aload_n 0, 1) := by decide +kernel
theorem d56_19 : decode jdk_65_method_121_code 19 = .ok (.iconst 0, 1) := by decide +kernel
theorem d56_20 : decode jdk_65_method_121_code 20 = .ok (.aload_n 2, 1) := by decide +kernel
theorem d56_21 : decode jdk_65_method_121_code 21 = .ok (.iconst 0, 1) := by decide +kernel
theorem d56_22 : decode jdk_65_method_121_code 22 = .ok (.aload_n 0, 1) := by decide +kernel
theorem d56_23 : decode jdk_65_method_121_code 23 = .ok (.arraylength, 1) := by decide +kernel
theorem d56_24 : decode jdk_65_method_121_code 24 = .ok (.iload_n 1, 1) := by decide +kernel
theorem d56_25 : decode jdk_65_method_121_code 25 = .ok (.invokestatic 304, 3) := by decide +kernel
theorem d56_28 : decode jdk_65_method_121_code 28 = .ok (.invokestatic 150, 3) := by decide +kernel
theorem d56_31 : decode jdk_65_method_121_code 31 = .ok (.aload_n 2, 1) := by decide +kernel
theorem d56_32 : decode jdk_65_method_121_code 32 = .ok (.areturn, 1) := by decide +kernel
theorem d23_0 : decode jdk_68_method_9_code 0 = .ok (.aload_n 0, 1) := by decide +kernel
theorem d23_1 : decode jdk_68_method_9_code 1 = .ok (.getfield 15, 3) := by decide +kernel
theorem d23_4 : decode jdk_68_method_9_code 4 = .ok (.arraylength, 1) := by decide +kernel
theorem d23_5 : decode jdk_68_method_9_code 5 = .ok (.aload_n 0, 1) := by decide +kernel
theorem d23_6 : decode jdk_68_method_9_code 6 = .ok (.getfield 22, 3) := by decide +kernel
theorem d23_9 : decode jdk_68_method_9_code 9 = .ok (.ishr, 1) := by decide +kernel
theorem d23_10 : decode jdk_68_method_9_code 10 = .ok (.istore_n 2, 1) := by decide +kernel
theorem d23_11 : decode jdk_68_method_9_code 11 = .ok (.iload_n 1, 1) := by decide +kernel
theorem d23_12 : decode jdk_68_method_9_code 12 = .ok (.iload_n 2, 1) := by decide +kernel
theorem d23_13 : decode jdk_68_method_9_code 13 = .ok (.isub, 1) := by decide +kernel
theorem d23_14 : decode jdk_68_method_9_code 14 = .ok (.ifCond .le 24, 3) := by decide +kernel
theorem d23_17 : decode jdk_68_method_9_code 17 = .ok (.aload_n 0, 1) := by decide +kernel
theorem d23_18 : decode jdk_68_method_9_code 18 = .ok (.aload_n 0, 1) := by decide +kernel
theorem d23_19 : decode jdk_68_method_9_code 19 = .ok (.getfield 15, 3) := by decide +kernel
theorem d23_22 : decode jdk_68_method_9_code 22 = .ok (.aload_n 0, 1) := by decide +kernel
theorem d23_23 : decode jdk_68_method_9_code 23 = .ok (.iload_n 1, 1) := by decide +kernel
theorem d23_24 : decode jdk_68_method_9_code 24 = .ok (.invokevirtual 104, 3) := by decide +kernel
theorem d23_27 : decode jdk_68_method_9_code 27 = .ok (.aload_n 0, 1) := by decide +kernel
theorem d23_28 : decode jdk_68_method_9_code 28 = .ok (.getfield 22, 3) := by decide +kernel
theorem d23_31 : decode jdk_68_method_9_code 31 = .ok (.ishl, 1) := by decide +kernel
theorem d23_32 : decode jdk_68_method_9_code 32 = .ok (.invokestatic 108, 3) := by decide +kernel
theorem d23_35 : decode jdk_68_method_9_code 35 = .ok (.putfield 15, 3) := by decide +kernel
theorem d23_38 : decode jdk_68_method_9_code 38 = .ok (.return_, 1) := by decide +kernel
theorem d25_0 : decode jdk_68_method_71_code 0 = .ok (.getstatic 18, 3) := by decide +kernel
theorem d25_3 : decode jdk_68_method_71_code 3 = .ok (.ifCond .eq 18, 3) := by decide +kernel
theorem d25_6 : decode jdk_68_method_71_code 6 = .ok (.aload_n 0, 1) := by decide +kernel
theorem d25_7 : decode jdk_68_method_71_code 7 = .ok (.getfield 22, 3) := by decide +kernel
theorem d25_10 : decode jdk_68_method_71_code 10 = .ok (.aload_n 1, 1) := by decide +kernel
theorem d25_11 : decode jdk_68_method_71_code 11 = .ok (.invokevirtual 40, 3) := by decide +kernel
theorem d25_14 : decode jdk_68_method_71_code 14 = .ok (.if_icmp .eq 7, 3) := by decide +kernel
theorem d25_21 : decode jdk_68_method_71_code 21 = .ok (.return_, 1) := by decide +kernel
theorem d26_0 : decode jdk_42_method_147_code 0 = .ok (.aload_n 0, 1) := by decide +kernel
theorem d26_1 : decode jdk_42_method_147_code 1 = .ok (.invokevirtual 335, 3) := by decide +kernel
theorem d26_4 : decode jdk_42_method_147_code 4 = .ok (.iload_n 3, 1) := by decide +kernel
theorem d26_5 : decode jdk_42_method_147_code 5 = .ok (.if_icmp .ne 23, 3) := by decide +kernel
theorem d26_8 : decode jdk_42_method_147_code 8 = .ok (.aload_n 0, 1) := by decide +kernel
theorem d26_9 : decode jdk_42_method_147_code 9 = .ok (.getfield 9, 3) := by decide +kernel
theorem d26_12 : decode jdk_42_method_147_code 12 = .ok (.iconst 0, 1) := by decide +kernel
theorem d26_13 : decode jdk_42_method_147_code 13 = .ok (.aload_n 1, 1) := by decide +kernel
theorem d26_14 : decode jdk_42_method_147_code 14 = .ok (.iload_n 2, 1) := by decide +kernel
theorem d26_15 : decode jdk_42_method_147_code 15 = .ok (.iload_n 3, 1) := by decide +kernel
theorem d26_16 : decode jdk_42_method_147_code 16 = .ok (.ishl, 1) := by decide +kernel
theorem d26_17 : decode jdk_42_method_147_code 17 = .ok (.aload_n 0, 1) := by decide +kernel
theorem d26_18 : decode jdk_42_method_147_code 18 = .ok (.getfield 9, 3) := by decide +kernel
theorem d26_21 : decode jdk_42_method_147_code 21 = .ok (.arraylength, 1) := by decide +kernel
theorem d26_22 : decode jdk_42_method_147_code 22 = .ok (.invokestatic 212, 3) := by decide +kernel
theorem d26_25 : decode jdk_42_method_147_code 25 = .ok (.goto 18, 3) := by decide +kernel
theorem d26_43 : decode jdk_42_method_147_code 43 = .ok (.return_, 1) := by decide +kernel
theorem d24_0 : decode jdk_68_method_73_code 0 = .ok (.aload_n 0, 1) := by decide +kernel
theorem d24_1 : decode jdk_68_method_73_code 1 = .ok (.aload_n 2, 1) := by decide +kernel
theorem d24_2 : decode jdk_68_method_73_code 2 = .ok (.invokevirtual 397, 3) := by decide +kernel
theorem d24_5 : decode jdk_68_method_73_code 5 = .ok (.aload_n 2, 1) := by decide +kernel
theorem d24_6 : decode jdk_68_method_73_code 6 = .ok (.aload_n 0, 1) := by decide +kernel
theorem d24_7 : decode jdk_68_method_73_code 7 = .ok (.getfield 15, 3) := by decide +kernel
theorem d24_10 : decode jdk_68_method_73_code 10 = .ok (.iload_n 1, 1) := by decide +kernel
theorem d24_11 : decode jdk_68_method_73_code 11 = .ok (.aload_n 0, 1) := by decide +kernel
theorem d24_12 : decode jdk_68_method_73_code 12 = .ok (.getfield 22, 3) := by decide +kernel
theorem d24_15 : decode jdk_68_method_73_code 15 = .ok (.invokevirtual 399, 3) := by decide +kernel
theorem d24_18 : decode jdk_68_method_73_code 18 = .ok (.return_, 1) := by decide +kernel
theorem d20_0 : decode jdk_68_method_22_code 0 = .ok (.aload_n 1, 1) := by decide +kernel
theorem d20_1 : decode jdk_68_method_22_code 1 = .ok (.ifnonnull 8, 3) := by decide +kernel
theorem d20_9 : decode jdk_68_method_22_code 9 = .ok (.aload_n 1, 1) := by decide +kernel
theorem d20_10 : decode jdk_68_method_22_code 10 = .ok (.invokevirtual 32, 3) := by decide +kernel
theorem d20_13 : decode jdk_68_method_22_code 13 = .ok (.istore_n 2, 1) := by decide +kernel
theorem d20_14 : decode jdk_68_method_22_code 14 = .ok (.aload_n 0, 1) := by decide +kernel
theorem d20_15 : decode jdk_68_method_22_code 15 = .ok (.aload_n 0, 1) := by decide +kernel
theorem d20_16 : decode jdk_68_method_22_code 16 = .ok (.getfield 79, 3) := by decide +kernel
theorem d20_19 : decode jdk_68_method_22_code 19 = .ok (.iload_n 2, 1) := by decide +kernel
theorem d20_20 : decode jdk_68_method_22_code 20 = .ok (.iadd, 1) := by decide +kernel
theorem d20_21 : decode jdk_68_method_22_code 21 = .ok (.invokevirtual 100, 3) := by decide +kernel
theorem d20_24 : decode jdk_68_method_22_code 24 = .ok (.aload_n 0, 1) := by decide +kernel
theorem d20_25 : decode jdk_68_method_22_code 25 = .ok (.aload_n 0, 1) := by decide +kernel
theorem d20_26 : decode jdk_68_method_22_code 26 = .ok (.getfield 79, 3) := by decide +kernel
theorem d20_29 : decode jdk_68_method_22_code 29 = .ok (.aload_n 1, 1) := by decide +kernel
theorem d20_30 : decode jdk_68_method_22_code 30 = .ok (.invokevirtual 208, 3) := by decide +kernel
theorem d20_33 : decode jdk_68_method_22_code 33 = .ok (.aload_n 0, 1) := by decide +kernel
theorem d20_34 : decode jdk_68_method_22_code 34 = .ok (.dup, 1) := by decide +kernel
theorem d20_35 : decode jdk_68_method_22_code 35 = .ok (.getfield 79, 3) := by decide +kernel
theorem d20_38 : decode jdk_68_method_22_code 38 = .ok (.iload_n 2, 1) := by decide +kernel
theorem d20_39 : decode jdk_68_method_22_code 39 = .ok (.iadd, 1) := by decide +kernel
theorem d20_40 : decode jdk_68_method_22_code 40 = .ok (.putfield 79, 3) := by decide +kernel
theorem d20_43 : decode jdk_68_method_22_code 43 = .ok (.aload_n 0, 1) := by decide +kernel
theorem d20_44 : decode jdk_68_method_22_code 44 = .ok (.areturn, 1) := by decide +kernel
theorem d19_0 : decode jdk_67_method_7_code 0 = .ok (.aload_n 0, 1) := by decide +kernel
theorem d19_1 : decode jdk_67_method_7_code 1 = .ok (.aload_n 1, 1) := by decide +kernel
theorem d19_2 : decode jdk_67_method_7_code 2 = .ok (.invokespecial 29, 3) := by decide +kernel
theorem d19_5 : decode jdk_67_method_7_code 5 = .ok (.pop, 1) := by decide +kernel
theorem d19_6 : decode jdk_67_method_7_code 6 = .ok (.aload_n 0, 1) := by decide +kernel
theorem d19_7 : decode jdk_67_method_7_code 7 = .ok (.areturn, 1) := by decide +kernel
theorem d29_0 : decode jdk_33_method_13_code 0 = .ok (.iconst 1, 1) := by decide +kernel
theorem d29_1 : decode jdk_33_method_13_code 1 = .ok (.istore_n 1, 1) := by decide +kernel
theorem d29_2 : decode jdk_33_method_13_code 2 = .ok (.iload_n 0, 1) := by decide +kernel
theorem d29_3 : decode jdk_33_method_13_code 3 = .ok (.ifCond .lt 8, 3) := by decide +kernel
theorem d29_6 : decode jdk_33_method_13_code 6 = .ok (.iconst 0, 1) := by decide +kernel
theorem d29_7 : decode jdk_33_method_13_code 7 = .ok (.istore_n 1, 1) := by decide +kernel
theorem d29_8 : decode jdk_33_method_13_code 8 = .ok (.iload_n 0, 1) := by decide +kernel
theorem d29_9 : decode jdk_33_method_13_code 9 = .ok (.ineg, 1) := by decide +kernel
theorem d29_10 : decode jdk_33_method_13_code 10 = .ok (.istore_n 0, 1) := by decide +kernel
theorem d29_11 : decode jdk_33_method_13_code 11 = .ok (.bipush (-10), 2) := by decide +kernel
theorem d29_13 : decode jdk_33_method_13_code 13 = .ok (.istore_n 2, 1) := by decide +kernel
theorem d29_14 : decode jdk_33_method_13_code 14 = .ok (.iconst 1, 1) := by decide +kernel
theorem d29_15 : decode jdk_33_method_13_code 15 = .ok (.istore_n 3, 1) := by decide +kernel
theorem d29_16 : decode jdk_33_method_13_code 16 = .ok (.iload_n 3, 1) := by decide +kernel
theorem d29_17 : decode jdk_33_method_13_code 17 = .ok (.bipush 10, 2) := by decide +kernel
theorem d29_19 : decode jdk_33_method_13_code 19 = .ok (.if_icmp .ge 23, 3) := by decide +kernel
theorem d29_22 : decode jdk_33_method_13_code 22 = .ok (.iload_n 0, 1) := by decide +kernel
theorem d29_23 : decode jdk_33_method_13_code 23 = .ok (.iload_n 2, 1) := by decide +kernel
theorem d29_24 : decode jdk_33_method_13_code 24 = .ok (.if_icmp .le 7, 3) := by decide +kernel
theorem d29_27 : decode jdk_33_method_13_code 27 = .ok (.iload_n 3, 1) := by decide +kernel
theorem d29_28 : decode jdk_33_method_13_code 28 = .ok (.iload_n 1, 1) := by decide +kernel
theorem d29_29 : decode jdk_33_method_13_code 29 = .ok (.iadd, 1) := by decide +kernel
theorem d29_30 : decode jdk_33_method_13_code 30 = .ok (.ireturn, 1) := by decide +kernel
theorem d29_31 : decode jdk_33_method_13_code 31 = .ok (.bipush 10, 2) := by decide +kernel
theorem d29_33 : decode jdk_33_method_13_code 33 = .ok (.iload_n 2, 1) := by decide +kernel
theorem d29_34 : decode jdk_33_method_13_code 34 = .ok (.imul, 1) := by decide +kernel
theorem d29_35 : decode jdk_33_method_13_code 35 = .ok (.istore_n 2, 1) := by decide +kernel
theorem d29_36 : decode jdk_33_method_13_code 36 = .ok (.iinc 3 1, 3) := by decide +kernel
theorem d29_39 : decode jdk_33_method_13_code 39 = .ok (.goto (-23), 3) := by decide +kernel
theorem d29_42 : decode jdk_33_method_13_code 42 = .ok (.bipush 10, 2) := by decide +kernel
theorem d29_44 : decode jdk_33_method_13_code 44 = .ok (.iload_n 1, 1) := by decide +kernel
theorem d29_45 : decode jdk_33_method_13_code 45 = .ok (.iadd, 1) := by decide +kernel
theorem d29_46 : decode jdk_33_method_13_code 46 = .ok (.ireturn, 1) := by decide +kernel
theorem d30_0 : decode jdk_68_method_68_code 0 = .ok (.getstatic 18, 3) := by decide +kernel
theorem d30_3 : decode jdk_68_method_68_code 3 = .ok (.ifCond .eq 14, 3) := by decide +kernel
theorem d30_6 : decode jdk_68_method_68_code 6 = .ok (.aload_n 0, 1) := by decide +kernel
theorem d30_7 : decode jdk_68_method_68_code 7 = .ok (.getfield 22, 3) := by decide +kernel
theorem d30_10 : decode jdk_68_method_68_code 10 = .ok (.ifCond .ne 7, 3) := by decide +kernel
theorem d30_13 : decode jdk_68_method_68_code 13 = .ok (.iconst 1, 1) := by decide +kernel
theorem d30_14 : decode jdk_68_method_68_code 14 = .ok (.goto 4, 3) := by decide +kernel
theorem d30_18 : decode jdk_68_method_68_code 18 = .ok (.ireturn, 1) := by decide +kernel
theorem d31_0 : decode jdk_33_method_12_code 0 = .ok (.iload_n 1, 1) := by decide +kernel
theorem d31_1 : decode jdk_33_method_12_code 1 = .ok (.istore 5, 2) := by decide +kernel
theorem d31_3 : decode jdk_33_method_12_code 3 = .ok (.iload_n 0, 1) := by decide +kernel
theorem d31_4 : decode jdk_33_method_12_code 4 = .ok (.ifCond .ge 7, 3) := by decide +kernel
theorem d31_7 : decode jdk_33_method_12_code 7 = .ok (.iconst 1, 1) := by decide +kernel
theorem d31_8 : decode jdk_33_method_12_code 8 = .ok (.goto 4, 3) := by decide +kernel
theorem d31_11 : decode jdk_33_method_12_code 11 = .ok (.iconst 0, 1) := by decide +kernel
theorem d31_12 : decode jdk_33_method_12_code 12 = .ok (.istore 6, 2) := by decide +kernel
theorem d31_14 : decode jdk_33_method_12_code 14 = .ok (.iload 6, 2) := by decide +kernel
theorem d31_16 : decode jdk_33_method_12_code 16 = .ok (.ifCond .ne 6, 3) := by decide +kernel
theorem d31_19 : decode jdk_33_method_12_code 19 = .ok (.iload_n 0, 1) := by decide +kernel
theorem d31_20 : decode jdk_33_method_12_code 20 = .ok (.ineg, 1) := by decide +kernel
theorem d31_21 : decode jdk_33_method_12_code 21 = .ok (.istore_n 0, 1) := by decide +kernel
theorem d31_22 : decode jdk_33_method_12_code 22 = .ok (.iload_n 0, 1) := by decide +kernel
theorem d31_23 : decode jdk_33_method_12_code 23 = .ok (.bipush (-100), 2) := by decide +kernel
theorem d31_25 : decode jdk_33_method_12_code 25 = .ok (.if_icmp .gt 47, 3) := by decide +kernel
theorem d31_28 : decode jdk_33_method_12_code 28 = .ok (.iload_n 0, 1) := by decide +kernel
theorem d31_29 : decode jdk_33_method_12_code 29 = .ok (.bipush 100, 2) := by decide +kernel
theorem d31_31 : decode jdk_33_method_12_code 31 = .ok (.idiv, 1) := by decide +kernel
theorem d31_32 : decode jdk_33_method_12_code 32 = .ok (.istore_n 3, 1) := by decide +kernel
theorem d31_33 : decode jdk_33_method_12_code 33 = .ok (.iload_n 3, 1) := by decide +kernel
theorem d31_34 : decode jdk_33_method_12_code 34 = .ok (.bipush 100, 2) := by decide +kernel
theorem d31_36 : decode jdk_33_method_12_code 36 = .ok (.imul, 1) := by decide +kernel
theorem d31_37 : decode jdk_33_method_12_code 37 = .ok (.iload_n 0, 1) := by decide +kernel
theorem d31_38 : decode jdk_33_method_12_code 38 = .ok (.isub, 1) := by decide +kernel
theorem d31_39 : decode jdk_33_method_12_code 39 = .ok (.istore 4, 2) := by decide +kernel
theorem d31_41 : decode jdk_33_method_12_code 41 = .ok (.iload_n 3, 1) := by decide +kernel
theorem d31_42 : decode jdk_33_method_12_code 42 = .ok (.istore_n 0, 1) := by decide +kernel
theorem d31_43 : decode jdk_33_method_12_code 43 = .ok (.aload_n 2, 1) := by decide +kernel
theorem d31_44 : decode jdk_33_method_12_code 44 = .ok (.iinc 5 (-1), 3) := by decide +kernel
theorem d31_47 : decode jdk_33_method_12_code 47 = .ok (.iload 5, 2) := by decide +kernel
theorem d31_49 : decode jdk_33_method_12_code 49 = .ok (.getstatic 83, 3) := by decide +kernel
theorem d31_52 : decode jdk_33_method_12_code 52 = .ok (.iload 4, 2) := by decide +kernel
theorem d31_54 : decode jdk_33_method_12_code 54 = .ok (.baload, 1) := by decide +kernel
theorem d31_55 : decode jdk_33_method_12_code 55 = .ok (.bastore, 1) := by decide +kernel
theorem d31_56 : decode jdk_33_method_12_code 56 = .ok (.aload_n 2, 1) := by decide +kernel
theorem d31_57 : decode jdk_33_method_12_code 57 = .ok (.iinc 5 (-1), 3) := by decide +kernel
theorem d31_60 : decode jdk_33_method_12_code 60 = .ok (.iload 5, 2) := by decide +kernel
theorem d31_62 : decode jdk_33_method_12_code 62 = .ok (.getstatic 87, 3) := by decide +kernel
theorem d31_65 : decode jdk_33_method_12_code 65 = .ok (.iload 4, 2) := by decide +kernel
theorem d31_67 : decode jdk_33_method_12_code 67 = .ok (.baload, 1) := by decide +kernel
theorem d31_68 : decode jdk_33_method_12_code 68 = .ok (.bastore, 1) := by decide +kernel
theorem d31_69 : decode jdk_33_method_12_code 69 = .ok (.goto (-47), 3) := by decide +kernel
theorem d31_72 : decode jdk_33_method_12_code 72 = .ok (.aload_n 2, 1) := by decide +kernel
theorem d31_73 : decode jdk_33_method_12_code 73 = .ok (.iinc 5 (-1), 3) := by decide +kernel
theorem d31_76 : decode jdk_33_method_12_code 76 = .ok (.iload 5, 2) := by decide +kernel
theorem d31_78 : decode jdk_33_method_12_code 78 = .ok (.getstatic 83, 3) := by decide +kernel
theorem d31_81 : decode jdk_33_method_12_code 81 = .ok (.iload_n 0, 1) := by decide +kernel
theorem d31_82 : decode jdk_33_method_12_code 82 = .ok (.ineg, 1) := by decide +kernel
theorem d31_83 : decode jdk_33_method_12_code 83 = .ok (.baload, 1) := by decide +kernel
theorem d31_84 : decode jdk_33_method_12_code 84 = .ok (.bastore, 1) := by decide +kernel
theorem d31_85 : decode jdk_33_method_12_code 85 = .ok (.iload_n 0, 1) := by decide +kernel
theorem d31_86 : decode jdk_33_method_12_code 86 = .ok (.bipush (-9), 2) := by decide +kernel
theorem d31_88 : decode jdk_33_method_12_code 88 = .ok (.if_icmp .ge 16, 3) := by decide +kernel
theorem d31_91 : decode jdk_33_method_12_code 91 = .ok (.aload_n 2, 1) := by decide +kernel
theorem d31_92 : decode jdk_33_method_12_code 92 = .ok (.iinc 5 (-1), 3) := by decide +kernel
theorem d31_95 : decode jdk_33_method_12_code 95 = .ok (.iload 5, 2) := by decide +kernel
theorem d31_97 : decode jdk_33_method_12_code 97 = .ok (.getstatic 87, 3) := by decide +kernel
theorem d31_100 : decode jdk_33_method_12_code 100 = .ok (.iload_n 0, 1) := by decide +kernel
theorem d31_101 : decode jdk_33_method_12_code 101 = .ok (.ineg, 1) := by decide +kernel
theorem d31_102 : decode jdk_33_method_12_code 102 = .ok (.baload, 1) := by decide +kernel
theorem d31_103 : decode jdk_33_method_12_code 103 = .ok (.bastore, 1) := by decide +kernel
theorem d31_104 : decode jdk_33_method_12_code 104 = .ok (.iload 6, 2) := by decide +kernel
theorem d31_106 : decode jdk_33_method_12_code 106 = .ok (.ifCond .eq 12, 3) := by decide +kernel
theorem d31_109 : decode jdk_33_method_12_code 109 = .ok (.aload_n 2, 1) := by decide +kernel
theorem d31_110 : decode jdk_33_method_12_code 110 = .ok (.iinc 5 (-1), 3) := by decide +kernel
theorem d31_113 : decode jdk_33_method_12_code 113 = .ok (.iload 5, 2) := by decide +kernel
theorem d31_115 : decode jdk_33_method_12_code 115 = .ok (.bipush 45, 2) := by decide +kernel
theorem d31_117 : decode jdk_33_method_12_code 117 = .ok (.bastore, 1) := by decide +kernel
theorem d31_118 : decode jdk_33_method_12_code 118 = .ok (.iload 5, 2) := by decide +kernel
theorem d31_120 : decode jdk_33_method_12_code 120 = .ok (.ireturn, 1) := by decide +kernel
theorem d28_0 : decode jdk_68_method_32_code 0 = .ok (.aload_n 0, 1) := by decide +kernel
theorem d28_1 : decode jdk_68_method_32_code 1 = .ok (.getfield 79, 3) := by decide +kernel
theorem d28_4 : decode jdk_68_method_32_code 4 = .ok (.istore_n 2, 1) := by decide +kernel
theorem d28_5 : decode jdk_68_method_32_code 5 = .ok (.iload_n 2, 1) := by decide +kernel
theorem d28_6 : decode jdk_68_method_32_code 6 = .ok (.iload_n 1, 1) := by decide +kernel
theorem d28_7 : decode jdk_68_method_32_code 7 = .ok (.invokestatic 245, 3) := by decide +kernel
theorem d28_10 : decode jdk_68_method_32_code 10 = .ok (.iadd, 1) := by decide +kernel
theorem d28_11 : decode jdk_68_method_32_code 11 = .ok (.istore_n 3, 1) := by decide +kernel
theorem d28_12 : decode jdk_68_method_32_code 12 = .ok (.aload_n 0, 1) := by decide +kernel
theorem d28_13 : decode jdk_68_method_32_code 13 = .ok (.iload_n 3, 1) := by decide +kernel
theorem d28_14 : decode jdk_68_method_32_code 14 = .ok (.invokevirtual 100, 3) := by decide +kernel
theorem d28_17 : decode jdk_68_method_32_code 17 = .ok (.aload_n 0, 1) := by decide +kernel
theorem d28_18 : decode jdk_68_method_32_code 18 = .ok (.invokevirtual 83, 3) := by decide +kernel
theorem d28_21 : decode jdk_68_method_32_code 21 = .ok (.ifCond .eq 16, 3) := by decide +kernel
theorem d28_24 : decode jdk_68_method_32_code 24 = .ok (.iload_n 1, 1) := by decide +kernel
theorem d28_25 : decode jdk_68_method_32_code 25 = .ok (.iload_n 3, 1) := by decide +kernel
theorem d28_26 : decode jdk_68_method_32_code 26 = .ok (.aload_n 0, 1) := by decide +kernel
theorem d28_27 : decode jdk_68_method_32_code 27 = .ok (.getfield 15, 3) := by decide +kernel
theorem d28_30 : decode jdk_68_method_32_code 30 = .ok (.invokestatic 248, 3) := by decide +kernel
theorem d28_33 : decode jdk_68_method_32_code 33 = .ok (.pop, 1) := by decide +kernel
theorem d28_34 : decode jdk_68_method_32_code 34 = .ok (.goto 14, 3) := by decide +kernel
theorem d28_48 : decode jdk_68_method_32_code 48 = .ok (.aload_n 0, 1) := by decide +kernel
theorem d28_49 : decode jdk_68_method_32_code 49 = .ok (.iload_n 3, 1) := by decide +kernel
theorem d28_50 : decode jdk_68_method_32_code 50 = .ok (.putfield 79, 3) := by decide +kernel
theorem d28_53 : decode jdk_68_method_32_code 53 = .ok (.aload_n 0, 1) := by decide +kernel
theorem d28_54 : decode jdk_68_method_32_code 54 = .ok (.areturn, 1) := by decide +kernel
theorem d27_0 : decode jdk_67_method_15_code 0 = .ok (.aload_n 0, 1) := by decide +kernel
theorem d27_1 : decode jdk_67_method_15_code 1 = .ok (.iload_n 1, 1) := by decide +kernel
theorem d27_2 : decode jdk_67_method_15_code 2 = .ok (.invokespecial 53, 3) := by decide +kernel
theorem d27_5 : decode jdk_67_method_15_code 5 = .ok (.pop, 1) := by decide +kernel
theorem d27_6 : decode jdk_67_method_15_code 6 = .ok (.aload_n 0, 1) := by decide +kernel
theorem d27_7 : decode jdk_67_method_15_code 7 = .ok (.areturn, 1) := by decide +kernel
theorem d35_0 : decode jdk_68_method_64_code 0 = .ok (.aload_n 0, 1) := by decide +kernel
theorem d35_1 : decode jdk_68_method_64_code 1 = .ok (.getfield 15, 3) := by decide +kernel
theorem d35_4 : decode jdk_68_method_64_code 4 = .ok (.areturn, 1) := by decide +kernel
theorem d37_0 : decode jdk_68_method_6_code 0 = .ok (.aload_n 0, 1) := by decide +kernel
theorem d37_1 : decode jdk_68_method_6_code 1 = .ok (.getfield 79, 3) := by decide +kernel
theorem d37_4 : decode jdk_68_method_6_code 4 = .ok (.ireturn, 1) := by decide +kernel
theorem d36_0 : decode jdk_67_method_93_code 0 = .ok (.aload_n 0, 1) := by decide +kernel
theorem d36_1 : decode jdk_67_method_93_code 1 = .ok (.invokespecial 343, 3) := by decide +kernel
theorem d36_4 : decode jdk_67_method_93_code 4 = .ok (.ireturn, 1) := by decide +kernel
theorem d40_0 : decode jdk_65_method_131_code 0 = .ok (.iload_n 1, 1) := by decide +kernel
theorem d40_1 : decode jdk_65_method_131_code 1 = .ok (.iload_n 0, 1) := by decide +kernel
theorem d40_2 : decode jdk_65_method_131_code 2 = .ok (.if_icmp .ge 35, 3) := by decide +kernel
theorem d40_37 : decode jdk_65_method_131_code 37 = .ok (.return_, 1) := by decide +kernel
theorem d39_0 : decode jdk_65_method_133_code 0 = .ok (.iload_n 1, 1) := by decide +kernel
theorem d39_1 : decode jdk_65_method_133_code 1 = .ok (.iload_n 2, 1) := by decide +kernel
theorem d39_2 : decode jdk_65_method_133_code 2 = .ok (.invokestatic 343, 3) := by decide +kernel
theorem d39_5 : decode jdk_65_method_133_code 5 = .ok (.iload_n 2, 1) := by decide +kernel
theorem d39_6 : decode jdk_65_method_133_code 6 = .ok (.iload_n 1, 1) := by decide +kernel
theorem d39_7 : decode jdk_65_method_133_code 7 = .ok (.isub, 1) := by decide +kernel
theorem d39_8 : decode jdk_65_method_133_code 8 = .ok (.istore_n 3, 1) := by decide +kernel
theorem d39_9 : decode jdk_65_method_133_code 9 = .ok (.iload_n 3, 1) := by decide +kernel
theorem d39_10 : decode jdk_65_method_133_code 10 = .ok (.newarray .byte, 2) := by decide +kernel
theorem d39_12 : decode jdk_65_method_133_code 12 = .ok (.astore 4, 2) := by decide +kernel
theorem d39_14 : decode jdk_65_method_133_code 14 = .ok (.aload_n 0, 1) := by decide +kernel
theorem d39_15 : decode jdk_65_method_133_code 15 = .ok (.iload_n 1, 1) := by decide +kernel
theorem d39_16 : decode jdk_65_method_133_code 16 = .ok (.aload 4, 2) := by decide +kernel
theorem d39_18 : decode jdk_65_method_133_code 18 = .ok (.iconst 0, 1) := by decide +kernel
theorem d39_19 : decode jdk_65_method_133_code 19 = .ok (.aload_n 0, 1) := by decide +kernel
theorem d39_20 : decode jdk_65_method_133_code 20 = .ok (.arraylength, 1) := by decide +kernel
theorem d39_21 : decode jdk_65_method_133_code 21 = .ok (.iload_n 1, 1) := by decide +kernel
theorem d39_22 : decode jdk_65_method_133_code 22 = .ok (.isub, 1) := by decide +kernel
theorem d39_23 : decode jdk_65_method_133_code 23 = .ok (.iload_n 3, 1) := by decide +kernel
theorem d39_24 : decode jdk_65_method_133_code 24 = .ok (.invokestatic 304, 3) := by decide +kernel
theorem d39_27 : decode jdk_65_method_133_code 27 = .ok (.invokestatic 150, 3) := by decide +kernel
theorem d39_30 : decode jdk_65_method_133_code 30 = .ok (.aload 4, 2) := by decide +kernel
theorem d39_32 : decode jdk_65_method_133_code 32 = .ok (.areturn, 1) := by decide +kernel
theorem d38_0 : decode jdk_65_method_132_code 0 = .ok (.iload_n 1, 1) := by decide +kernel
theorem d38_1 : decode jdk_65_method_132_code 1 = .ok (.ifCond .ne 9, 3) := by decide +kernel
theorem d38_4 : decode jdk_65_method_132_code 4 = .ok (.iload_n 2, 1) := by decide +kernel
theorem d38_5 : decode jdk_65_method_132_code 5 = .ok (.aload_n 0, 1) := by decide +kernel
theorem d38_6 : decode jdk_65_method_132_code 6 = .ok (.arraylength, 1) := by decide +kernel
theorem d38_7 : decode jdk_65_method_132_code 7 = .ok (.if_icmp .eq 10, 3) := by decide +kernel
theorem d38_10 : decode jdk_65_method_132_code 10 = .ok (.aload_n 0, 1) := by decide +kernel
theorem d38_11 : decode jdk_65_method_132_code 11 = .ok (.iload_n 1, 1) := by decide +kernel
theorem d38_12 : decode jdk_65_method_132_code 12 = .ok (.iload_n 2, 1) := by decide +kernel
theorem d38_13 : decode jdk_65_method_132_code 13 = .ok (.invokestatic 339, 3) := by decide +kernel
theorem d38_16 : decode jdk_65_method_132_code 16 = .ok (.areturn, 1) := by decide +kernel
theorem d38_17 : decode jdk_65_method_132_code 17 = .ok (.aload_n 0, 1) := by decide +kernel
theorem d38_18 : decode jdk_65_method_132_code 18 = .ok (.invokevirtual 310, 3) := by decide +kernel
theorem d38_21 : decode jdk_65_method_132_code 21 = .ok (.checkcast 311, 3) := by decide +kernel
theorem d38_24 : decode jdk_65_method_132_code 24 = .ok (.areturn, 1) := by decide +kernel
theorem d34_0 : decode jdk_42_method_150_code 0 = .ok (.aload_n 0, 1) := by decide +kernel
theorem d34_1 : decode jdk_42_method_150_code 1 = .ok (.invokespecial 1, 3) := by decide +kernel
theorem d34_4 : decode jdk_42_method_150_code 4 = .ok (.aload_n 1, 1) := by decide +kernel
theorem d34_5 : decode jdk_42_method_150_code 5 = .ok (.invokevirtual 552, 3) := by decide +kernel
theorem d34_8 : decode jdk_42_method_150_code 8 = .ok (.astore_n 3, 1) := by decide +kernel
theorem d34_9 : decode jdk_42_method_150_code 9 = .ok (.aload_n 1, 1) := by decide +kernel
theorem d34_10 : decode jdk_42_method_150_code 10 = .ok (.invokevirtual 549, 3) := by decide +kernel
theorem d34_13 : decode jdk_42_method_150_code 13 = .ok (.istore 4, 2) := by decide +kernel
theorem d34_15 : decode jdk_42_method_150_code 15 = .ok (.aload_n 1, 1) := by decide +kernel
theorem d34_16 : decode jdk_42_method_150_code 16 = .ok (.invokevirtual 1047, 3) := by decide +kernel
theorem d34_19 : decode jdk_42_method_150_code 19 = .ok (.ifCond .eq 22, 3) := by decide +kernel
theorem d34_22 : decode jdk_42_method_150_code 22 = .ok (.aload_n 0, 1) := by decide +kernel
theorem d34_23 : decode jdk_42_method_150_code 23 = .ok (.iconst 0, 1) := by decide +kernel
theorem d34_24 : decode jdk_42_method_150_code 24 = .ok (.putfield 15, 3) := by decide +kernel
theorem d34_27 : decode jdk_42_method_150_code 27 = .ok (.aload_n 0, 1) := by decide +kernel
theorem d34_28 : decode jdk_42_method_150_code 28 = .ok (.aload_n 3, 1) := by decide +kernel
theorem d34_29 : decode jdk_42_method_150_code 29 = .ok (.iconst 0, 1) := by decide +kernel
theorem d34_30 : decode jdk_42_method_150_code 30 = .ok (.iload 4, 2) := by decide +kernel
theorem d34_32 : decode jdk_42_method_150_code 32 = .ok (.invokestatic 54, 3) := by decide +kernel
theorem d34_35 : decode jdk_42_method_150_code 35 = .ok (.putfield 9, 3) := by decide +kernel
theorem d34_38 : decode jdk_42_method_150_code 38 = .ok (.goto 59, 3) := by decide +kernel
theorem d34_97 : decode jdk_42_method_150_code 97 = .ok (.return_, 1) := by decide +kernel
theorem d33_0 : decode jdk_42_method_53_code 0 = .ok (.aload_n 0, 1) := by decide +kernel
theorem d33_1 : decode jdk_42_method_53_code 1 = .ok (.aload_n 1, 1) := by decide +kernel
theorem d33_2 : decode jdk_42_method_53_code 2 = .ok (.aconst_null, 1) := by decide +kernel
theorem d33_3 : decode jdk_42_method_53_code 3 = .ok (.invokespecial 489, 3) := by decide +kernel
theorem d33_6 : decode jdk_42_method_53_code 6 = .ok (.return_, 1) := by decide +kernel
theorem d32_0 : decode jdk_67_method_42_code 0 = .ok (.new 18, 3) := by decide +kernel
theorem d32_3 : decode jdk_67_method_42_code 3 = .ok (.dup, 1) := by decide +kernel
theorem d32_4 : decode jdk_67_method_42_code 4 = .ok (.aload_n 0, 1) := by decide +kernel
theorem d32_5 : decode jdk_67_method_42_code 5 = .ok (.invokespecial 137, 3) := by decide +kernel
theorem d32_8 : decode jdk_67_method_42_code 8 = .ok (.areturn, 1) := by decide +kernel
theorem d43_0 : decode jdk_78_method_2_code 0 = .ok (.aload_n 0, 1) := by decide +kernel
theorem d43_1 : decode jdk_78_method_2_code 1 = .ok (.invokespecial 1, 3) := by decide +kernel
theorem d43_4 : decode jdk_78_method_2_code 4 = .ok (.aload_n 0, 1) := by decide +kernel
theorem d43_5 : decode jdk_78_method_2_code 5 = .ok (.aload_n 0, 1) := by decide +kernel
theorem d43_6 : decode jdk_78_method_2_code 6 = .ok (.putfield 7, 3) := by decide +kernel
theorem d43_9 : decode jdk_78_method_2_code 9 = .ok (.aload_n 0, 1) := by decide +kernel
theorem d43_10 : decode jdk_78_method_2_code 10 = .ok (.getstatic 13, 3) := by decide +kernel
theorem d43_13 : decode jdk_78_method_2_code 13 = .ok (.putfield 17, 3) := by decide +kernel
theorem d43_16 : decode jdk_78_method_2_code 16 = .ok (.aload_n 0, 1) := by decide +kernel
theorem d43_17 : decode jdk_78_method_2_code 17 = .ok (.getstatic 20, 3) := by decide +kernel
theorem d43_20 : decode jdk_78_method_2_code 20 = .ok (.putfield 24, 3) := by decide +kernel
theorem d43_23 : decode jdk_78_method_2_code 23 = .ok (.aload_n 0, 1) := by decide +kernel
theorem d43_24 : decode jdk_78_method_2_code 24 = .ok (.invokevirtual 27, 3) := by decide +kernel
theorem d43_27 : decode jdk_78_method_2_code 27 = .ok (.pop, 1) := by decide +kernel
theorem d43_28 : decode jdk_78_method_2_code 28 = .ok (.aload_n 0, 1) := by decide +kernel
theorem d43_29 : decode jdk_78_method_2_code 29 = .ok (.aload_n 1, 1) := by decide +kernel
theorem d43_30 : decode jdk_78_method_2_code 30 = .ok (.putfield 31, 3) := by decide +kernel
theorem d43_33 : decode jdk_78_method_2_code 33 = .ok (.return_, 1) := by decide +kernel
theorem d42_0 : decode jdk_59_method_2_code 0 = .ok (.aload_n 0, 1) := by decide +kernel
theorem d42_1 : decode jdk_59_method_2_code 1 = .ok (.aload_n 1, 1) := by decide +kernel
theorem d42_2 : decode jdk_59_method_2_code 2 = .ok (.invokespecial 7, 3) := by decide +kernel
theorem d42_5 : decode jdk_59_method_2_code 5 = .ok (.return_, 1) := by decide +kernel
theorem d16_0 : decode prog_176_method_1_code 0 = .ok (.aload_n 0, 1) := by decide +kernel
theorem d16_1 : decode prog_176_method_1_code 1 = .ok (.new 1, 3) := by decide +kernel
theorem d16_4 : decode prog_176_method_1_code 4 = .ok (.dup, 1) := by decide +kernel
theorem d16_5 : decode prog_176_method_1_code 5 = .ok (.invokespecial 3, 3) := by decide +kernel
theorem d16_8 : decode prog_176_method_1_code 8 = .ok (.aload_n 1, 1) := by decide +kernel
theorem d16_9 : decode prog_176_method_1_code 9 = .ok (.invokevirtual 7, 3) := by decide +kernel
theorem d16_12 : decode prog_176_method_1_code 12 = .ok (.ldc 11, 2) := by decide +kernel
theorem d16_14 : decode prog_176_method_1_code 14 = .ok (.invokevirtual 7, 3) := by decide +kernel
theorem d16_17 : decode prog_176_method_1_code 17 = .ok (.iload_n 2, 1) := by decide +kernel
theorem d16_18 : decode prog_176_method_1_code 18 = .ok (.invokevirtual 13, 3) := by decide +kernel
theorem d16_21 : decode prog_176_method_1_code 21 = .ok (.ldc 11, 2) := by decide +kernel
theorem d16_23 : decode prog_176_method_1_code 23 = .ok (.invokevirtual 7, 3) := by decide +kernel
theorem d16_26 : decode prog_176_method_1_code 26 = .ok (.iload_n 3, 1) := by decide +kernel
theorem d16_27 : decode prog_176_method_1_code 27 = .ok (.invokevirtual 13, 3) := by decide +kernel
theorem d16_30 : decode prog_176_method_1_code 30 = .ok (.ldc 16, 2) := by decide +kernel
theorem d16_32 : decode prog_176_method_1_code 32 = .ok (.invokevirtual 7, 3) := by decide +kernel
theorem d16_35 : decode prog_176_method_1_code 35 = .ok (.aload 4, 2) := by decide +kernel
theorem d16_37 : decode prog_176_method_1_code 37 = .ok (.invokevirtual 7, 3) := by decide +kernel
theorem d16_40 : decode prog_176_method_1_code 40 = .ok (.invokevirtual 18, 3) := by decide +kernel
theorem d16_43 : decode prog_176_method_1_code 43 = .ok (.invokespecial 22, 3) := by decide +kernel
theorem d16_46 : decode prog_176_method_1_code 46 = .ok (.return_, 1) := by decide +kernel
theorem d12_0 : decode prog_70_method_19_code 0 = .ok (.new 115, 3) := by decide +kernel
theorem d12_3 : decode prog_70_method_19_code 3 = .ok (.dup, 1) := by decide +kernel
theorem d12_4 : decode prog_70_method_19_code 4 = .ok (.aload_n 0, 1) := by decide +kernel
theorem d12_5 : decode prog_70_method_19_code 5 = .ok (.getfield 15, 3) := by decide +kernel
theorem d12_8 : decode prog_70_method_19_code 8 = .ok (.invokespecial 117, 3) := by decide +kernel
theorem d12_11 : decode prog_70_method_19_code 11 = .ok (.astore_n 3, 1) := by decide +kernel
theorem d12_12 : decode prog_70_method_19_code 12 = .ok (.iconst 0, 1) := by decide +kernel
theorem d12_13 : decode prog_70_method_19_code 13 = .ok (.istore 4, 2) := by decide +kernel
theorem d12_15 : decode prog_70_method_19_code 15 = .ok (.iload 4, 2) := by decide +kernel
theorem d12_17 : decode prog_70_method_19_code 17 = .ok (.iload_n 1, 1) := by decide +kernel
theorem d12_18 : decode prog_70_method_19_code 18 = .ok (.if_icmp .ge 22, 3) := by decide +kernel
theorem d12_40 : decode prog_70_method_19_code 40 = .ok (.new 124, 3) := by decide +kernel
theorem d12_43 : decode prog_70_method_19_code 43 = .ok (.dup, 1) := by decide +kernel
theorem d12_44 : decode prog_70_method_19_code 44 = .ok (.aload_n 0, 1) := by decide +kernel
theorem d12_45 : decode prog_70_method_19_code 45 = .ok (.getfield 19, 3) := by decide +kernel
theorem d12_48 : decode prog_70_method_19_code 48 = .ok (.aload_n 3, 1) := by decide +kernel
theorem d12_49 : decode prog_70_method_19_code 49 = .ok (.invokevirtual 126, 3) := by decide +kernel
theorem d12_52 : decode prog_70_method_19_code 52 = .ok (.aload_n 3, 1) := by decide +kernel
theorem d12_53 : decode prog_70_method_19_code 53 = .ok (.invokevirtual 129, 3) := by decide +kernel
theorem d12_56 : decode prog_70_method_19_code 56 = .ok (.aload_n 2, 1) := by decide +kernel
theorem d12_57 : decode prog_70_method_19_code 57 = .ok (.invokespecial 132, 3) := by decide +kernel
theorem d12_60 : decode prog_70_method_19_code 60 = .ok (.areturn, 1) := by decide +kernel
theorem d46_0 : decode jdk_78_method_6_code 0 = .ok (.aload_n 0, 1) := by decide +kernel
theorem d46_1 : decode jdk_78_method_6_code 1 = .ok (.getfield 31, 3) := by decide +kernel
theorem d46_4 : decode jdk_78_method_6_code 4 = .ok (.areturn, 1) := by decide +kernel
theorem d48_0 : decode jdk_43_method_13_code 0 = .ok (.aload_n 0, 1) := by decide +kernel
theorem d48_1 : decode jdk_43_method_13_code 1 = .ok (.arraylength, 1) := by decide +kernel
theorem d48_2 : decode jdk_43_method_13_code 2 = .ok (.aload_n 1, 1) := by decide +kernel
theorem d48_3 : decode jdk_43_method_13_code 3 = .ok (.arraylength, 1) := by decide +kernel
theorem d48_4 : decode jdk_43_method_13_code 4 = .ok (.if_icmp .ne 30, 3) := by decide +kernel
theorem d48_7 : decode jdk_43_method_13_code 7 = .ok (.iconst 0, 1) := by decide +kernel
theorem d48_8 : decode jdk_43_method_13_code 8 = .ok (.istore_n 2, 1) := by decide +kernel
theorem d48_9 : decode jdk_43_method_13_code 9 = .ok (.iload_n 2, 1) := by decide +kernel
theorem d48_10 : decode jdk_43_method_13_code 10 = .ok (.aload_n 0, 1) := by decide +kernel
theorem d48_11 : decode jdk_43_method_13_code 11 = .ok (.arraylength, 1) := by decide +kernel
theorem d48_12 : decode jdk_43_method_13_code 12 = .ok (.if_icmp .ge 20, 3) := by decide +kernel
theorem d48_15 : decode jdk_43_method_13_code 15 = .ok (.aload_n 0, 1) := by decide +kernel
theorem d48_16 : decode jdk_43_method_13_code 16 = .ok (.iload_n 2, 1) := by decide +kernel
theorem d48_17 : decode jdk_43_method_13_code 17 = .ok (.baload, 1) := by decide +kernel
theorem d48_18 : decode jdk_43_method_13_code 18 = .ok (.aload_n 1, 1) := by decide +kernel
theorem d48_19 : decode jdk_43_method_13_code 19 = .ok (.iload_n 2, 1) := by decide +kernel
theorem d48_20 : decode jdk_43_method_13_code 20 = .ok (.baload, 1) := by decide +kernel
theorem d48_21 : decode jdk_43_method_13_code 21 = .ok (.if_icmp .eq 5, 3) := by decide +kernel
theorem d48_24 : decode jdk_43_method_13_code 24 = .ok (.iconst 0, 1) := by decide +kernel
theorem d48_25 : decode jdk_43_method_13_code 25 = .ok (.ireturn, 1) := by decide +kernel
theorem d48_26 : decode jdk_43_method_13_code 26 = .ok (.iinc 2 1, 3) := by decide +kernel
theorem d48_29 : decode jdk_43_method_13_code 29 = .ok (.goto (-20), 3) := by decide +kernel
theorem d48_32 : decode jdk_43_method_13_code 32 = .ok (.iconst 1, 1) := by decide +kernel
theorem d48_33 : decode jdk_43_method_13_code 33 = .ok (.ireturn, 1) := by decide +kernel
theorem d48_34 : decode jdk_43_method_13_code 34 = .ok (.iconst 0, 1) := by decide +kernel
theorem d48_35 : decode jdk_43_method_13_code 35 = .ok (.ireturn, 1) := by decide +kernel
theorem d47_0 : decode jdk_42_method_66_code 0 = .ok (.aload_n 0, 1) := by decide +kernel
theorem d47_1 : decode jdk_42_method_66_code 1 = .ok (.aload_n 1, 1) := by decide +kernel
theorem d47_2 : decode jdk_42_method_66_code 2 = .ok (.if_acmp .ne 5, 3) := by decide +kernel
theorem d47_5 : decode jdk_42_method_66_code 5 = .ok (.iconst 1, 1) := by decide +kernel
theorem d47_6 : decode jdk_42_method_66_code 6 = .ok (.ireturn, 1) := by decide +kernel
theorem d47_7 : decode jdk_42_method_66_code 7 = .ok (.aload_n 1, 1) := by decide +kernel
theorem d47_8 : decode jdk_42_method_66_code 8 = .ok (.instanceof 10, 3) := by decide +kernel
theorem d47_11 : decode jdk_42_method_66_code 11 = .ok (.ifCond .eq 43, 3) := by decide +kernel
theorem d47_14 : decode jdk_42_method_66_code 14 = .ok (.aload_n 1, 1) := by decide +kernel
theorem d47_15 : decode jdk_42_method_66_code 15 = .ok (.checkcast 10, 3) := by decide +kernel
theorem d47_18 : decode jdk_42_method_66_code 18 = .ok (.astore_n 2, 1) := by decide +kernel
theorem d47_19 : decode jdk_42_method_66_code 19 = .ok (.getstatic 38, 3) := by decide +kernel
theorem d47_22 : decode jdk_42_method_66_code 22 = .ok (.ifCond .eq 14, 3) := by decide +kernel
theorem d47_25 : decode jdk_42_method_66_code 25 = .ok (.aload_n 0, 1) := by decide +kernel
theorem d47_26 : decode jdk_42_method_66_code 26 = .ok (.getfield 15, 3) := by decide +kernel
theorem d47_29 : decode jdk_42_method_66_code 29 = .ok (.aload_n 2, 1) := by decide +kernel
theorem d47_30 : decode jdk_42_method_66_code 30 = .ok (.getfield 15, 3) := by decide +kernel
theorem d47_33 : decode jdk_42_method_66_code 33 = .ok (.if_icmp .ne 21, 3) := by decide +kernel
theorem d47_36 : decode jdk_42_method_66_code 36 = .ok (.aload_n 0, 1) := by decide +kernel
theorem d47_37 : decode jdk_42_method_66_code 37 = .ok (.getfield 9, 3) := by decide +kernel
theorem d47_40 : decode jdk_42_method_66_code 40 = .ok (.aload_n 2, 1) := by decide +kernel
theorem d47_41 : decode jdk_42_method_66_code 41 = .ok (.getfield 9, 3) := by decide +kernel
theorem d47_44 : decode jdk_42_method_66_code 44 = .ok (.invokestatic 541, 3) := by decide +kernel
theorem d47_47 : decode jdk_42_method_66_code 47 = .ok (.ifCond .eq 7, 3) := by decide +kernel
theorem d47_50 : decode jdk_42_method_66_code 50 = .ok (.iconst 1, 1) := by decide +kernel
theorem d47_51 : decode jdk_42_method_66_code 51 = .ok (.goto 4, 3) := by decide +kernel
theorem d47_54 : decode jdk_42_method_66_code 54 = .ok (.iconst 0, 1) := by decide +kernel
theorem d47_55 : decode jdk_42_method_66_code 55 = .ok (.ireturn, 1) := by decide +kernel
theorem d51_0 : decode jdk_48_method_14_code 0 = .ok (.iconst 0, 1) := by decide +kernel
theorem d51_1 : decode jdk_48_method_14_code 1 = .ok (.istore 5, 2) := by decide +kernel
theorem d51_3 : decode jdk_48_method_14_code 3 = .ok (.iload 4, 2) := by decide +kernel
theorem d51_5 : decode jdk_48_method_14_code 5 = .ok (.bipush 7, 2) := by decide +kernel
theorem d51_7 : decode jdk_48_method_14_code 7 = .ok (.if_icmp .le 63, 3) := by decide +kernel
theorem d51_70 : decode jdk_48_method_14_code 70 = .ok (.iload 5, 2) := by decide +kernel
theorem d51_72 : decode jdk_48_method_14_code 72 = .ok (.iload 4, 2) := by decide +kernel
theorem d51_74 : decode jdk_48_method_14_code 74 = .ok (.if_icmp .ge 27, 3) := by decide +kernel
theorem d51_77 : decode jdk_48_method_14_code 77 = .ok (.aload_n 0, 1) := by decide +kernel
theorem d51_78 : decode jdk_48_method_14_code 78 = .ok (.iload_n 1, 1) := by decide +kernel
theorem d51_79 : decode jdk_48_method_14_code 79 = .ok (.iload 5, 2) := by decide +kernel
theorem d51_81 : decode jdk_48_method_14_code 81 = .ok (.iadd, 1) := by decide +kernel
theorem d51_82 : decode jdk_48_method_14_code 82 = .ok (.baload, 1) := by decide +kernel
theorem d51_83 : decode jdk_48_method_14_code 83 = .ok (.aload_n 2, 1) := by decide +kernel
theorem d51_84 : decode jdk_48_method_14_code 84 = .ok (.iload_n 3, 1) := by decide +kernel
theorem d51_85 : decode jdk_48_method_14_code 85 = .ok (.iload 5, 2) := by decide +kernel
theorem d51_87 : decode jdk_48_method_14_code 87 = .ok (.iadd, 1) := by decide +kernel
theorem d51_88 : decode jdk_48_method_14_code 88 = .ok (.baload, 1) := by decide +kernel
theorem d51_89 : decode jdk_48_method_14_code 89 = .ok (.if_icmp .eq 6, 3) := by decide +kernel
theorem d51_95 : decode jdk_48_method_14_code 95 = .ok (.iinc 5 1, 3) := by decide +kernel
theorem d51_98 : decode jdk_48_method_14_code 98 = .ok (.goto (-28), 3) := by decide +kernel
theorem d51_101 : decode jdk_48_method_14_code 101 = .ok (.iconst (-1), 1) := by decide +kernel
theorem d51_102 : decode jdk_48_method_14_code 102 = .ok (.ireturn, 1) := by decide +kernel
theorem d50_0 : decode jdk_42_method_75_code 0 = .ok (.iload_n 2, 1) := by decide +kernel
theorem d50_1 : decode jdk_42_method_75_code 1 = .ok (.ifCond .lt 16, 3) := by decide +kernel
theorem d50_4 : decode jdk_42_method_75_code 4 = .ok (.iload_n 2, 1) := by decide +kernel
theorem d50_5 : decode jdk_42_method_75_code 5 = .ok (.aload_n 0, 1) := by decide +kernel
theorem d50_6 : decode jdk_42_method_75_code 6 = .ok (.invokevirtual 505, 3) := by decide +kernel
theorem d50_9 : decode jdk_42_method_75_code 9 = .ok (.aload_n 1, 1) := by decide +kernel
theorem d50_10 : decode jdk_42_method_75_code 10 = .ok (.invokevirtual 505, 3) := by decide +kernel
theorem d50_13 : decode jdk_42_method_75_code 13 = .ok (.isub, 1) := by decide +kernel
theorem d50_14 : decode jdk_42_method_75_code 14 = .ok (.if_icmp .le 5, 3) := by decide +kernel
theorem d50_19 : decode jdk_42_method_75_code 19 = .ok (.aload_n 0, 1) := by decide +kernel
theorem d50_20 : decode jdk_42_method_75_code 20 = .ok (.getfield 9, 3) := by decide +kernel
theorem d50_23 : decode jdk_42_method_75_code 23 = .ok (.astore_n 3, 1) := by decide +kernel
theorem d50_24 : decode jdk_42_method_75_code 24 = .ok (.aload_n 1, 1) := by decide +kernel
theorem d50_25 : decode jdk_42_method_75_code 25 = .ok (.getfield 9, 3) := by decide +kernel
theorem d50_28 : decode jdk_42_method_75_code 28 = .ok (.astore 4, 2) := by decide +kernel
theorem d50_30 : decode jdk_42_method_75_code 30 = .ok (.iconst 0, 1) := by decide +kernel
theorem d50_31 : decode jdk_42_method_75_code 31 = .ok (.istore 5, 2) := by decide +kernel
theorem d50_33 : decode jdk_42_method_75_code 33 = .ok (.aload 4, 2) := by decide +kernel
theorem d50_35 : decode jdk_42_method_75_code 35 = .ok (.arraylength, 1) := by decide +kernel
theorem d50_36 : decode jdk_42_method_75_code 36 = .ok (.istore 6, 2) := by decide +kernel
theorem d50_38 : decode jdk_42_method_75_code 38 = .ok (.aload_n 0, 1) := by decide +kernel
theorem d50_39 : decode jdk_42_method_75_code 39 = .ok (.invokevirtual 335, 3) := by decide +kernel
theorem d50_42 : decode jdk_42_method_75_code 42 = .ok (.istore 7, 2) := by decide +kernel
theorem d50_44 : decode jdk_42_method_75_code 44 = .ok (.iload 7, 2) := by decide +kernel
theorem d50_46 : decode jdk_42_method_75_code 46 = .ok (.aload_n 1, 1) := by decide +kernel
theorem d50_47 : decode jdk_42_method_75_code 47 = .ok (.invokevirtual 335, 3) := by decide +kernel
theorem d50_50 : decode jdk_42_method_75_code 50 = .ok (.if_icmp .ne 32, 3) := by decide +kernel
theorem d50_53 : decode jdk_42_method_75_code 53 = .ok (.iload 7, 2) := by decide +kernel
theorem d50_55 : decode jdk_42_method_75_code 55 = .ok (.iconst 1, 1) := by decide +kernel
theorem d50_56 : decode jdk_42_method_75_code 56 = .ok (.if_icmp .ne 7, 3) := by decide +kernel
theorem d50_63 : decode jdk_42_method_75_code 63 = .ok (.aload_n 3, 1) := by decide +kernel
theorem d50_64 : decode jdk_42_method_75_code 64 = .ok (.iload_n 2, 1) := by decide +kernel
theorem d50_65 : decode jdk_42_method_75_code 65 = .ok (.aload 4, 2) := by decide +kernel
theorem d50_67 : decode jdk_42_method_75_code 67 = .ok (.iconst 0, 1) := by decide +kernel
theorem d50_68 : decode jdk_42_method_75_code 68 = .ok (.iload 6, 2) := by decide +kernel
theorem d50_70 : decode jdk_42_method_75_code 70 = .ok (.invokestatic 607, 3) := by decide +kernel
theorem d50_73 : decode jdk_42_method_75_code 73 = .ok (.ifCond .ge 7, 3) := by decide +kernel
theorem d50_76 : decode jdk_42_method_75_code 76 = .ok (.iconst 1, 1) := by decide +kernel
theorem d50_77 : decode jdk_42_method_75_code 77 = .ok (.goto 4, 3) := by decide +kernel
theorem d50_81 : decode jdk_42_method_75_code 81 = .ok (.ireturn, 1) := by decide +kernel
theorem d49_0 : decode prog_70_method_12_code 0 = .ok (.aload_n 0, 1) := by decide +kernel
theorem d49_1 : decode prog_70_method_12_code 1 = .ok (.getfield 9, 3) := by decide +kernel
theorem d49_4 : decode prog_70_method_12_code 4 = .ok (.aload_n 1, 1) := by decide +kernel
theorem d49_5 : decode prog_70_method_12_code 5 = .ok (.aload_n 0, 1) := by decide +kernel
theorem d49_6 : decode prog_70_method_12_code 6 = .ok (.getfield 25, 3) := by decide +kernel
theorem d49_9 : decode prog_70_method_12_code 9 = .ok (.invokevirtual 74, 3) := by decide +kernel
theorem d49_12 : decode prog_70_method_12_code 12 = .ok (.ifCond .ne 5, 3) := by decide +kernel
theorem d49_17 : decode prog_70_method_12_code 17 = .ok (.aload_n 0, 1) := by decide +kernel
theorem d49_18 : decode prog_70_method_12_code 18 = .ok (.dup, 1) := by decide +kernel
theorem d49_19 : decode prog_70_method_12_code 19 = .ok (.getfield 25, 3) := by decide +kernel
theorem d49_22 : decode prog_70_method_12_code 22 = .ok (.aload_n 1, 1) := by decide +kernel
theorem d49_23 : decode prog_70_method_12_code 23 = .ok (.invokevirtual 59, 3) := by decide +kernel
theorem d49_26 : decode prog_70_method_12_code 26 = .ok (.iadd, 1) := by decide +kernel
theorem d49_27 : decode prog_70_method_12_code 27 = .ok (.putfield 25, 3) := by decide +kernel
theorem d49_30 : decode prog_70_method_12_code 30 = .ok (.iconst 1, 1) := by decide +kernel
theorem d49_31 : decode prog_70_method_12_code 31 = .ok (.ireturn, 1) := by decide +kernel
theorem d52_0 : decode prog_70_method_8_code 0 = .ok (.aload_n 0, 1) := by decide +kernel
theorem d52_1 : decode prog_70_method_8_code 1 = .ok (.getfield 25, 3) := by decide +kernel
theorem d52_4 : decode prog_70_method_8_code 4 = .ok (.aload_n 0, 1) := by decide +kernel
theorem d52_5 : decode prog_70_method_8_code 5 = .ok (.getfield 9, 3) := by decide +kernel
theorem d52_8 : decode prog_70_method_8_code 8 = .ok (.invokevirtual 59, 3) := by decide +kernel
theorem d52_11 : decode prog_70_method_8_code 11 = .ok (.if_icmp .lt 7, 3) := by decide +kernel
theorem d52_14 : decode prog_70_method_8_code 14 = .ok (.iconst 1, 1) := by decide +kernel
theorem d52_15 : decode prog_70_method_8_code 15 = .ok (.goto 4, 3) := by decide +kernel
theorem d52_19 : decode prog_70_method_8_code 19 = .ok (.ireturn, 1) := by decide +kernel
theorem ef6 (m : MethodId) (x0 : Addr) (x1 : Int32) (x2 : Addr) (x3 : Int32) (x4 : Int32) : entryFrame m #[(.ref x0), (.int x1), (.ref x2), (.int x3), (.int x4)] 7 = mkF m 0 #[.val (.ref x0), .val (.int x1), .val (.ref x2), .val (.int x3), .val (.int x4), .unset, .unset] [] := by first | (simp [entryFrame, mkF, argsToLocals, Value.category]; done) | rfl
theorem ef5 (m : MethodId) (x0 : Addr) (x1 : Int32) (x2 : Int32) : entryFrame m #[(.ref x0), (.int x1), (.int x2)] 6 = mkF m 0 #[.val (.ref x0), .val (.int x1), .val (.int x2), .unset, .unset, .unset] [] := by first | (simp [entryFrame, mkF, argsToLocals, Value.category]; done) | rfl
theorem ef7 (m : MethodId) (x0 : Addr) (x1 : Int32) : entryFrame m #[(.ref x0), (.int x1)] 2 = mkF m 0 #[.val (.ref x0), .val (.int x1)] [] := by first | (simp [entryFrame, mkF, argsToLocals, Value.category]; done) | rfl
theorem ef3 (m : MethodId) (x0 : Addr) (x1 : Addr) (x2 : Int32) (x3 : Int32) : entryFrame m #[(.ref x0), (.ref x1), (.int x2), (.int x3), .null] 6 = mkF m 0 #[.val (.ref x0), .val (.ref x1), .val (.int x2), .val (.int x3), .val .null, .unset] [] := by first | (simp [entryFrame, mkF, argsToLocals, Value.category]; done) | rfl
theorem ef2 (m : MethodId) (x0 : Addr) (x1 : Addr) : entryFrame m #[(.ref x0), (.ref x1)] 2 = mkF m 0 #[.val (.ref x0), .val (.ref x1)] [] := by first | (simp [entryFrame, mkF, argsToLocals, Value.category]; done) | rfl
theorem ef1 (m : MethodId) (x0 : Int32) (x1 : Int32) (x2 : Int32) (x3 : Int32) : entryFrame m #[(.int x0), (.int x1), (.int x2), (.int x3)] 4 = mkF m 0 #[.val (.int x0), .val (.int x1), .val (.int x2), .val (.int x3)] [] := by first | (simp [entryFrame, mkF, argsToLocals, Value.category]; done) | rfl
theorem ef8 (m : MethodId) (x0 : Addr) (x1 : Addr) (x2 : Addr) : entryFrame m #[(.ref x0), (.ref x1), (.ref x2)] 3 = mkF m 0 #[.val (.ref x0), .val (.ref x1), .val (.ref x2)] [] := by first | (simp [entryFrame, mkF, argsToLocals, Value.category]; done) | rfl
theorem ef9 (m : MethodId) (x0 : Addr) (x1 : Addr) (x2 : Int32) : entryFrame m #[(.ref x0), (.ref x1), (.int x2)] 3 = mkF m 0 #[.val (.ref x0), .val (.ref x1), .val (.int x2)] [] := by first | (simp [entryFrame, mkF, argsToLocals, Value.category]; done) | rfl
theorem ef10 (m : MethodId) (x0 : Addr) (x1 : Int32) : entryFrame m #[(.ref x0), (.int x1)] 2 = mkF m 0 #[.val (.ref x0), .val (.int x1)] [] := by first | (simp [entryFrame, mkF, argsToLocals, Value.category]; done) | rfl
theorem ef11 (m : MethodId) (x0 : Addr) : entryFrame m #[(.ref x0)] 1 = mkF m 0 #[.val (.ref x0)] [] := by first | (simp [entryFrame, mkF, argsToLocals, Value.category]; done) | rfl
theorem ef13 (m : MethodId) (x0 : Addr) (x1 : Int32) : entryFrame m #[(.ref x0), (.int x1)] 2 = mkF m 0 #[.val (.ref x0), .val (.int x1)] [] := by first | (simp [entryFrame, mkF, argsToLocals, Value.category]; done) | rfl
theorem ef14 (m : MethodId) (x0 : Addr) : entryFrame m #[(.ref x0)] 1 = mkF m 0 #[.val (.ref x0)] [] := by first | (simp [entryFrame, mkF, argsToLocals, Value.category]; done) | rfl
theorem ef15 (m : MethodId) (x0 : Addr) : entryFrame m #[(.ref x0)] 1 = mkF m 0 #[.val (.ref x0)] [] := by first | (simp [entryFrame, mkF, argsToLocals, Value.category]; done) | rfl
theorem ef22 (m : MethodId) (x0 : Addr) : entryFrame m #[(.ref x0)] 1 = mkF m 0 #[.val (.ref x0)] [] := by first | (simp [entryFrame, mkF, argsToLocals, Value.category]; done) | rfl
theorem ef21 (m : MethodId) (x0 : Addr) : entryFrame m #[(.ref x0)] 1 = mkF m 0 #[.val (.ref x0)] [] := by first | (simp [entryFrame, mkF, argsToLocals, Value.category]; done) | rfl
theorem ef18 (m : MethodId) (x0 : Addr) (x1 : Int32) : entryFrame m #[(.ref x0), (.int x1)] 2 = mkF m 0 #[.val (.ref x0), .val (.int x1)] [] := by first | (simp [entryFrame, mkF, argsToLocals, Value.category]; done) | rfl
theorem ef17 (m : MethodId) (x0 : Addr) : entryFrame m #[(.ref x0)] 1 = mkF m 0 #[.val (.ref x0)] [] := by first | (simp [entryFrame, mkF, argsToLocals, Value.category]; done) | rfl
theorem ef55 (m : MethodId) (x0 : Int32) (x1 : Int32) : entryFrame m #[(.int x0), (.int x1)] 2 = mkF m 0 #[.val (.int x0), .val (.int x1)] [] := by first | (simp [entryFrame, mkF, argsToLocals, Value.category]; done) | rfl
theorem ef41 (m : MethodId) (x0 : Int32) (x1 : Int32) : entryFrame m #[(.int x0), (.int x1)] 2 = mkF m 0 #[.val (.int x0), .val (.int x1)] [] := by first | (simp [entryFrame, mkF, argsToLocals, Value.category]; done) | rfl
theorem ef54 (m : MethodId) (x0 : Int32) (x1 : Int32) (x2 : Int32) : entryFrame m #[(.int x0), (.int x1), (.int x2)] 4 = mkF m 0 #[.val (.int x0), .val (.int x1), .val (.int x2), .unset] [] := by first | (simp [entryFrame, mkF, argsToLocals, Value.category]; done) | rfl
theorem ef53 (m : MethodId) (x0 : Addr) (x1 : Int32) : entryFrame m #[(.ref x0), (.int x1)] 6 = mkF m 0 #[.val (.ref x0), .val (.int x1), .unset, .unset, .unset, .unset] [] := by first | (simp [entryFrame, mkF, argsToLocals, Value.category]; done) | rfl
theorem ef56 (m : MethodId) (x0 : Addr) (x1 : Int32) : entryFrame m #[(.ref x0), (.int x1)] 3 = mkF m 0 #[.val (.ref x0), .val (.int x1), .unset] [] := by first | (simp [entryFrame, mkF, argsToLocals, Value.category]; done) | rfl
theorem ef23 (m : MethodId) (x0 : Addr) (x1 : Int32) : entryFrame m #[(.ref x0), (.int x1)] 3 = mkF m 0 #[.val (.ref x0), .val (.int x1), .unset] [] := by first | (simp [entryFrame, mkF, argsToLocals, Value.category]; done) | rfl
theorem ef25 (m : MethodId) (x0 : Addr) (x1 : Addr) : entryFrame m #[(.ref x0), (.ref x1)] 2 = mkF m 0 #[.val (.ref x0), .val (.ref x1)] [] := by first | (simp [entryFrame, mkF, argsToLocals, Value.category]; done) | rfl
theorem ef26 (m : MethodId) (x0 : Addr) (x1 : Addr) (x2 : Int32) (x3 : Int32) : entryFrame m #[(.ref x0), (.ref x1), (.int x2), (.int x3)] 4 = mkF m 0 #[.val (.ref x0), .val (.ref x1), .val (.int x2), .val (.int x3)] [] := by first | (simp [entryFrame, mkF, argsToLocals, Value.category]; done) | rfl
theorem ef24 (m : MethodId) (x0 : Addr) (x1 : Int32) (x2 : Addr) : entryFrame m #[(.ref x0), (.int x1), (.ref x2)] 3 = mkF m 0 #[.val (.ref x0), .val (.int x1), .val (.ref x2)] [] := by first | (simp [entryFrame, mkF, argsToLocals, Value.category]; done) | rfl
theorem ef20 (m : MethodId) (x0 : Addr) (x1 : Addr) : entryFrame m #[(.ref x0), (.ref x1)] 3 = mkF m 0 #[.val (.ref x0), .val (.ref x1), .unset] [] := by first | (simp [entryFrame, mkF, argsToLocals, Value.category]; done) | rfl
theorem ef19 (m : MethodId) (x0 : Addr) (x1 : Addr) : entryFrame m #[(.ref x0), (.ref x1)] 2 = mkF m 0 #[.val (.ref x0), .val (.ref x1)] [] := by first | (simp [entryFrame, mkF, argsToLocals, Value.category]; done) | rfl
theorem ef29 (m : MethodId) (x0 : Int32) : entryFrame m #[(.int x0)] 4 = mkF m 0 #[.val (.int x0), .unset, .unset, .unset] [] := by first | (simp [entryFrame, mkF, argsToLocals, Value.category]; done) | rfl
theorem ef30 (m : MethodId) (x0 : Addr) : entryFrame m #[(.ref x0)] 1 = mkF m 0 #[.val (.ref x0)] [] := by first | (simp [entryFrame, mkF, argsToLocals, Value.category]; done) | rfl
theorem ef31 (m : MethodId) (x0 : Int32) (x1 : Int32) (x2 : Addr) : entryFrame m #[(.int x0), (.int x1), (.ref x2)] 7 = mkF m 0 #[.val (.int x0), .val (.int x1), .val (.ref x2), .unset, .unset, .unset, .unset] [] := by first | (simp [entryFrame, mkF, argsToLocals, Value.category]; done) | rfl
theorem ef28 (m : MethodId) (x0 : Addr) (x1 : Int32) : entryFrame m #[(.ref x0), (.int x1)] 4 = mkF m 0 #[.val (.ref x0), .val (.int x1), .unset, .unset] [] := by first | (simp [entryFrame, mkF, argsToLocals, Value.category]; done) | rfl
theorem ef27 (m : MethodId) (x0 : Addr) (x1 : Int32) : entryFrame m #[(.ref x0), (.int x1)] 2 = mkF m 0 #[.val (.ref x0), .val (.int x1)] [] := by first | (simp [entryFrame, mkF, argsToLocals, Value.category]; done) | rfl
theorem ef35 (m : MethodId) (x0 : Addr) : entryFrame m #[(.ref x0)] 1 = mkF m 0 #[.val (.ref x0)] [] := by first | (simp [entryFrame, mkF, argsToLocals, Value.category]; done) | rfl
theorem ef37 (m : MethodId) (x0 : Addr) : entryFrame m #[(.ref x0)] 1 = mkF m 0 #[.val (.ref x0)] [] := by first | (simp [entryFrame, mkF, argsToLocals, Value.category]; done) | rfl
theorem ef36 (m : MethodId) (x0 : Addr) : entryFrame m #[(.ref x0)] 1 = mkF m 0 #[.val (.ref x0)] [] := by first | (simp [entryFrame, mkF, argsToLocals, Value.category]; done) | rfl
theorem ef40 (m : MethodId) (x0 : Int32) (x1 : Int32) : entryFrame m #[(.int x0), (.int x1)] 2 = mkF m 0 #[.val (.int x0), .val (.int x1)] [] := by first | (simp [entryFrame, mkF, argsToLocals, Value.category]; done) | rfl
theorem ef39 (m : MethodId) (x0 : Addr) (x1 : Int32) (x2 : Int32) : entryFrame m #[(.ref x0), (.int x1), (.int x2)] 5 = mkF m 0 #[.val (.ref x0), .val (.int x1), .val (.int x2), .unset, .unset] [] := by first | (simp [entryFrame, mkF, argsToLocals, Value.category]; done) | rfl
theorem ef38 (m : MethodId) (x0 : Addr) (x1 : Int32) (x2 : Int32) : entryFrame m #[(.ref x0), (.int x1), (.int x2)] 3 = mkF m 0 #[.val (.ref x0), .val (.int x1), .val (.int x2)] [] := by first | (simp [entryFrame, mkF, argsToLocals, Value.category]; done) | rfl
theorem ef34 (m : MethodId) (x0 : Addr) (x1 : Addr) : entryFrame m #[(.ref x0), (.ref x1), .null] 5 = mkF m 0 #[.val (.ref x0), .val (.ref x1), .val .null, .unset, .unset] [] := by first | (simp [entryFrame, mkF, argsToLocals, Value.category]; done) | rfl
theorem ef33 (m : MethodId) (x0 : Addr) (x1 : Addr) : entryFrame m #[(.ref x0), (.ref x1)] 2 = mkF m 0 #[.val (.ref x0), .val (.ref x1)] [] := by first | (simp [entryFrame, mkF, argsToLocals, Value.category]; done) | rfl
theorem ef32 (m : MethodId) (x0 : Addr) : entryFrame m #[(.ref x0)] 1 = mkF m 0 #[.val (.ref x0)] [] := by first | (simp [entryFrame, mkF, argsToLocals, Value.category]; done) | rfl
theorem ef43 (m : MethodId) (x0 : Addr) (x1 : Addr) : entryFrame m #[(.ref x0), (.ref x1)] 2 = mkF m 0 #[.val (.ref x0), .val (.ref x1)] [] := by first | (simp [entryFrame, mkF, argsToLocals, Value.category]; done) | rfl
theorem ef42 (m : MethodId) (x0 : Addr) (x1 : Addr) : entryFrame m #[(.ref x0), (.ref x1)] 2 = mkF m 0 #[.val (.ref x0), .val (.ref x1)] [] := by first | (simp [entryFrame, mkF, argsToLocals, Value.category]; done) | rfl
theorem ef16 (m : MethodId) (x0 : Addr) (x1 : Addr) (x2 : Int32) (x3 : Int32) (x4 : Addr) : entryFrame m #[(.ref x0), (.ref x1), (.int x2), (.int x3), (.ref x4)] 5 = mkF m 0 #[.val (.ref x0), .val (.ref x1), .val (.int x2), .val (.int x3), .val (.ref x4)] [] := by first | (simp [entryFrame, mkF, argsToLocals, Value.category]; done) | rfl
theorem ef12 (m : MethodId) (x0 : Addr) (x1 : Int32) (x2 : Addr) : entryFrame m #[(.ref x0), (.int x1), (.ref x2)] 5 = mkF m 0 #[.val (.ref x0), .val (.int x1), .val (.ref x2), .unset, .unset] [] := by first | (simp [entryFrame, mkF, argsToLocals, Value.category]; done) | rfl
theorem ef46 (m : MethodId) (x0 : Addr) : entryFrame m #[(.ref x0)] 1 = mkF m 0 #[.val (.ref x0)] [] := by first | (simp [entryFrame, mkF, argsToLocals, Value.category]; done) | rfl
theorem ef48 (m : MethodId) (x0 : Addr) (x1 : Addr) : entryFrame m #[(.ref x0), (.ref x1)] 3 = mkF m 0 #[.val (.ref x0), .val (.ref x1), .unset] [] := by first | (simp [entryFrame, mkF, argsToLocals, Value.category]; done) | rfl
theorem ef47 (m : MethodId) (x0 : Addr) (x1 : Addr) : entryFrame m #[(.ref x0), (.ref x1)] 3 = mkF m 0 #[.val (.ref x0), .val (.ref x1), .unset] [] := by first | (simp [entryFrame, mkF, argsToLocals, Value.category]; done) | rfl
theorem ef51 (m : MethodId) (x0 : Addr) (x1 : Int32) (x2 : Addr) (x3 : Int32) (x4 : Int32) : entryFrame m #[(.ref x0), (.int x1), (.ref x2), (.int x3), (.int x4)] 8 = mkF m 0 #[.val (.ref x0), .val (.int x1), .val (.ref x2), .val (.int x3), .val (.int x4), .unset, .unset, .unset] [] := by first | (simp [entryFrame, mkF, argsToLocals, Value.category]; done) | rfl
theorem ef50 (m : MethodId) (x0 : Addr) (x1 : Addr) (x2 : Int32) : entryFrame m #[(.ref x0), (.ref x1), (.int x2)] 8 = mkF m 0 #[.val (.ref x0), .val (.ref x1), .val (.int x2), .unset, .unset, .unset, .unset, .unset] [] := by first | (simp [entryFrame, mkF, argsToLocals, Value.category]; done) | rfl
theorem ef49 (m : MethodId) (x0 : Addr) (x1 : Addr) : entryFrame m #[(.ref x0), (.ref x1)] 2 = mkF m 0 #[.val (.ref x0), .val (.ref x1)] [] := by first | (simp [entryFrame, mkF, argsToLocals, Value.category]; done) | rfl
theorem ef52 (m : MethodId) (x0 : Addr) : entryFrame m #[(.ref x0)] 1 = mkF m 0 #[.val (.ref x0)] [] := by first | (simp [entryFrame, mkF, argsToLocals, Value.category]; done) | rfl
theorem ef0 (m : MethodId) (x0 : Int32) (x1 : Int32) (x2 : Int32) (x3 : Int32) (x4 : Int32) (x5 : Int32) : entryFrame m #[(.int x0), (.int x1), (.int x2), (.int x3), (.int x4), (.int x5)] maxLocals = mkF m 0 #[.val (.int x0), .val (.int x1), .val (.int x2), .val (.int x3), .val (.int x4), .val (.int x5), .unset, .unset, .unset, .unset, .unset, .unset, .unset, .unset, .unset, .unset, .unset, .unset, .unset] [] := by first | (simp [entryFrame, mkF, argsToLocals, Value.category, maxLocals]; done) | rfl
def rm6 : Room := { frames := 0, cells := 0, slots := 0, locals := 0 }
def rm5 : Room := { frames := 1, cells := 2, slots := 9, locals := 30 }
def rm7 : Room := { frames := 0, cells := 0, slots := 0, locals := 0 }
def rm3 : Room := { frames := 2, cells := 4, slots := 12, locals := 60 }
def rm2 : Room := { frames := 3, cells := 4, slots := 12, locals := 90 }
def rm1 : Room := { frames := 4, cells := 6, slots := 19, locals := 104 }
def rm8 : Room := { frames := 1, cells := 2, slots := 4, locals := 12 }
def rm9 : Room := { frames := 0, cells := 0, slots := 0, locals := 0 }
def rm10 : Room := { frames := 0, cells := 0, slots := 0, locals := 0 }
def rm11 : Room := { frames := 0, cells := 0, slots := 0, locals := 0 }
def rm13 : Room := { frames := 1, cells := 0, slots := 0, locals := 12 }
def rm14 : Room := { frames := 0, cells := 0, slots := 0, locals := 0 }
def rm15 : Room := { frames := 0, cells := 0, slots := 0, locals := 0 }
def rm22 : Room := { frames := 0, cells := 0, slots := 0, locals := 0 }
def rm21 : Room := { frames := 1, cells := 0, slots := 0, locals := 13 }
def rm18 : Room := { frames := 1, cells := 1, slots := 16, locals := 12 }
def rm17 : Room := { frames := 2, cells := 1, slots := 16, locals := 25 }
def rm55 : Room := { frames := 0, cells := 0, slots := 0, locals := 0 }
def rm41 : Room := { frames := 0, cells := 0, slots := 0, locals := 0 }
def rm54 : Room := { frames := 1, cells := 0, slots := 0, locals := 14 }
def rm53 : Room := { frames := 2, cells := 0, slots := 0, locals := 29 }
def rm56 : Room := { frames := 1, cells := 1, slots := 34, locals := 18 }
def rm23 : Room := { frames := 3, cells := 1, slots := 34, locals := 48 }
def rm25 : Room := { frames := 1, cells := 0, slots := 0, locals := 13 }
def rm26 : Room := { frames := 1, cells := 0, slots := 0, locals := 18 }
def rm24 : Room := { frames := 2, cells := 0, slots := 0, locals := 33 }
def rm20 : Room := { frames := 4, cells := 1, slots := 34, locals := 62 }
def rm19 : Room := { frames := 5, cells := 1, slots := 34, locals := 76 }
def rm29 : Room := { frames := 0, cells := 0, slots := 0, locals := 0 }
def rm30 : Room := { frames := 0, cells := 0, slots := 0, locals := 0 }
def rm31 : Room := { frames := 0, cells := 0, slots := 0, locals := 0 }
def rm28 : Room := { frames := 4, cells := 1, slots := 34, locals := 62 }
def rm27 : Room := { frames := 5, cells := 1, slots := 34, locals := 77 }
def rm35 : Room := { frames := 0, cells := 0, slots := 0, locals := 0 }
def rm37 : Room := { frames := 0, cells := 0, slots := 0, locals := 0 }
def rm36 : Room := { frames := 1, cells := 0, slots := 0, locals := 12 }
def rm40 : Room := { frames := 0, cells := 0, slots := 0, locals := 0 }
def rm39 : Room := { frames := 1, cells := 1, slots := 34, locals := 18 }
def rm38 : Room := { frames := 2, cells := 1, slots := 34, locals := 34 }
def rm34 : Room := { frames := 3, cells := 1, slots := 34, locals := 49 }
def rm33 : Room := { frames := 4, cells := 1, slots := 34, locals := 65 }
def rm32 : Room := { frames := 5, cells := 2, slots := 38, locals := 79 }
def rm43 : Room := { frames := 3, cells := 1, slots := 2752, locals := 42 }
def rm42 : Room := { frames := 4, cells := 1, slots := 2752, locals := 55 }
def rm16 : Room := { frames := 6, cells := 18, slots := 3076, locals := 92 }
def rm12 : Room := { frames := 7, cells := 20, slots := 3085, locals := 109 }
def rm46 : Room := { frames := 0, cells := 0, slots := 0, locals := 0 }
def rm48 : Room := { frames := 0, cells := 0, slots := 0, locals := 0 }
def rm47 : Room := { frames := 1, cells := 0, slots := 0, locals := 14 }
def rm51 : Room := { frames := 0, cells := 0, slots := 0, locals := 0 }
def rm50 : Room := { frames := 2, cells := 0, slots := 0, locals := 27 }
def rm49 : Room := { frames := 3, cells := 0, slots := 0, locals := 46 }
def rm52 : Room := { frames := 2, cells := 0, slots := 0, locals := 26 }
set_option maxRecDepth 65536 in
set_option maxHeartbeats 40000000 in
theorem con6 (G : Gx) (hw : ∀ d ∈ tables_1, d.before G.a0 G.Z = true) (t d : Addr) (n : Int32) (cs ds : List Int32) (h : Heap) (hok : own_ok cs) (hn : n.toInt = (cs.length : Nat)) (hl : ds.length = cs.length) (Z0 : G.n0 ≤ h.size) (g_d : G.n0 ≤ d) (ne_t_d : t ≠ d) (ne_d_t : d ≠ t) (A_t : Av G.Z h t .char (cs.map .int)) (A_d : Av G.Z h d .byte (ds.map .int)) :
    Con G (⟨"java/lang/StringUTF16", "compress", "([CI[BII)I"⟩ : MethodName) jdk_52_method_21_code 7 (some .int) rm6 #[(.ref t), (.int (0 : Int32)), (.ref d), (.int (0 : Int32)), (.int n)] h (fun v h' => ∃ r : Int32, v = some (.int r) ∧ Keep h h' [d] ∧ ((own_lo cs = true ∧ r = n ∧ Av G.Z h' d .byte ((cs.map own_b8).map .int)) ∨ (own_lo cs = false ∧ ∃ (k : Nat) (c : Int32), r.toInt = (k : Nat) ∧ cs[k]? = some c ∧ 255 < c.toInt))) := by
  refine Con.of (W := tables_1) (plainFor_of_name pn6) hw (fun mm => ef6 mm t (0 : Int32) d (0 : Int32) n) (fun K C => ?_)
  have C : Cx G K "java/lang/StringUTF16" "compress" jdk_52_method_21_code 7 (some .int) tables_1 := C
  generalize hQ : (fun v h' => ∃ r : Int32, v = some (.int r) ∧ Keep h h' [d] ∧ ((own_lo cs = true ∧ r = n ∧ Av G.Z h' d .byte ((cs.map own_b8).map .int)) ∨ (own_lo cs = false ∧ ∃ (k : Nat) (c : Int32), r.toInt = (k : Nat) ∧ cs[k]? = some c ∧ 255 < c.toInt)) : Option Value → Heap → Prop) = Q
  have K0 : Keep h h [d] := Keep.refl _ _
  have hok3 := hok.1
  obtain ⟨k, hk0⟩ : ∃ k : Nat, k = 0 := ⟨_, rfl⟩
  have ho : (0 : Int32).toInt = (k : Nat) := by rw [hk0]; decide
  have hp := ho
  have hi := ho
  have hk : k ≤ cs.length := by omega
  have hpre : ∀ j : Nat, j < k → ds[j]? = (cs.map own_b8)[j]? := fun j hj => by omega
  have hlo : ∀ j : Nat, j < k → ∀ c, cs[j]? = some c → c.toInt ≤ 255 := fun j hj => by omega
  refine N.iconst C (pc' := 1) (z := 0) d6_0 rfl rfl ?_
  refine N.istore C (pc' := 3) (ls' := #[.val (.ref t), .val (.int (0 : Int32)), .val (.ref d), .val (.int (0 : Int32)), .val (.int n), .val (.int (0 : Int32)), .unset]) d6_1 rfl rfl ?_
  have loop : ∀ (m : Nat) (h1 : Heap) (o p i c0 : Int32) (ds : List Int32) (k : Nat), cs.length - k ≤ m → o.toInt = (k : Nat) → p.toInt = (k : Nat) → i.toInt = (k : Nat) → k ≤ cs.length → ds.length = cs.length → (∀ j : Nat, j < k → ds[j]? = (cs.map own_b8)[j]?) → (∀ j : Nat, j < k → ∀ c, cs[j]? = some c → c.toInt ≤ 255) → Av G.Z h1 t .char (cs.map .int) → Av G.Z h1 d .byte (ds.map .int) → Keep h h1 [d] → G.n0 ≤ h1.size → N G K rm6 Q h1 0 0 3 #[.val (.ref t), .val (.int o), .val (.ref d), .val (.int p), .val (.int n), .val (.int i), .val (.int c0)] [] := by
    intro m
    induction m using Nat.strongRecOn with
    | _ m ih =>
    intro h1 o p i c0 ds k hm ho hp hi hk hl hpre hlo A_t A_d K0 Z0
    refine N.iload C (pc' := 5) d6_3 rfl rfl ?_
    refine N.iload C (pc' := 7) d6_5 rfl rfl ?_
    refine N.icmp C (pt := 44) (pf := 10) d6_7 rfl rfl (fun (hc7 : n.toInt ≤ i.toInt) => ?_) (fun (hc7 : i.toInt < n.toInt) => ?_)
    · refine N.iload C (pc' := 46) d6_44 rfl rfl ?_
      exact N.retI C d6_46 (by decide) (by decide) (by subst hQ; have ek : k = cs.length := (by omega); subst ek; have e := own_eqN (by simp) hl hpre; subst e; exact ⟨_, rfl, K0, Or.inl ⟨own_lo1 hlo, rfl, A_d⟩⟩)
    · refine N.aloadN C (pc' := 11) d6_10 rfl rfl rfl ?_
      refine N.iloadN C (pc' := 12) d6_11 rfl rfl ?_
      obtain ⟨c, hc1⟩ := own_at cs (k := k) (by omega)
      have hcr := hok.2 k c hc1
      refine N.caload C (pc' := 13) (i := k) (v := (.int c)) d6_12 A_t ho (own_pm hc1) rfl ?_
      refine N.istore C (pc' := 15) (ls' := #[.val (.ref t), .val (.int o), .val (.ref d), .val (.int p), .val (.int n), .val (.int i), .val (.int c)]) d6_13 rfl rfl ?_
      refine N.iload C (pc' := 17) d6_15 rfl rfl ?_
      refine N.sipush C (pc' := 20) (z := 255) d6_17 rfl rfl ?_
      refine N.icmp C (pt := 26) (pf := 23) d6_20 rfl rfl (fun (hc20 : c.toInt ≤ 255) => ?_) (fun (hc20 : 255 < c.toInt) => ?_)
      · refine N.aloadN C (pc' := 27) d6_26 rfl rfl rfl ?_
        refine N.iloadN C (pc' := 28) d6_27 rfl rfl ?_
        refine N.iload C (pc' := 30) d6_28 rfl rfl ?_
        refine N.i2b C (pc' := 31) d6_30 rfl ?_
        refine N.bastore C (pc' := 32) (i := k) d6_31 A_d hp (by rw [List.length_map, hl]; omega) g_d rfl (fun h31_1 W31 A_d => ?_)
        have Z0 : G.n0 ≤ _ := (Wr.size W31).symm ▸ Z0
        have A_t := A_t.other W31 ne_t_d
        have K0 := K0.wr W31 (Or.inl (List.mem_of_getElem? (i := 0) rfl))
        have A_d : Av G.Z h31_1 d .byte ((ds.set k (own_b8 c)).map .int) := by rw [List.map_set]; exact A_d
        refine N.iinc C (pc' := 35) (z := 1) (ls' := #[.val (.ref t), .val (.int (o + (1 : Int32))), .val (.ref d), .val (.int p), .val (.int n), .val (.int i), .val (.int c)]) d6_32 rfl rfl rfl rfl ?_
        refine N.iinc C (pc' := 38) (z := 1) (ls' := #[.val (.ref t), .val (.int (o + (1 : Int32))), .val (.ref d), .val (.int (p + (1 : Int32))), .val (.int n), .val (.int i), .val (.int c)]) d6_35 rfl rfl rfl rfl ?_
        refine N.iinc C (pc' := 41) (z := 1) (ls' := #[.val (.ref t), .val (.int (o + (1 : Int32))), .val (.ref d), .val (.int (p + (1 : Int32))), .val (.int n), .val (.int (i + (1 : Int32))), .val (.int c)]) d6_38 rfl rfl rfl rfl ?_
        refine N.goto C (pc' := 3) d6_41 rfl ?_
        exact ih _ (by omega) _ _ _ _ _ _ _ (Nat.le_refl _) (own_inc ho (by omega)) (own_inc hp (by omega)) (own_inc hi (by omega)) (by omega) (by rw [List.length_set]; exact hl) (own_stp hl (by omega) hpre (by rw [List.getElem?_map, hc1]; rfl)) (fun j hj c' hc' => by rcases Nat.lt_succ_iff_lt_or_eq.mp hj with q | q; exact hlo j q c' hc'; subst q; rw [hc1] at hc'; cases hc'; omega) A_t A_d K0 Z0
      · refine N.iload C (pc' := 25) d6_23 rfl rfl ?_
        exact N.retI C d6_25 (by decide) (by decide) (by subst hQ; exact ⟨_, rfl, K0, Or.inr ⟨own_lo0 hc1 hc20, k, c, hi, hc1, hc20⟩⟩)
  refine N.iload C (pc' := 5) d6_3 rfl rfl ?_
  refine N.iload C (pc' := 7) d6_5 rfl rfl ?_
  refine N.icmp C (pt := 44) (pf := 10) d6_7 rfl rfl (fun (hc7 : n.toInt ≤ 0) => ?_) (fun (hc7 : 0 < n.toInt) => ?_)
  · refine N.iload C (pc' := 46) d6_44 rfl rfl ?_
    exact N.retI C d6_46 (by decide) (by decide) (by subst hQ; have ek : k = cs.length := (by omega); subst ek; have e := own_eqN (by simp) hl hpre; subst e; exact ⟨_, rfl, K0, Or.inl ⟨own_lo1 hlo, rfl, A_d⟩⟩)
  · refine N.aloadN C (pc' := 11) d6_10 rfl rfl rfl ?_
    refine N.iloadN C (pc' := 12) d6_11 rfl rfl ?_
    obtain ⟨c, hc1⟩ := own_at cs (k := k) (by omega)
    have hcr := hok.2 k c hc1
    refine N.caload C (pc' := 13) (i := k) (v := (.int c)) d6_12 A_t ho (own_pm hc1) rfl ?_
    refine N.istore C (pc' := 15) (ls' := #[.val (.ref t), .val (.int (0 : Int32)), .val (.ref d), .val (.int (0 : Int32)), .val (.int n), .val (.int (0 : Int32)), .val (.int c)]) d6_13 rfl rfl ?_
    refine N.iload C (pc' := 17) d6_15 rfl rfl ?_
    refine N.sipush C (pc' := 20) (z := 255) d6_17 rfl rfl ?_
    refine N.icmp C (pt := 26) (pf := 23) d6_20 rfl rfl (fun (hc20 : c.toInt ≤ 255) => ?_) (fun (hc20 : 255 < c.toInt) => ?_)
    · refine N.aloadN C (pc' := 27) d6_26 rfl rfl rfl ?_
      refine N.iloadN C (pc' := 28) d6_27 rfl rfl ?_
      refine N.iload C (pc' := 30) d6_28 rfl rfl ?_
      refine N.i2b C (pc' := 31) d6_30 rfl ?_
      refine N.bastore C (pc' := 32) (i := k) d6_31 A_d hp (by rw [List.length_map, hl]; omega) g_d rfl (fun h31_1 W31 A_d => ?_)
      have Z0 : G.n0 ≤ _ := (Wr.size W31).symm ▸ Z0
      have A_t := A_t.other W31 ne_t_d
      have K0 := K0.wr W31 (Or.inl (List.mem_of_getElem? (i := 0) rfl))
      have A_d : Av G.Z h31_1 d .byte ((ds.set k (own_b8 c)).map .int) := by rw [List.map_set]; exact A_d
      refine N.iinc C (pc' := 35) (z := 1) (ls' := #[.val (.ref t), .val (.int (1 : Int32)), .val (.ref d), .val (.int (0 : Int32)), .val (.int n), .val (.int (0 : Int32)), .val (.int c)]) d6_32 rfl rfl rfl rfl ?_
      refine N.iinc C (pc' := 38) (z := 1) (ls' := #[.val (.ref t), .val (.int (1 : Int32)), .val (.ref d), .val (.int (1 : Int32)), .val (.int n), .val (.int (0 : Int32)), .val (.int c)]) d6_35 rfl rfl rfl rfl ?_
      refine N.iinc C (pc' := 41) (z := 1) (ls' := #[.val (.ref t), .val (.int (1 : Int32)), .val (.ref d), .val (.int (1 : Int32)), .val (.int n), .val (.int (1 : Int32)), .val (.int c)]) d6_38 rfl rfl rfl rfl ?_
      refine N.goto C (pc' := 3) d6_41 rfl ?_
      exact loop _ _ _ _ _ _ _ _ (Nat.le_refl _) (own_inc ho (by omega)) (own_inc hp (by omega)) (own_inc hi (by omega)) (by omega) (by rw [List.length_set]; exact hl) (own_stp hl (by omega) hpre (by rw [List.getElem?_map, hc1]; rfl)) (fun j hj c' hc' => by rcases Nat.lt_succ_iff_lt_or_eq.mp hj with q | q; exact hlo j q c' hc'; subst q; rw [hc1] at hc'; cases hc'; omega) A_t A_d K0 Z0
    · refine N.iload C (pc' := 25) d6_23 rfl rfl ?_
      exact N.retI C d6_25 (by decide) (by decide) (by subst hQ; exact ⟨_, rfl, K0, Or.inr ⟨own_lo0 hc1 hc20, k, c, hi, hc1, hc20⟩⟩)
set_option maxRecDepth 65536 in
set_option maxHeartbeats 40000000 in
theorem con5 (G : Gx) (hw : ∀ d ∈ tables_1, d.before G.a0 G.Z = true) (t : Addr) (n : Int32) (cs : List Int32) (cp : Int32) (dO dT us sn : Addr) (h : Heap) (hok : own_ok cs) (hn : n.toInt = (cs.length : Nat)) (SS : Ss G cp dO dT us sn) (O : Old G.Z G.n0 h) (Z0 : G.n0 ≤ h.size) (A_t : Av G.Z h t .char (cs.map .int)) :
    Con G (⟨"java/lang/StringUTF16", "compress", "([CII)[B"⟩ : MethodName) jdk_52_method_16_code 6 (some (.array .byte)) rm5 #[(.ref t), (.int (0 : Int32)), (.int n)] h (fun v h' => ∃ b : Addr, v = some (.ref b) ∧ h.size ≤ b ∧ Keep h h' [] ∧ Av G.Z h' b .byte ((own_bytes cs).map .int)) := by
  refine Con.of (W := tables_1) (plainFor_of_name pn5) hw (fun mm => ef5 mm t (0 : Int32) n) (fun K C => ?_)
  have C : Cx G K "java/lang/StringUTF16" "compress" jdk_52_method_16_code 6 (some (.array .byte)) tables_1 := C
  generalize hQ : (fun v h' => ∃ b : Addr, v = some (.ref b) ∧ h.size ≤ b ∧ Keep h h' [] ∧ Av G.Z h' b .byte ((own_bytes cs).map .int) : Option Value → Heap → Prop) = Q
  have K0 : Keep h h [] := Keep.refl _ _
  have hok3 := hok.1
  refine N.iloadN C (pc' := 1) d5_0 rfl rfl ?_
  refine N.newP C (pc' := 3) (n := n) 3 d5_1 (C.w (i := 19) rfl) (by omega) (by omega) (by decide) (by decide) (by decide) rfl (fun h1_1 d hx_d Ex1 A'_d => ?_)
  have ne_t_d : t ≠ d := by rw [hx_d]; exact Nat.ne_of_lt A_t.lt
  have ne_d_t := Ne.symm ne_t_d
  have g_d : G.n0 ≤ d := by rw [hx_d]; exact Z0
  have sz_d : h.size ≤ d := by rw [hx_d]; exact K0.1
  have Z0 := Nat.le_trans Z0 Ex1.1
  have O := O.ext Ex1
  have A_t := A_t.ext Ex1
  have K0 := K0.ext Ex1
  have A_d : Av G.Z h1_1 d .byte (List.replicate n.toInt.toNat (.int (0 : Int32))) := A'_d
  refine N.astoreN C (pc' := 4) (ls' := #[.val (.ref t), .val (.int (0 : Int32)), .val (.int n), .val (.ref d), .unset, .unset]) d5_3 rfl rfl rfl ?_
  refine N.aloadN C (pc' := 5) d5_4 rfl rfl rfl ?_
  refine N.iloadN C (pc' := 6) d5_5 rfl rfl ?_
  refine N.aloadN C (pc' := 7) d5_6 rfl rfl rfl ?_
  refine N.iconst C (pc' := 8) (z := 0) d5_7 rfl rfl ?_
  refine N.iloadN C (pc' := 9) d5_8 rfl rfl ?_
  have ed : List.replicate n.toInt.toNat (Value.int (0 : Int32)) = (List.replicate cs.length (0 : Int32)).map .int := by rw [List.map_replicate, hn]; rfl
  rw [ed] at A_d
  refine N.callS C (pc' := 12) [(.ref t), (.int (0 : Int32)), (.ref d), (.int (0 : Int32)), (.int n)] d5_9 (C.w (i := 31) rfl) (C.w (i := 32) rfl) (C.w (i := 29) rfl) (C.w (i := 33) rfl) (by decide) (con6 G hw t d n cs _ h1_1 hok hn (by simp) Z0 g_d ne_t_d ne_d_t A_t A_d) (lenOf pd___CI_BII_I rfl) rfl (by decide) (show 0 + (7 + 11) + _ ≤ _ from by decide) (by decide) (by decide) (rest := []) rfl rfl ?_
  rintro _ h9_2 ⟨r, rfl, KpD, hcase⟩
  have O := O.keep KpD (allS g_d all0)
  have Z0 := Nat.le_trans Z0 KpD.1
  have A_t := A_t.keep KpD (ninS ne_t_d nin0)
  have K0 := K0.trans KpD (allS (Or.inr sz_d) all0)
  show N G K rm5 Q h9_2 1 3 12 #[.val (.ref t), .val (.int (0 : Int32)), .val (.int n), .val (.ref d), .unset, .unset] [(.int r)]
  refine N.istore C (pc' := 14) (ls' := #[.val (.ref t), .val (.int (0 : Int32)), .val (.int n), .val (.ref d), .val (.int r), .unset]) d5_12 rfl rfl ?_
  refine N.iload C (pc' := 16) d5_14 rfl rfl ?_
  refine N.iloadN C (pc' := 17) d5_16 rfl rfl ?_
  refine N.icmp C (pt := 57) (pf := 20) d5_17 rfl rfl (fun (hc17 : r = n) => ?_) (fun (hc17 : ¬ r = n) => absurd (show False from by rcases hcase with q | q; exact hc17 q.2.1; exact absurd ((own_okl hok).symm.trans q.1) (by decide)) id)
  refine N.aloadN C (pc' := 58) d5_57 rfl rfl rfl ?_
  exact N.retA C rfl rfl d5_58 (by decide) (by decide) (by subst hQ; rcases hcase with ⟨hlo, -, hA⟩ | ⟨hlo, -⟩; exact ⟨d, rfl, sz_d, K0, by unfold own_bytes; rw [if_pos hlo]; exact hA⟩; exact absurd ((own_okl hok).symm.trans hlo) (by decide))
set_option maxRecDepth 65536 in
set_option maxHeartbeats 40000000 in
theorem con7 (G : Gx) (hw : ∀ d ∈ tables_1, d.before G.a0 G.Z = true) (b : Addr) (n : Int32) (cs : List Int32) (h : Heap) (hok : own_ok cs) (hn : n.toInt = (cs.length : Nat)) (h0 : 0 < cs.length) (A_b : Av G.Z h b .byte ((own_bytes cs).map .int)) :
    Con G (⟨"java/lang/StringUTF16", "coderFromArrayLen", "([BI)B"⟩ : MethodName) jdk_52_method_15_code 2 (some .byte) rm7 #[(.ref b), (.int n)] h (fun v h' => v = some (.int (own_cod cs)) ∧ h = h') := by
  refine Con.of (W := tables_1) (plainFor_of_name pn7) hw (fun mm => ef7 mm b n) (fun K C => ?_)
  have C : Cx G K "java/lang/StringUTF16" "coderFromArrayLen" jdk_52_method_15_code 2 (some .byte) tables_1 := C
  generalize hQ : (fun v h' => v = some (.int (own_cod cs)) ∧ h = h' : Option Value → Heap → Prop) = Q
  obtain ⟨m, len_b⟩ := own_bl (cs := cs) hok.1
  refine N.iloadN C (pc' := 1) d7_0 rfl rfl ?_
  refine N.aloadN C (pc' := 2) d7_1 rfl rfl rfl ?_
  refine N.alen C (pc' := 3) (n := m) d7_2 A_b len_b rfl ?_
  refine N.isub C (pc' := 4) d7_3 rfl ?_
  refine N.bipush C (pc' := 6) (z := 31) d7_4 rfl rfl ?_
  refine N.iushr C (pc' := 7) d7_6 rfl ?_
  refine N.i2b C (pc' := 8) d7_7 rfl ?_
  exact N.retN C (by simp) (own_codL hn hok.1 h0 (by rw [List.length_map] at len_b; exact len_b)) d7_8 (by decide) (by decide) (by subst hQ; exact ⟨rfl, rfl⟩)
set_option maxRecDepth 65536 in
set_option maxHeartbeats 40000000 in
theorem con3 (G : Gx) (hw : ∀ d ∈ tables_1, d.before G.a0 G.Z = true) (x t : Addr) (n : Int32) (cs : List Int32) (cp : Int32) (dO dT us sn : Addr) (h : Heap) (hok : own_ok cs) (hn : n.toInt = (cs.length : Nat)) (SS : Ss G cp dO dT us sn) (O : Old G.Z G.n0 h) (Z0 : G.n0 ≤ h.size) (g_x : G.n0 ≤ x) (E_x : Exa G.Z h x "java/lang/String") (F_x_value : Fld G.Z h x "java/lang/String" "value" "[B" .null) (F_x_coder : Fld G.Z h x "java/lang/String" "coder" "B" (.int (0 : Int32))) (ne_x_t : x ≠ t) (ne_t_x : t ≠ x) (A_t : Av G.Z h t .char (cs.map .int)) :
    ConS G own_EL [x] (⟨"java/lang/String", "<init>", "([CIILjava/lang/Void;)V"⟩ : MethodName) jdk_42_method_149_code 6 none rm3 #[(.ref x), (.ref t), (.int (0 : Int32)), (.int n), .null] h (fun v h' => v = none ∧ Keep h h' [x] ∧ ∃ b : Addr, Fld G.Z h' x "java/lang/String" "value" "[B" (.ref b) ∧ Fld G.Z h' x "java/lang/String" "coder" "B" (.int (own_cod cs)) ∧ Av G.Z h' b .byte ((own_bytes cs).map .int) ∧ b ≠ x) := by
  refine ConS.of (W := tables_1) (plainFor_of_name pn3) hw (own_ew hw) (fun mm => ef3 mm x t (0 : Int32) n) (fun K U hU C Sx => ?_)
  have C : Cx G K "java/lang/String" "<init>" jdk_42_method_149_code 6 none tables_1 := C
  generalize hQ : (fun v h' => v = none ∧ Keep h h' [x] ∧ ∃ b : Addr, Fld G.Z h' x "java/lang/String" "value" "[B" (.ref b) ∧ Fld G.Z h' x "java/lang/String" "coder" "B" (.int (own_cod cs)) ∧ Av G.Z h' b .byte ((own_bytes cs).map .int) ∧ b ≠ x : Option Value → Heap → Prop) = Q
  have K0 : Keep h h [x] := Keep.refl _ _
  have hok3 := hok.1
  refine N.aloadN C (pc' := 1) d3_0 rfl rfl rfl ?_
  refine N.initO C (pc' := 4) d3_1 (C.w (i := 15) rfl) (C.w (i := 16) rfl) (C.w (i := 17) rfl) rfl (by decide) (show 0 + 12 ≤ _ from by decide) rfl ?_
  refine N.iloadN C (pc' := 5) d3_4 rfl rfl ?_
  refine N.ifc C (pt := 27) (pf := 8) d3_5 rfl rfl (fun (hc5 : ¬ n = (0 : Int32)) => ?_) (fun (hc5 : n = (0 : Int32)) => ?_)
  · have hi5 : ¬ n.toInt = 0 := neI hc5
    have S_COMPACT_STRINGS := SS.s0.ext O.2
    have h0 : 0 < cs.length := by omega
    refine N.getS C (pc' := 30) d3_27 (C.w (i := 26) rfl) S_COMPACT_STRINGS rfl ?_
    refine N.ifc C (pt := 58) (pf := 33) d3_30 rfl rfl (fun (hc30 : cp = (0 : Int32)) => absurd (show False from by exact SS.cp0 hc30) id) (fun (hc30 : ¬ cp = (0 : Int32)) => ?_)
    refine N.aloadN C (pc' := 34) d3_33 rfl rfl rfl ?_
    refine N.iloadN C (pc' := 35) d3_34 rfl rfl ?_
    refine N.iloadN C (pc' := 36) d3_35 rfl rfl ?_
    have xlt := E_x.lt
    refine N.callS C (pc' := 39) [(.ref t), (.int (0 : Int32)), (.int n)] d3_36 (C.w (i := 27) rfl) (C.w (i := 28) rfl) (C.w (i := 29) rfl) (C.w (i := 30) rfl) (by decide) (con5 G hw t n cs cp dO dT us sn h hok hn SS O Z0 A_t) (lenOf pd___CII__B rfl) rfl (by decide) (show 0 + (6 + 11) + _ ≤ _ from by decide) (by decide) (by decide) (rest := []) rfl rfl ?_
    rintro _ h36_1 ⟨b, rfl, hb, KpB, A_b⟩
    have Sx := Sx.keep KpB all0
    have O := O.keep KpB all0
    have Z0 := Nat.le_trans Z0 KpB.1
    have F_x_value := F_x_value.keep KpB nin0
    have F_x_coder := F_x_coder.keep KpB nin0
    have E_x := E_x.keep KpB
    have A_t := A_t.keep KpB nin0
    have K0 := K0.trans KpB all0
    have sz_b := hb
    have ne_x_b : x ≠ b := Nat.ne_of_lt (Nat.lt_of_lt_of_le xlt hb)
    have ne_b_x := Ne.symm ne_x_b
    show NS G K own_EL U rm3 Q h36_1 2 9 39 #[.val (.ref x), .val (.ref t), .val (.int (0 : Int32)), .val (.int n), .val .null, .unset] [(.ref b)]
    refine N.astore C (pc' := 41) (ls' := #[.val (.ref x), .val (.ref t), .val (.int (0 : Int32)), .val (.int n), .val .null, .val (.ref b)]) d3_39 rfl rfl rfl ?_
    refine N.aloadN C (pc' := 42) d3_41 rfl rfl rfl ?_
    refine N.aload C (pc' := 44) d3_42 rfl rfl rfl ?_
    refine N.iloadN C (pc' := 45) d3_44 rfl rfl ?_
    refine N.callS C (pc' := 48) [(.ref b), (.int n)] d3_45 (C.w (i := 34) rfl) (C.w (i := 35) rfl) (C.w (i := 29) rfl) (C.w (i := 36) rfl) (by decide) (con7 G hw b n cs h36_1 hok hn h0 A_b) (lenOf pd___BI_B rfl) rfl (by decide) (show 1 + (2 + 11) + _ ≤ _ from by decide) (by decide) (by decide) (rest := [(.ref x)]) rfl rfl ?_
    rintro _ h45_2 ⟨rfl, rfl⟩
    show NS G K own_EL U rm3 Q h36_1 2 9 48 #[.val (.ref x), .val (.ref t), .val (.int (0 : Int32)), .val (.int n), .val .null, .val (.ref b)] [(.int (own_cod cs)), (.ref x)]
    refine N.putFN C (pc' := 51) (v' := (.int (nar .byte (own_cod cs)))) d3_48 (C.w (i := 25) rfl) F_x_coder E_x (Or.inr ⟨(C.w (i := 21) rfl), rfl, rfl⟩) (C.w (i := 5) rfl) (ty := .byte) (by decide) rfl (fits_nar_byte _) g_x rfl (fun h48_3 W48 => ?_)
    have Sx := Sx.wr W48 (List.mem_of_getElem? (i := 0) rfl)
    have O := O.wr W48 g_x
    have Z0 : G.n0 ≤ _ := (Wr.size W48).symm ▸ Z0
    have F_x_value := F_x_value.other W48 (Or.inr (slot_ne (Or.inr (C.w (i := 20) rfl)) (Or.inr (C.w (i := 21) rfl)) (by decide) (t := (.array .byte)) (t' := .byte) (by decide) (by decide)))
    have F_x_coder := F_x_coder.same W48
    have E_x := E_x.wr W48
    have A_t := A_t.other W48 ne_t_x
    have A_b := A_b.other W48 ne_b_x
    have K0 := K0.wr W48 (Or.inl (List.mem_of_getElem? (i := 0) rfl))
    refine N.aloadN C (pc' := 52) d3_51 rfl rfl rfl ?_
    refine N.aload C (pc' := 54) d3_52 rfl rfl rfl ?_
    refine N.putF C (pc' := 57) d3_54 (C.w (i := 24) rfl) F_x_value E_x (Or.inr ⟨(C.w (i := 20) rfl), rfl, rfl⟩) (C.w (i := 5) rfl) (ty := (.array .byte)) (by decide) rfl rfl g_x rfl (fun h54_4 W54 => ?_)
    have Sx := Sx.wr W54 (List.mem_of_getElem? (i := 0) rfl)
    have O := O.wr W54 g_x
    have Z0 : G.n0 ≤ _ := (Wr.size W54).symm ▸ Z0
    have F_x_value := F_x_value.same W54
    have F_x_coder := F_x_coder.other W54 (Or.inr (slot_ne (Or.inr (C.w (i := 21) rfl)) (Or.inr (C.w (i := 20) rfl)) (by decide) (t := .byte) (t' := (.array .byte)) (by decide) (by decide)))
    have E_x := E_x.wr W54
    have A_t := A_t.other W54 ne_t_x
    have A_b := A_b.other W54 ne_b_x
    have K0 := K0.wr W54 (Or.inl (List.mem_of_getElem? (i := 0) rfl))
    exact N.ret0S C Sx rfl d3_57 (by decide) (by decide) (by subst hQ; exact ⟨rfl, K0, b, F_x_value, own_cod01 cs ▸ F_x_coder, A_b, ne_b_x⟩)
  · have hi5 : n.toInt = 0 := eqI hc5
    have hcs : cs = [] := List.length_eq_zero_iff.mp (by omega)
    refine N.aloadN C (pc' := 9) d3_8 rfl rfl rfl ?_
    refine N.ldcS C Sx (vs := []) 0 d3_9 (C.w (i := 18) rfl) (own_SA hw) (by decide) ⟨by decide, rfl⟩ (z := 0) (by decide) (by decide) (by decide) (by decide) (by decide) (by decide) rfl (fun K h9_5 c yc C Sx Ex9 E_c F_c_coder F_c_value A_yc ne_c => ?_)
    have Z0 := Nat.le_trans Z0 Ex9.1
    have O := O.ext Ex9
    have F_x_value := F_x_value.ext Ex9
    have F_x_coder := F_x_coder.ext Ex9
    have E_x := E_x.ext Ex9
    have A_t := A_t.ext Ex9
    have K0 := K0.ext Ex9
    have ne_x_c := (ne_c x (List.mem_of_getElem? (i := 0) rfl)).1
    have ne_x_yc := (ne_c x (List.mem_of_getElem? (i := 0) rfl)).2
    have ne_c_x := Ne.symm ne_x_c
    have ne_yc_x := Ne.symm ne_x_yc
    show NS G K own_EL U rm3 Q h9_5 2 4 11 #[.val (.ref x), .val (.ref t), .val (.int (0 : Int32)), .val (.int n), .val .null, .unset] [(.ref c), (.ref x)]
    refine N.getF C (pc' := 14) d3_11 (C.w (i := 24) rfl) F_c_value rfl ?_
    refine N.putF C (pc' := 17) d3_14 (C.w (i := 24) rfl) F_x_value E_x (Or.inr ⟨(C.w (i := 20) rfl), rfl, rfl⟩) (C.w (i := 5) rfl) (ty := (.array .byte)) (by decide) rfl rfl g_x rfl (fun h14_6 W14 => ?_)
    have Sx := Sx.wr W14 (List.mem_of_getElem? (i := 0) rfl)
    have O := O.wr W14 g_x
    have Z0 : G.n0 ≤ _ := (Wr.size W14).symm ▸ Z0
    have F_x_value := F_x_value.same W14
    have F_x_coder := F_x_coder.other W14 (Or.inr (slot_ne (Or.inr (C.w (i := 21) rfl)) (Or.inr (C.w (i := 20) rfl)) (by decide) (t := .byte) (t' := (.array .byte)) (by decide) (by decide)))
    have F_c_coder := F_c_coder.other W14 (Or.inl ne_c_x)
    have F_c_value := F_c_value.other W14 (Or.inl ne_c_x)
    have E_x := E_x.wr W14
    have E_c := E_c.wr W14
    have A_t := A_t.other W14 ne_t_x
    have A_yc := A_yc.other W14 ne_yc_x
    have K0 := K0.wr W14 (Or.inl (List.mem_of_getElem? (i := 0) rfl))
    refine N.aloadN C (pc' := 18) d3_17 rfl rfl rfl ?_
    refine N.ldcS C Sx (vs := []) 0 d3_18 (C.w (i := 18) rfl) (own_SA hw) (by decide) ⟨by decide, rfl⟩ (z := 0) (by decide) (by decide) (by decide) (by decide) (by decide) (by decide) rfl (fun K h18_7 e ye C Sx Ex18 E_e F_e_coder F_e_value A_ye ne_e => ?_)
    have Z0 := Nat.le_trans Z0 Ex18.1
    have O := O.ext Ex18
    have F_x_value := F_x_value.ext Ex18
    have F_x_coder := F_x_coder.ext Ex18
    have F_c_coder := F_c_coder.ext Ex18
    have F_c_value := F_c_value.ext Ex18
    have E_x := E_x.ext Ex18
    have E_c := E_c.ext Ex18
    have A_t := A_t.ext Ex18
    have A_yc := A_yc.ext Ex18
    have K0 := K0.ext Ex18
    have ne_x_e := (ne_e x (List.mem_of_getElem? (i := 0) rfl)).1
    have ne_x_ye := (ne_e x (List.mem_of_getElem? (i := 0) rfl)).2
    have ne_e_x := Ne.symm ne_x_e
    have ne_ye_x := Ne.symm ne_x_ye
    show NS G K own_EL U rm3 Q h18_7 4 8 20 #[.val (.ref x), .val (.ref t), .val (.int (0 : Int32)), .val (.int n), .val .null, .unset] [(.ref e), (.ref x)]
    refine N.getF C (pc' := 23) d3_20 (C.w (i := 25) rfl) F_e_coder rfl ?_
    refine N.putFN C (pc' := 26) (v' := (.int (0 : Int32))) d3_23 (C.w (i := 25) rfl) F_x_coder E_x (Or.inr ⟨(C.w (i := 21) rfl), rfl, rfl⟩) (C.w (i := 5) rfl) (ty := .byte) (by decide) rfl (by decide) g_x rfl (fun h23_8 W23 => ?_)
    have Sx := Sx.wr W23 (List.mem_of_getElem? (i := 0) rfl)
    have O := O.wr W23 g_x
    have Z0 : G.n0 ≤ _ := (Wr.size W23).symm ▸ Z0
    have F_x_value := F_x_value.other W23 (Or.inr (slot_ne (Or.inr (C.w (i := 20) rfl)) (Or.inr (C.w (i := 21) rfl)) (by decide) (t := (.array .byte)) (t' := .byte) (by decide) (by decide)))
    have F_x_coder := F_x_coder.same W23
    have F_c_coder := F_c_coder.other W23 (Or.inl ne_c_x)
    have F_c_value := F_c_value.other W23 (Or.inl ne_c_x)
    have F_e_coder := F_e_coder.other W23 (Or.inl ne_e_x)
    have F_e_value := F_e_value.other W23 (Or.inl ne_e_x)
    have E_x := E_x.wr W23
    have E_c := E_c.wr W23
    have E_e := E_e.wr W23
    have A_t := A_t.other W23 ne_t_x
    have A_yc := A_yc.other W23 ne_yc_x
    have A_ye := A_ye.other W23 ne_ye_x
    have K0 := K0.wr W23 (Or.inl (List.mem_of_getElem? (i := 0) rfl))
    exact N.ret0S C Sx rfl d3_26 (by decide) (by decide) (by subst hQ; subst hcs; exact ⟨rfl, K0, yc, F_x_value, F_x_coder, A_yc, ne_yc_x⟩)
set_option maxRecDepth 65536 in
set_option maxHeartbeats 40000000 in
theorem con2 (G : Gx) (hw : ∀ d ∈ tables_1, d.before G.a0 G.Z = true) (x t : Addr) (n : Int32) (cs : List Int32) (cp : Int32) (dO dT us sn : Addr) (h : Heap) (hok : own_ok cs) (hn : n.toInt = (cs.length : Nat)) (SS : Ss G cp dO dT us sn) (O : Old G.Z G.n0 h) (Z0 : G.n0 ≤ h.size) (g_x : G.n0 ≤ x) (E_x : Exa G.Z h x "java/lang/String") (F_x_value : Fld G.Z h x "java/lang/String" "value" "[B" .null) (F_x_coder : Fld G.Z h x "java/lang/String" "coder" "B" (.int (0 : Int32))) (ne_x_t : x ≠ t) (ne_t_x : t ≠ x) (A_t : Av G.Z h t .char (cs.map .int)) :
    ConS G own_EL [x] (⟨"java/lang/String", "<init>", "([C)V"⟩ : MethodName) jdk_42_method_3_code 2 none rm2 #[(.ref x), (.ref t)] h (fun v h' => v = none ∧ Keep h h' [x] ∧ ∃ b : Addr, Fld G.Z h' x "java/lang/String" "value" "[B" (.ref b) ∧ Fld G.Z h' x "java/lang/String" "coder" "B" (.int (own_cod cs)) ∧ Av G.Z h' b .byte ((own_bytes cs).map .int) ∧ b ≠ x) := by
  refine ConS.of (W := tables_1) (plainFor_of_name pn2) hw (own_ew hw) (fun mm => ef2 mm x t) (fun K U hU C Sx => ?_)
  have C : Cx G K "java/lang/String" "<init>" jdk_42_method_3_code 2 none tables_1 := C
  generalize hQ : (fun v h' => v = none ∧ Keep h h' [x] ∧ ∃ b : Addr, Fld G.Z h' x "java/lang/String" "value" "[B" (.ref b) ∧ Fld G.Z h' x "java/lang/String" "coder" "B" (.int (own_cod cs)) ∧ Av G.Z h' b .byte ((own_bytes cs).map .int) ∧ b ≠ x : Option Value → Heap → Prop) = Q
  have len_t : n.toInt = ((cs.map Value.int).length : Nat) := by rw [List.length_map]; exact hn
  refine N.aloadN C (pc' := 1) d2_0 rfl rfl rfl ?_
  refine N.aloadN C (pc' := 2) d2_1 rfl rfl rfl ?_
  refine N.iconst C (pc' := 3) (z := 0) d2_2 rfl rfl ?_
  refine N.aloadN C (pc' := 4) d2_3 rfl rfl rfl ?_
  refine N.alen C (pc' := 5) (n := n) d2_4 A_t len_t rfl ?_
  refine N.aconst_null C (pc' := 6) d2_5 rfl ?_
  refine N.callIS C Sx (pc' := 9) x [(.ref t), (.int (0 : Int32)), (.int n), .null] d2_6 rfl (C.w (i := 11) rfl) (C.w (i := 12) rfl) (C.w (i := 6) rfl) (C.w (i := 14) rfl) (by decide) (allS (List.mem_of_getElem? (i := 0) rfl) all0) (con3 G hw x t n cs cp dO dT us sn h hok hn SS O Z0 g_x E_x F_x_value F_x_coder ne_x_t ne_t_x A_t) (lenOf pd___CIILjava_lang_Void__V rfl) rfl (by decide) (show 0 + (6 + 11) + _ ≤ _ from by decide) (by decide) (by decide) (rest := []) rfl rfl ?_
  rintro K _ h6_1 C Sx ⟨rfl, KpI, b, FV, FC, A_b, hbx⟩
  show NS G K own_EL U rm2 Q h6_1 4 12 9 #[.val (.ref x), .val (.ref t)] []
  exact N.ret0S C Sx rfl d2_9 (by decide) (by decide) (by subst hQ; exact ⟨rfl, KpI, b, FV, FC, A_b, hbx⟩)
set_option maxRecDepth 65536 in
set_option maxHeartbeats 40000000 in
theorem con1 (G : Gx) (hw : ∀ d ∈ tables_1, d.before G.a0 G.Z = true) (n c0 c1 c2 : Int32) (cp : Int32) (dO dT us sn : Addr) (h : Heap) (hv0 : 0 ≤ c0.toInt ∧ c0.toInt < 256) (hv1 : 0 ≤ c1.toInt ∧ c1.toInt < 256) (hv2 : 0 ≤ c2.toInt ∧ c2.toInt < 256) (SS : Ss G cp dO dT us sn) (O : Old G.Z G.n0 h) (Z0 : G.n0 ≤ h.size) :
    ConS G own_EL [] (⟨"quadrille/LexerResetPinLaw", "make", "(ICCC)Ljava/lang/String;"⟩ : MethodName) method_2_code 4 (some (.object "java/lang/String")) rm1 #[(.int n), (.int c0), (.int c1), (.int c2)] h (fun v h' => ∃ (s b : Addr) (zs : List Int32), v = some (.ref s) ∧ h.size ≤ s ∧ Keep h h' [] ∧ Str G h' s b zs ∧ zs.length ≤ 3) := by
  refine ConS.of (W := tables_1) (plainFor_of_name pn1) hw (own_ew hw) (fun mm => ef1 mm n c0 c1 c2) (fun K U hU C Sx => ?_)
  have C : Cx G K "quadrille/LexerResetPinLaw" "make" method_2_code 4 (some (.object "java/lang/String")) tables_1 := C
  generalize hQ : (fun v h' => ∃ (s b : Addr) (zs : List Int32), v = some (.ref s) ∧ h.size ≤ s ∧ Keep h h' [] ∧ Str G h' s b zs ∧ zs.length ≤ 3 : Option Value → Heap → Prop) = Q
  have K0 : Keep h h [] := Keep.refl _ _
  refine N.iloadN C (pc' := 1) d1_0 rfl rfl ?_
  refine N.ifc C (pt := 15) (pf := 4) d1_1 rfl rfl (fun (hc1 : ¬ n = (0 : Int32)) => ?_) (fun (hc1 : n = (0 : Int32)) => ?_)
  · have hi1 : ¬ n.toInt = 0 := neI hc1
    refine N.iloadN C (pc' := 16) d1_15 rfl rfl ?_
    refine N.iconst C (pc' := 17) (z := 1) d1_16 rfl rfl ?_
    refine N.icmp C (pt := 35) (pf := 20) d1_17 rfl rfl (fun (hc17 : ¬ n = (1 : Int32)) => ?_) (fun (hc17 : n = (1 : Int32)) => ?_)
    · have hi17 : ¬ n.toInt = 1 := neI hc17
      refine N.iloadN C (pc' := 36) d1_35 rfl rfl ?_
      refine N.iconst C (pc' := 37) (z := 2) d1_36 rfl rfl ?_
      refine N.icmp C (pt := 59) (pf := 40) d1_37 rfl rfl (fun (hc37 : ¬ n = (2 : Int32)) => ?_) (fun (hc37 : n = (2 : Int32)) => ?_)
      · have hi37 : ¬ n.toInt = 2 := neI hc37
        refine N.newO C (pc' := 62) d1_59 (C.w (i := 4) rfl) (C.w (i := 5) rfl) (C.w (i := 6) rfl) (by decide) (by decide) rfl (fun h59_1 s hx_s Ex59 E_s D_s => ?_)
        have g_s : G.n0 ≤ s := by rw [hx_s]; exact Z0
        have sz_s : h.size ≤ s := by rw [hx_s]; exact K0.1
        have Z0 := Nat.le_trans Z0 Ex59.1
        have O := O.ext Ex59
        have K0 := K0.ext Ex59
        have Sx := Sx.born Ex59 hx_s E_s.lt
        have F_s_value : Fld G.Z h59_1 s "java/lang/String" "value" "[B" .null := D_s (Or.inr (C.w (i := 20) rfl)) (ty := (.array .byte)) (by decide)
        have F_s_coder : Fld G.Z h59_1 s "java/lang/String" "coder" "B" (.int (0 : Int32)) := D_s (Or.inr (C.w (i := 21) rfl)) (ty := .byte) (by decide)
        refine N.dup C (pc' := 63) d1_62 rfl rfl ?_
        refine N.iconst C (pc' := 64) (z := 3) d1_63 rfl rfl ?_
        refine N.newP C (pc' := 66) (n := (3 : Int32)) 3 d1_64 (C.w (i := 7) rfl) (by decide) (by decide) (by decide) (by decide) (by decide) rfl (fun h64_2 t hx_t Ex64 A'_t => ?_)
        have ne_s_t : s ≠ t := by rw [hx_t]; exact Nat.ne_of_lt F_s_value.lt
        have ne_t_s := Ne.symm ne_s_t
        have g_t : G.n0 ≤ t := by rw [hx_t]; exact Z0
        have sz_t : h.size ≤ t := by rw [hx_t]; exact K0.1
        have Z0 := Nat.le_trans Z0 Ex64.1
        have O := O.ext Ex64
        have F_s_value := F_s_value.ext Ex64
        have F_s_coder := F_s_coder.ext Ex64
        have E_s := E_s.ext Ex64
        have K0 := K0.ext Ex64
        have Sx := Sx.born Ex64 hx_t A'_t.lt
        have A_t : Av G.Z h64_2 t .char [(.int (0 : Int32)), (.int (0 : Int32)), (.int (0 : Int32))] := A'_t
        refine N.dup C (pc' := 67) d1_66 rfl rfl ?_
        refine N.iconst C (pc' := 68) (z := 0) d1_67 rfl rfl ?_
        refine N.iloadN C (pc' := 69) d1_68 rfl rfl ?_
        refine N.castore C (pc' := 70) (i := 0) d1_69 A_t rfl (show 0 < 3 from by decide) g_t rfl (fun h69_3 W69 A_t => ?_)
        have Sx := Sx.wr W69 (List.mem_of_getElem? (i := 0) rfl)
        have O := O.wr W69 g_t
        have Z0 : G.n0 ≤ _ := (Wr.size W69).symm ▸ Z0
        have F_s_value := F_s_value.other W69 (Or.inl ne_s_t)
        have F_s_coder := F_s_coder.other W69 (Or.inl ne_s_t)
        have E_s := E_s.wr W69
        have K0 := K0.wr W69 (Or.inr sz_t)
        have A_t : Av G.Z h69_3 t .char [(.int (nar .char c0)), (.int (0 : Int32)), (.int (0 : Int32))] := A_t
        refine N.dup C (pc' := 71) d1_70 rfl rfl ?_
        refine N.iconst C (pc' := 72) (z := 1) d1_71 rfl rfl ?_
        refine N.iloadN C (pc' := 73) d1_72 rfl rfl ?_
        refine N.castore C (pc' := 74) (i := 1) d1_73 A_t rfl (show 1 < 3 from by decide) g_t rfl (fun h73_4 W73 A_t => ?_)
        have Sx := Sx.wr W73 (List.mem_of_getElem? (i := 0) rfl)
        have O := O.wr W73 g_t
        have Z0 : G.n0 ≤ _ := (Wr.size W73).symm ▸ Z0
        have F_s_value := F_s_value.other W73 (Or.inl ne_s_t)
        have F_s_coder := F_s_coder.other W73 (Or.inl ne_s_t)
        have E_s := E_s.wr W73
        have K0 := K0.wr W73 (Or.inr sz_t)
        have A_t : Av G.Z h73_4 t .char [(.int (nar .char c0)), (.int (nar .char c1)), (.int (0 : Int32))] := A_t
        refine N.dup C (pc' := 75) d1_74 rfl rfl ?_
        refine N.iconst C (pc' := 76) (z := 2) d1_75 rfl rfl ?_
        refine N.iloadN C (pc' := 77) d1_76 rfl rfl ?_
        refine N.castore C (pc' := 78) (i := 2) d1_77 A_t rfl (show 2 < 3 from by decide) g_t rfl (fun h77_5 W77 A_t => ?_)
        have Sx := Sx.wr W77 (List.mem_of_getElem? (i := 0) rfl)
        have O := O.wr W77 g_t
        have Z0 : G.n0 ≤ _ := (Wr.size W77).symm ▸ Z0
        have F_s_value := F_s_value.other W77 (Or.inl ne_s_t)
        have F_s_coder := F_s_coder.other W77 (Or.inl ne_s_t)
        have E_s := E_s.wr W77
        have K0 := K0.wr W77 (Or.inr sz_t)
        have A_t : Av G.Z h77_5 t .char [(.int (nar .char c0)), (.int (nar .char c1)), (.int (nar .char c2))] := A_t
        have hok := own_ok3 hv0 hv1 hv2
        refine N.callIS C Sx (pc' := 81) s [(.ref t)] d1_78 rfl (C.w (i := 8) rfl) (C.w (i := 9) rfl) (C.w (i := 6) rfl) (C.w (i := 10) rfl) (by decide) (allS (List.mem_of_getElem? (i := 1) rfl) all0) (con2 G hw s t 3 [nar .char c0, nar .char c1, nar .char c2] cp dO dT us sn h77_5 (own_ok3 hv0 hv1 hv2) rfl SS O Z0 g_s E_s F_s_value F_s_coder ne_s_t ne_t_s A_t) (lenOf pd___C_V rfl) rfl (by decide) (show 1 + (2 + 11) + _ ≤ _ from by decide) (by decide) (by decide) (rest := [(.ref s)]) rfl rfl ?_
        rintro K _ h78_6 C Sx ⟨rfl, KpS, b, FV, FC, A_b, ne_b_s⟩
        have O := O.keep KpS (allS g_s all0)
        have Z0 := Nat.le_trans Z0 KpS.1
        have E_s := E_s.keep KpS
        have A_t := A_t.keep KpS (ninS ne_t_s nin0)
        have K0 := K0.trans KpS (allS (Or.inr sz_s) all0)
        show NS G K own_EL U rm1 Q h78_6 6 19 81 #[.val (.int n), .val (.int c0), .val (.int c1), .val (.int c2)] [(.ref s)]
        exact N.retAS C Sx rfl rfl d1_81 (by decide) (by decide) (by subst hQ; exact ⟨s, b, _, rfl, sz_s, K0, ⟨E_s, own_cod0 hok ▸ FC, FV, A_b⟩, own_bl3 hok⟩)
      · have hi37 : n.toInt = 2 := eqI hc37
        refine N.newO C (pc' := 43) d1_40 (C.w (i := 4) rfl) (C.w (i := 5) rfl) (C.w (i := 6) rfl) (by decide) (by decide) rfl (fun h40_7 s hx_s Ex40 E_s D_s => ?_)
        have g_s : G.n0 ≤ s := by rw [hx_s]; exact Z0
        have sz_s : h.size ≤ s := by rw [hx_s]; exact K0.1
        have Z0 := Nat.le_trans Z0 Ex40.1
        have O := O.ext Ex40
        have K0 := K0.ext Ex40
        have Sx := Sx.born Ex40 hx_s E_s.lt
        have F_s_value : Fld G.Z h40_7 s "java/lang/String" "value" "[B" .null := D_s (Or.inr (C.w (i := 20) rfl)) (ty := (.array .byte)) (by decide)
        have F_s_coder : Fld G.Z h40_7 s "java/lang/String" "coder" "B" (.int (0 : Int32)) := D_s (Or.inr (C.w (i := 21) rfl)) (ty := .byte) (by decide)
        refine N.dup C (pc' := 44) d1_43 rfl rfl ?_
        refine N.iconst C (pc' := 45) (z := 2) d1_44 rfl rfl ?_
        refine N.newP C (pc' := 47) (n := (2 : Int32)) 2 d1_45 (C.w (i := 7) rfl) (by decide) (by decide) (by decide) (by decide) (by decide) rfl (fun h45_8 t hx_t Ex45 A'_t => ?_)
        have ne_s_t : s ≠ t := by rw [hx_t]; exact Nat.ne_of_lt F_s_value.lt
        have ne_t_s := Ne.symm ne_s_t
        have g_t : G.n0 ≤ t := by rw [hx_t]; exact Z0
        have sz_t : h.size ≤ t := by rw [hx_t]; exact K0.1
        have Z0 := Nat.le_trans Z0 Ex45.1
        have O := O.ext Ex45
        have F_s_value := F_s_value.ext Ex45
        have F_s_coder := F_s_coder.ext Ex45
        have E_s := E_s.ext Ex45
        have K0 := K0.ext Ex45
        have Sx := Sx.born Ex45 hx_t A'_t.lt
        have A_t : Av G.Z h45_8 t .char [(.int (0 : Int32)), (.int (0 : Int32))] := A'_t
        refine N.dup C (pc' := 48) d1_47 rfl rfl ?_
        refine N.iconst C (pc' := 49) (z := 0) d1_48 rfl rfl ?_
        refine N.iloadN C (pc' := 50) d1_49 rfl rfl ?_
        refine N.castore C (pc' := 51) (i := 0) d1_50 A_t rfl (show 0 < 2 from by decide) g_t rfl (fun h50_9 W50 A_t => ?_)
        have Sx := Sx.wr W50 (List.mem_of_getElem? (i := 0) rfl)
        have O := O.wr W50 g_t
        have Z0 : G.n0 ≤ _ := (Wr.size W50).symm ▸ Z0
        have F_s_value := F_s_value.other W50 (Or.inl ne_s_t)
        have F_s_coder := F_s_coder.other W50 (Or.inl ne_s_t)
        have E_s := E_s.wr W50
        have K0 := K0.wr W50 (Or.inr sz_t)
        have A_t : Av G.Z h50_9 t .char [(.int (nar .char c0)), (.int (0 : Int32))] := A_t
        refine N.dup C (pc' := 52) d1_51 rfl rfl ?_
        refine N.iconst C (pc' := 53) (z := 1) d1_52 rfl rfl ?_
        refine N.iloadN C (pc' := 54) d1_53 rfl rfl ?_
        refine N.castore C (pc' := 55) (i := 1) d1_54 A_t rfl (show 1 < 2 from by decide) g_t rfl (fun h54_10 W54 A_t => ?_)
        have Sx := Sx.wr W54 (List.mem_of_getElem? (i := 0) rfl)
        have O := O.wr W54 g_t
        have Z0 : G.n0 ≤ _ := (Wr.size W54).symm ▸ Z0
        have F_s_value := F_s_value.other W54 (Or.inl ne_s_t)
        have F_s_coder := F_s_coder.other W54 (Or.inl ne_s_t)
        have E_s := E_s.wr W54
        have K0 := K0.wr W54 (Or.inr sz_t)
        have A_t : Av G.Z h54_10 t .char [(.int (nar .char c0)), (.int (nar .char c1))] := A_t
        have hok := own_ok2 hv0 hv1
        refine N.callIS C Sx (pc' := 58) s [(.ref t)] d1_55 rfl (C.w (i := 8) rfl) (C.w (i := 9) rfl) (C.w (i := 6) rfl) (C.w (i := 10) rfl) (by decide) (allS (List.mem_of_getElem? (i := 1) rfl) all0) (con2 G hw s t 2 [nar .char c0, nar .char c1] cp dO dT us sn h54_10 (own_ok2 hv0 hv1) rfl SS O Z0 g_s E_s F_s_value F_s_coder ne_s_t ne_t_s A_t) (lenOf pd___C_V rfl) rfl (by decide) (show 1 + (2 + 11) + _ ≤ _ from by decide) (by decide) (by decide) (rest := [(.ref s)]) rfl rfl ?_
        rintro K _ h55_11 C Sx ⟨rfl, KpS, b, FV, FC, A_b, ne_b_s⟩
        have O := O.keep KpS (allS g_s all0)
        have Z0 := Nat.le_trans Z0 KpS.1
        have E_s := E_s.keep KpS
        have A_t := A_t.keep KpS (ninS ne_t_s nin0)
        have K0 := K0.trans KpS (allS (Or.inr sz_s) all0)
        show NS G K own_EL U rm1 Q h55_11 6 18 58 #[.val (.int n), .val (.int c0), .val (.int c1), .val (.int c2)] [(.ref s)]
        exact N.retAS C Sx rfl rfl d1_58 (by decide) (by decide) (by subst hQ; exact ⟨s, b, _, rfl, sz_s, K0, ⟨E_s, own_cod0 hok ▸ FC, FV, A_b⟩, own_bl3 hok⟩)
    · have hi17 : n.toInt = 1 := eqI hc17
      refine N.newO C (pc' := 23) d1_20 (C.w (i := 4) rfl) (C.w (i := 5) rfl) (C.w (i := 6) rfl) (by decide) (by decide) rfl (fun h20_12 s hx_s Ex20 E_s D_s => ?_)
      have g_s : G.n0 ≤ s := by rw [hx_s]; exact Z0
      have sz_s : h.size ≤ s := by rw [hx_s]; exact K0.1
      have Z0 := Nat.le_trans Z0 Ex20.1
      have O := O.ext Ex20
      have K0 := K0.ext Ex20
      have Sx := Sx.born Ex20 hx_s E_s.lt
      have F_s_value : Fld G.Z h20_12 s "java/lang/String" "value" "[B" .null := D_s (Or.inr (C.w (i := 20) rfl)) (ty := (.array .byte)) (by decide)
      have F_s_coder : Fld G.Z h20_12 s "java/lang/String" "coder" "B" (.int (0 : Int32)) := D_s (Or.inr (C.w (i := 21) rfl)) (ty := .byte) (by decide)
      refine N.dup C (pc' := 24) d1_23 rfl rfl ?_
      refine N.iconst C (pc' := 25) (z := 1) d1_24 rfl rfl ?_
      refine N.newP C (pc' := 27) (n := (1 : Int32)) 1 d1_25 (C.w (i := 7) rfl) (by decide) (by decide) (by decide) (by decide) (by decide) rfl (fun h25_13 t hx_t Ex25 A'_t => ?_)
      have ne_s_t : s ≠ t := by rw [hx_t]; exact Nat.ne_of_lt F_s_value.lt
      have ne_t_s := Ne.symm ne_s_t
      have g_t : G.n0 ≤ t := by rw [hx_t]; exact Z0
      have sz_t : h.size ≤ t := by rw [hx_t]; exact K0.1
      have Z0 := Nat.le_trans Z0 Ex25.1
      have O := O.ext Ex25
      have F_s_value := F_s_value.ext Ex25
      have F_s_coder := F_s_coder.ext Ex25
      have E_s := E_s.ext Ex25
      have K0 := K0.ext Ex25
      have Sx := Sx.born Ex25 hx_t A'_t.lt
      have A_t : Av G.Z h25_13 t .char [(.int (0 : Int32))] := A'_t
      refine N.dup C (pc' := 28) d1_27 rfl rfl ?_
      refine N.iconst C (pc' := 29) (z := 0) d1_28 rfl rfl ?_
      refine N.iloadN C (pc' := 30) d1_29 rfl rfl ?_
      refine N.castore C (pc' := 31) (i := 0) d1_30 A_t rfl (show 0 < 1 from by decide) g_t rfl (fun h30_14 W30 A_t => ?_)
      have Sx := Sx.wr W30 (List.mem_of_getElem? (i := 0) rfl)
      have O := O.wr W30 g_t
      have Z0 : G.n0 ≤ _ := (Wr.size W30).symm ▸ Z0
      have F_s_value := F_s_value.other W30 (Or.inl ne_s_t)
      have F_s_coder := F_s_coder.other W30 (Or.inl ne_s_t)
      have E_s := E_s.wr W30
      have K0 := K0.wr W30 (Or.inr sz_t)
      have A_t : Av G.Z h30_14 t .char [(.int (nar .char c0))] := A_t
      have hok := own_ok1 hv0
      refine N.callIS C Sx (pc' := 34) s [(.ref t)] d1_31 rfl (C.w (i := 8) rfl) (C.w (i := 9) rfl) (C.w (i := 6) rfl) (C.w (i := 10) rfl) (by decide) (allS (List.mem_of_getElem? (i := 1) rfl) all0) (con2 G hw s t 1 [nar .char c0] cp dO dT us sn h30_14 (own_ok1 hv0) rfl SS O Z0 g_s E_s F_s_value F_s_coder ne_s_t ne_t_s A_t) (lenOf pd___C_V rfl) rfl (by decide) (show 1 + (2 + 11) + _ ≤ _ from by decide) (by decide) (by decide) (rest := [(.ref s)]) rfl rfl ?_
      rintro K _ h31_15 C Sx ⟨rfl, KpS, b, FV, FC, A_b, ne_b_s⟩
      have O := O.keep KpS (allS g_s all0)
      have Z0 := Nat.le_trans Z0 KpS.1
      have E_s := E_s.keep KpS
      have A_t := A_t.keep KpS (ninS ne_t_s nin0)
      have K0 := K0.trans KpS (allS (Or.inr sz_s) all0)
      show NS G K own_EL U rm1 Q h31_15 6 17 34 #[.val (.int n), .val (.int c0), .val (.int c1), .val (.int c2)] [(.ref s)]
      exact N.retAS C Sx rfl rfl d1_34 (by decide) (by decide) (by subst hQ; exact ⟨s, b, _, rfl, sz_s, K0, ⟨E_s, own_cod0 hok ▸ FC, FV, A_b⟩, own_bl3 hok⟩)
  · have hi1 : n.toInt = 0 := eqI hc1
    refine N.newO C (pc' := 7) d1_4 (C.w (i := 4) rfl) (C.w (i := 5) rfl) (C.w (i := 6) rfl) (by decide) (by decide) rfl (fun h4_16 s hx_s Ex4 E_s D_s => ?_)
    have g_s : G.n0 ≤ s := by rw [hx_s]; exact Z0
    have sz_s : h.size ≤ s := by rw [hx_s]; exact K0.1
    have Z0 := Nat.le_trans Z0 Ex4.1
    have O := O.ext Ex4
    have K0 := K0.ext Ex4
    have Sx := Sx.born Ex4 hx_s E_s.lt
    have F_s_value : Fld G.Z h4_16 s "java/lang/String" "value" "[B" .null := D_s (Or.inr (C.w (i := 20) rfl)) (ty := (.array .byte)) (by decide)
    have F_s_coder : Fld G.Z h4_16 s "java/lang/String" "coder" "B" (.int (0 : Int32)) := D_s (Or.inr (C.w (i := 21) rfl)) (ty := .byte) (by decide)
    refine N.dup C (pc' := 8) d1_7 rfl rfl ?_
    refine N.iconst C (pc' := 9) (z := 0) d1_8 rfl rfl ?_
    refine N.newP C (pc' := 11) (n := (0 : Int32)) 0 d1_9 (C.w (i := 7) rfl) (by decide) (by decide) (by decide) (by decide) (by decide) rfl (fun h9_17 t hx_t Ex9 A'_t => ?_)
    have ne_s_t : s ≠ t := by rw [hx_t]; exact Nat.ne_of_lt F_s_value.lt
    have ne_t_s := Ne.symm ne_s_t
    have g_t : G.n0 ≤ t := by rw [hx_t]; exact Z0
    have sz_t : h.size ≤ t := by rw [hx_t]; exact K0.1
    have Z0 := Nat.le_trans Z0 Ex9.1
    have O := O.ext Ex9
    have F_s_value := F_s_value.ext Ex9
    have F_s_coder := F_s_coder.ext Ex9
    have E_s := E_s.ext Ex9
    have K0 := K0.ext Ex9
    have Sx := Sx.born Ex9 hx_t A'_t.lt
    have A_t : Av G.Z h9_17 t .char [] := A'_t
    have hok := own_ok0
    refine N.callIS C Sx (pc' := 14) s [(.ref t)] d1_11 rfl (C.w (i := 8) rfl) (C.w (i := 9) rfl) (C.w (i := 6) rfl) (C.w (i := 10) rfl) (by decide) (allS (List.mem_of_getElem? (i := 1) rfl) all0) (con2 G hw s t 0 [] cp dO dT us sn h9_17 own_ok0 rfl SS O Z0 g_s E_s F_s_value F_s_coder ne_s_t ne_t_s A_t) (lenOf pd___C_V rfl) rfl (by decide) (show 1 + (2 + 11) + _ ≤ _ from by decide) (by decide) (by decide) (rest := [(.ref s)]) rfl rfl ?_
    rintro K _ h11_18 C Sx ⟨rfl, KpS, b, FV, FC, A_b, ne_b_s⟩
    have O := O.keep KpS (allS g_s all0)
    have Z0 := Nat.le_trans Z0 KpS.1
    have E_s := E_s.keep KpS
    have A_t := A_t.keep KpS (ninS ne_t_s nin0)
    have K0 := K0.trans KpS (allS (Or.inr sz_s) all0)
    show NS G K own_EL U rm1 Q h11_18 6 16 14 #[.val (.int n), .val (.int c0), .val (.int c1), .val (.int c2)] [(.ref s)]
    exact N.retAS C Sx rfl rfl d1_14 (by decide) (by decide) (by subst hQ; exact ⟨s, b, _, rfl, sz_s, K0, ⟨E_s, own_cod0 hok ▸ FC, FV, A_b⟩, own_bl3 hok⟩)
set_option maxRecDepth 65536 in
set_option maxHeartbeats 40000000 in
theorem con8 (G : Gx) (hw : ∀ d ∈ tables_1, d.before G.a0 G.Z = true) (x s e : Addr) (h : Heap) (O : Old G.Z G.n0 h) (Z0 : G.n0 ≤ h.size) (g_x : G.n0 ≤ x) (E_x : Exa G.Z h x "quadrille/Lexer") (F_x_text : Fld G.Z h x "quadrille/Lexer" "text" "Ljava/lang/String;" .null) (F_x_firstLine : Fld G.Z h x "quadrille/Lexer" "firstLine" "I" (.int (0 : Int32))) (F_x_source : Fld G.Z h x "quadrille/Lexer" "source" "Ljava/lang/String;" .null) (F_x_endOfText : Fld G.Z h x "quadrille/Lexer" "endOfText" "Ljava/lang/String;" .null) (F_x_pos : Fld G.Z h x "quadrille/Lexer" "pos" "I" (.int (0 : Int32))) (F_x_nesting : Fld G.Z h x "quadrille/Lexer" "nesting" "I" (.int (0 : Int32))) :
    ConS G own_EL [x] (⟨"quadrille/Lexer", "<init>", "(Ljava/lang/String;Ljava/lang/String;)V"⟩ : MethodName) prog_70_method_1_code 3 none rm8 #[(.ref x), (.ref s), (.ref e)] h (fun v h' => v = none ∧ Keep h h' [x] ∧ ∃ c : Addr, Fld G.Z h' x "quadrille/Lexer" "text" "Ljava/lang/String;" (.ref c) ∧ Fld G.Z h' x "quadrille/Lexer" "firstLine" "I" (.int (1 : Int32)) ∧ Fld G.Z h' x "quadrille/Lexer" "source" "Ljava/lang/String;" (.ref s) ∧ Fld G.Z h' x "quadrille/Lexer" "endOfText" "Ljava/lang/String;" (.ref e) ∧ Fld G.Z h' x "quadrille/Lexer" "pos" "I" (.int (0 : Int32)) ∧ Fld G.Z h' x "quadrille/Lexer" "nesting" "I" (.int (0 : Int32))) := by
  refine ConS.of (W := tables_1) (plainFor_of_name pn8) hw (own_ew hw) (fun mm => ef8 mm x s e) (fun K U hU C Sx => ?_)
  have C : Cx G K "quadrille/Lexer" "<init>" prog_70_method_1_code 3 none tables_1 := C
  generalize hQ : (fun v h' => v = none ∧ Keep h h' [x] ∧ ∃ c : Addr, Fld G.Z h' x "quadrille/Lexer" "text" "Ljava/lang/String;" (.ref c) ∧ Fld G.Z h' x "quadrille/Lexer" "firstLine" "I" (.int (1 : Int32)) ∧ Fld G.Z h' x "quadrille/Lexer" "source" "Ljava/lang/String;" (.ref s) ∧ Fld G.Z h' x "quadrille/Lexer" "endOfText" "Ljava/lang/String;" (.ref e) ∧ Fld G.Z h' x "quadrille/Lexer" "pos" "I" (.int (0 : Int32)) ∧ Fld G.Z h' x "quadrille/Lexer" "nesting" "I" (.int (0 : Int32)) : Option Value → Heap → Prop) = Q
  have K0 : Keep h h [x] := Keep.refl _ _
  refine N.aloadN C (pc' := 1) d8_0 rfl rfl rfl ?_
  refine N.initO C (pc' := 4) d8_1 (C.w (i := 45) rfl) (C.w (i := 16) rfl) (C.w (i := 17) rfl) rfl (by decide) (show 0 + 12 ≤ _ from by decide) rfl ?_
  refine N.aloadN C (pc' := 5) d8_4 rfl rfl rfl ?_
  refine N.ldcS C Sx (vs := []) 0 d8_5 (C.w (i := 46) rfl) (own_SA hw) (by decide) ⟨by decide, rfl⟩ (z := 0) (by decide) (by decide) (by decide) (by decide) (by decide) (by decide) rfl (fun K h5_1 c yc C Sx Ex5 E_c F_c_coder F_c_value A_yc ne_c => ?_)
  have Z0 := Nat.le_trans Z0 Ex5.1
  have O := O.ext Ex5
  have F_x_text := F_x_text.ext Ex5
  have F_x_firstLine := F_x_firstLine.ext Ex5
  have F_x_source := F_x_source.ext Ex5
  have F_x_endOfText := F_x_endOfText.ext Ex5
  have F_x_pos := F_x_pos.ext Ex5
  have F_x_nesting := F_x_nesting.ext Ex5
  have E_x := E_x.ext Ex5
  have K0 := K0.ext Ex5
  have ne_x_c := (ne_c x (List.mem_of_getElem? (i := 0) rfl)).1
  have ne_x_yc := (ne_c x (List.mem_of_getElem? (i := 0) rfl)).2
  have ne_c_x := Ne.symm ne_x_c
  have ne_yc_x := Ne.symm ne_x_yc
  show NS G K own_EL U rm8 Q h5_1 2 4 7 #[.val (.ref x), .val (.ref s), .val (.ref e)] [(.ref c), (.ref x)]
  refine N.putF C (pc' := 10) d8_7 (C.w (i := 47) rfl) F_x_text E_x (Or.inl (C.w (i := 48) rfl)) (C.w (i := 38) rfl) (ty := (.object "java/lang/String")) (by decide) rfl rfl g_x rfl (fun h7_2 W7 => ?_)
  have Sx := Sx.wr W7 (List.mem_of_getElem? (i := 0) rfl)
  have O := O.wr W7 g_x
  have Z0 : G.n0 ≤ _ := (Wr.size W7).symm ▸ Z0
  have F_x_text := F_x_text.same W7
  have F_x_firstLine := F_x_firstLine.other W7 (Or.inr (slot_ne (Or.inl (C.w (i := 50) rfl)) (Or.inl (C.w (i := 48) rfl)) (by decide) (t := .int) (t' := (.object "java/lang/String")) (by decide) (by decide)))
  have F_x_source := F_x_source.other W7 (Or.inr (slot_ne (Or.inr (C.w (i := 52) rfl)) (Or.inl (C.w (i := 48) rfl)) (by decide) (t := (.object "java/lang/String")) (t' := (.object "java/lang/String")) (by decide) (by decide)))
  have F_x_endOfText := F_x_endOfText.other W7 (Or.inr (slot_ne (Or.inr (C.w (i := 54) rfl)) (Or.inl (C.w (i := 48) rfl)) (by decide) (t := (.object "java/lang/String")) (t' := (.object "java/lang/String")) (by decide) (by decide)))
  have F_x_pos := F_x_pos.other W7 (Or.inr (slot_ne (Or.inl (C.w (i := 61) rfl)) (Or.inl (C.w (i := 48) rfl)) (by decide) (t := .int) (t' := (.object "java/lang/String")) (by decide) (by decide)))
  have F_x_nesting := F_x_nesting.other W7 (Or.inr (slot_ne (Or.inl (C.w (i := 63) rfl)) (Or.inl (C.w (i := 48) rfl)) (by decide) (t := .int) (t' := (.object "java/lang/String")) (by decide) (by decide)))
  have F_c_coder := F_c_coder.other W7 (Or.inl ne_c_x)
  have F_c_value := F_c_value.other W7 (Or.inl ne_c_x)
  have E_x := E_x.wr W7
  have E_c := E_c.wr W7
  have A_yc := A_yc.other W7 ne_yc_x
  have K0 := K0.wr W7 (Or.inl (List.mem_of_getElem? (i := 0) rfl))
  refine N.aloadN C (pc' := 11) d8_10 rfl rfl rfl ?_
  refine N.iconst C (pc' := 12) (z := 1) d8_11 rfl rfl ?_
  refine N.putF C (pc' := 15) d8_12 (C.w (i := 49) rfl) F_x_firstLine E_x (Or.inl (C.w (i := 50) rfl)) (C.w (i := 38) rfl) (ty := .int) (by decide) rfl rfl g_x rfl (fun h12_3 W12 => ?_)
  have Sx := Sx.wr W12 (List.mem_of_getElem? (i := 0) rfl)
  have O := O.wr W12 g_x
  have Z0 : G.n0 ≤ _ := (Wr.size W12).symm ▸ Z0
  have F_x_text := F_x_text.other W12 (Or.inr (slot_ne (Or.inl (C.w (i := 48) rfl)) (Or.inl (C.w (i := 50) rfl)) (by decide) (t := (.object "java/lang/String")) (t' := .int) (by decide) (by decide)))
  have F_x_firstLine := F_x_firstLine.same W12
  have F_x_source := F_x_source.other W12 (Or.inr (slot_ne (Or.inr (C.w (i := 52) rfl)) (Or.inl (C.w (i := 50) rfl)) (by decide) (t := (.object "java/lang/String")) (t' := .int) (by decide) (by decide)))
  have F_x_endOfText := F_x_endOfText.other W12 (Or.inr (slot_ne (Or.inr (C.w (i := 54) rfl)) (Or.inl (C.w (i := 50) rfl)) (by decide) (t := (.object "java/lang/String")) (t' := .int) (by decide) (by decide)))
  have F_x_pos := F_x_pos.other W12 (Or.inr (slot_ne (Or.inl (C.w (i := 61) rfl)) (Or.inl (C.w (i := 50) rfl)) (by decide) (t := .int) (t' := .int) (by decide) (by decide)))
  have F_x_nesting := F_x_nesting.other W12 (Or.inr (slot_ne (Or.inl (C.w (i := 63) rfl)) (Or.inl (C.w (i := 50) rfl)) (by decide) (t := .int) (t' := .int) (by decide) (by decide)))
  have F_c_coder := F_c_coder.other W12 (Or.inl ne_c_x)
  have F_c_value := F_c_value.other W12 (Or.inl ne_c_x)
  have E_x := E_x.wr W12
  have E_c := E_c.wr W12
  have A_yc := A_yc.other W12 ne_yc_x
  have K0 := K0.wr W12 (Or.inl (List.mem_of_getElem? (i := 0) rfl))
  refine N.aloadN C (pc' := 16) d8_15 rfl rfl rfl ?_
  refine N.aloadN C (pc' := 17) d8_16 rfl rfl rfl ?_
  refine N.putF C (pc' := 20) d8_17 (C.w (i := 51) rfl) F_x_source E_x (Or.inr ⟨(C.w (i := 52) rfl), rfl, rfl⟩) (C.w (i := 38) rfl) (ty := (.object "java/lang/String")) (by decide) rfl rfl g_x rfl (fun h17_4 W17 => ?_)
  have Sx := Sx.wr W17 (List.mem_of_getElem? (i := 0) rfl)
  have O := O.wr W17 g_x
  have Z0 : G.n0 ≤ _ := (Wr.size W17).symm ▸ Z0
  have F_x_text := F_x_text.other W17 (Or.inr (slot_ne (Or.inl (C.w (i := 48) rfl)) (Or.inr (C.w (i := 52) rfl)) (by decide) (t := (.object "java/lang/String")) (t' := (.object "java/lang/String")) (by decide) (by decide)))
  have F_x_firstLine := F_x_firstLine.other W17 (Or.inr (slot_ne (Or.inl (C.w (i := 50) rfl)) (Or.inr (C.w (i := 52) rfl)) (by decide) (t := .int) (t' := (.object "java/lang/String")) (by decide) (by decide)))
  have F_x_source := F_x_source.same W17
  have F_x_endOfText := F_x_endOfText.other W17 (Or.inr (slot_ne (Or.inr (C.w (i := 54) rfl)) (Or.inr (C.w (i := 52) rfl)) (by decide) (t := (.object "java/lang/String")) (t' := (.object "java/lang/String")) (by decide) (by decide)))
  have F_x_pos := F_x_pos.other W17 (Or.inr (slot_ne (Or.inl (C.w (i := 61) rfl)) (Or.inr (C.w (i := 52) rfl)) (by decide) (t := .int) (t' := (.object "java/lang/String")) (by decide) (by decide)))
  have F_x_nesting := F_x_nesting.other W17 (Or.inr (slot_ne (Or.inl (C.w (i := 63) rfl)) (Or.inr (C.w (i := 52) rfl)) (by decide) (t := .int) (t' := (.object "java/lang/String")) (by decide) (by decide)))
  have F_c_coder := F_c_coder.other W17 (Or.inl ne_c_x)
  have F_c_value := F_c_value.other W17 (Or.inl ne_c_x)
  have E_x := E_x.wr W17
  have E_c := E_c.wr W17
  have A_yc := A_yc.other W17 ne_yc_x
  have K0 := K0.wr W17 (Or.inl (List.mem_of_getElem? (i := 0) rfl))
  refine N.aloadN C (pc' := 21) d8_20 rfl rfl rfl ?_
  refine N.aloadN C (pc' := 22) d8_21 rfl rfl rfl ?_
  refine N.putF C (pc' := 25) d8_22 (C.w (i := 53) rfl) F_x_endOfText E_x (Or.inr ⟨(C.w (i := 54) rfl), rfl, rfl⟩) (C.w (i := 38) rfl) (ty := (.object "java/lang/String")) (by decide) rfl rfl g_x rfl (fun h22_5 W22 => ?_)
  have Sx := Sx.wr W22 (List.mem_of_getElem? (i := 0) rfl)
  have O := O.wr W22 g_x
  have Z0 : G.n0 ≤ _ := (Wr.size W22).symm ▸ Z0
  have F_x_text := F_x_text.other W22 (Or.inr (slot_ne (Or.inl (C.w (i := 48) rfl)) (Or.inr (C.w (i := 54) rfl)) (by decide) (t := (.object "java/lang/String")) (t' := (.object "java/lang/String")) (by decide) (by decide)))
  have F_x_firstLine := F_x_firstLine.other W22 (Or.inr (slot_ne (Or.inl (C.w (i := 50) rfl)) (Or.inr (C.w (i := 54) rfl)) (by decide) (t := .int) (t' := (.object "java/lang/String")) (by decide) (by decide)))
  have F_x_source := F_x_source.other W22 (Or.inr (slot_ne (Or.inr (C.w (i := 52) rfl)) (Or.inr (C.w (i := 54) rfl)) (by decide) (t := (.object "java/lang/String")) (t' := (.object "java/lang/String")) (by decide) (by decide)))
  have F_x_endOfText := F_x_endOfText.same W22
  have F_x_pos := F_x_pos.other W22 (Or.inr (slot_ne (Or.inl (C.w (i := 61) rfl)) (Or.inr (C.w (i := 54) rfl)) (by decide) (t := .int) (t' := (.object "java/lang/String")) (by decide) (by decide)))
  have F_x_nesting := F_x_nesting.other W22 (Or.inr (slot_ne (Or.inl (C.w (i := 63) rfl)) (Or.inr (C.w (i := 54) rfl)) (by decide) (t := .int) (t' := (.object "java/lang/String")) (by decide) (by decide)))
  have F_c_coder := F_c_coder.other W22 (Or.inl ne_c_x)
  have F_c_value := F_c_value.other W22 (Or.inl ne_c_x)
  have E_x := E_x.wr W22
  have E_c := E_c.wr W22
  have A_yc := A_yc.other W22 ne_yc_x
  have K0 := K0.wr W22 (Or.inl (List.mem_of_getElem? (i := 0) rfl))
  exact N.ret0S C Sx rfl d8_25 (by decide) (by decide) (by subst hQ; exact ⟨rfl, K0, c, F_x_text, F_x_firstLine, F_x_source, F_x_endOfText, F_x_pos, F_x_nesting⟩)
set_option maxRecDepth 65536 in
set_option maxHeartbeats 40000000 in
theorem con9 (G : Gx) (hw : ∀ d ∈ tables_1, d.before G.a0 G.Z = true) (x t : Addr) (l : Int32) (o0 o1 o2 o3 o4 : Value) (h : Heap) (Z0 : G.n0 ≤ h.size) (g_x : G.n0 ≤ x) (E_x : Exa G.Z h x "quadrille/Lexer") (F_x_text : Fld G.Z h x "quadrille/Lexer" "text" "Ljava/lang/String;" o0) (F_x_firstLine : Fld G.Z h x "quadrille/Lexer" "firstLine" "I" o1) (F_x_pos : Fld G.Z h x "quadrille/Lexer" "pos" "I" o2) (F_x_nesting : Fld G.Z h x "quadrille/Lexer" "nesting" "I" o3) (F_x_source : Fld G.Z h x "quadrille/Lexer" "source" "Ljava/lang/String;" o4) :
    Con G (⟨"quadrille/Lexer", "reset", "(Ljava/lang/String;I)V"⟩ : MethodName) prog_70_method_2_code 3 none rm9 #[(.ref x), (.ref t), (.int l)] h (fun v h' => v = none ∧ Keep h h' [x] ∧ Fld G.Z h' x "quadrille/Lexer" "text" "Ljava/lang/String;" (.ref t) ∧ Fld G.Z h' x "quadrille/Lexer" "firstLine" "I" (.int l) ∧ Fld G.Z h' x "quadrille/Lexer" "pos" "I" (.int (0 : Int32)) ∧ Fld G.Z h' x "quadrille/Lexer" "nesting" "I" (.int (0 : Int32)) ∧ Fld G.Z h' x "quadrille/Lexer" "source" "Ljava/lang/String;" o4) := by
  refine Con.of (W := tables_1) (plainFor_of_name pn9) hw (fun mm => ef9 mm x t l) (fun K C => ?_)
  have C : Cx G K "quadrille/Lexer" "reset" prog_70_method_2_code 3 none tables_1 := C
  generalize hQ : (fun v h' => v = none ∧ Keep h h' [x] ∧ Fld G.Z h' x "quadrille/Lexer" "text" "Ljava/lang/String;" (.ref t) ∧ Fld G.Z h' x "quadrille/Lexer" "firstLine" "I" (.int l) ∧ Fld G.Z h' x "quadrille/Lexer" "pos" "I" (.int (0 : Int32)) ∧ Fld G.Z h' x "quadrille/Lexer" "nesting" "I" (.int (0 : Int32)) ∧ Fld G.Z h' x "quadrille/Lexer" "source" "Ljava/lang/String;" o4 : Option Value → Heap → Prop) = Q
  have K0 : Keep h h [x] := Keep.refl _ _
  refine N.aloadN C (pc' := 1) d9_0 rfl rfl rfl ?_
  refine N.aloadN C (pc' := 2) d9_1 rfl rfl rfl ?_
  refine N.putF C (pc' := 5) d9_2 (C.w (i := 47) rfl) F_x_text E_x (Or.inl (C.w (i := 48) rfl)) (C.w (i := 38) rfl) (ty := (.object "java/lang/String")) (by decide) rfl rfl g_x rfl (fun h2_1 W2 => ?_)
  have Z0 : G.n0 ≤ _ := (Wr.size W2).symm ▸ Z0
  have F_x_text := F_x_text.same W2
  have F_x_firstLine := F_x_firstLine.other W2 (Or.inr (slot_ne (Or.inl (C.w (i := 50) rfl)) (Or.inl (C.w (i := 48) rfl)) (by decide) (t := .int) (t' := (.object "java/lang/String")) (by decide) (by decide)))
  have F_x_pos := F_x_pos.other W2 (Or.inr (slot_ne (Or.inl (C.w (i := 61) rfl)) (Or.inl (C.w (i := 48) rfl)) (by decide) (t := .int) (t' := (.object "java/lang/String")) (by decide) (by decide)))
  have F_x_nesting := F_x_nesting.other W2 (Or.inr (slot_ne (Or.inl (C.w (i := 63) rfl)) (Or.inl (C.w (i := 48) rfl)) (by decide) (t := .int) (t' := (.object "java/lang/String")) (by decide) (by decide)))
  have F_x_source := F_x_source.other W2 (Or.inr (slot_ne (Or.inr (C.w (i := 52) rfl)) (Or.inl (C.w (i := 48) rfl)) (by decide) (t := (.object "java/lang/String")) (t' := (.object "java/lang/String")) (by decide) (by decide)))
  have E_x := E_x.wr W2
  have K0 := K0.wr W2 (Or.inl (List.mem_of_getElem? (i := 0) rfl))
  refine N.aloadN C (pc' := 6) d9_5 rfl rfl rfl ?_
  refine N.iloadN C (pc' := 7) d9_6 rfl rfl ?_
  refine N.putF C (pc' := 10) d9_7 (C.w (i := 49) rfl) F_x_firstLine E_x (Or.inl (C.w (i := 50) rfl)) (C.w (i := 38) rfl) (ty := .int) (by decide) rfl rfl g_x rfl (fun h7_2 W7 => ?_)
  have Z0 : G.n0 ≤ _ := (Wr.size W7).symm ▸ Z0
  have F_x_text := F_x_text.other W7 (Or.inr (slot_ne (Or.inl (C.w (i := 48) rfl)) (Or.inl (C.w (i := 50) rfl)) (by decide) (t := (.object "java/lang/String")) (t' := .int) (by decide) (by decide)))
  have F_x_firstLine := F_x_firstLine.same W7
  have F_x_pos := F_x_pos.other W7 (Or.inr (slot_ne (Or.inl (C.w (i := 61) rfl)) (Or.inl (C.w (i := 50) rfl)) (by decide) (t := .int) (t' := .int) (by decide) (by decide)))
  have F_x_nesting := F_x_nesting.other W7 (Or.inr (slot_ne (Or.inl (C.w (i := 63) rfl)) (Or.inl (C.w (i := 50) rfl)) (by decide) (t := .int) (t' := .int) (by decide) (by decide)))
  have F_x_source := F_x_source.other W7 (Or.inr (slot_ne (Or.inr (C.w (i := 52) rfl)) (Or.inl (C.w (i := 50) rfl)) (by decide) (t := (.object "java/lang/String")) (t' := .int) (by decide) (by decide)))
  have E_x := E_x.wr W7
  have K0 := K0.wr W7 (Or.inl (List.mem_of_getElem? (i := 0) rfl))
  refine N.aloadN C (pc' := 11) d9_10 rfl rfl rfl ?_
  refine N.iconst C (pc' := 12) (z := 0) d9_11 rfl rfl ?_
  refine N.putF C (pc' := 15) d9_12 (C.w (i := 60) rfl) F_x_pos E_x (Or.inl (C.w (i := 61) rfl)) (C.w (i := 38) rfl) (ty := .int) (by decide) rfl rfl g_x rfl (fun h12_3 W12 => ?_)
  have Z0 : G.n0 ≤ _ := (Wr.size W12).symm ▸ Z0
  have F_x_text := F_x_text.other W12 (Or.inr (slot_ne (Or.inl (C.w (i := 48) rfl)) (Or.inl (C.w (i := 61) rfl)) (by decide) (t := (.object "java/lang/String")) (t' := .int) (by decide) (by decide)))
  have F_x_firstLine := F_x_firstLine.other W12 (Or.inr (slot_ne (Or.inl (C.w (i := 50) rfl)) (Or.inl (C.w (i := 61) rfl)) (by decide) (t := .int) (t' := .int) (by decide) (by decide)))
  have F_x_pos := F_x_pos.same W12
  have F_x_nesting := F_x_nesting.other W12 (Or.inr (slot_ne (Or.inl (C.w (i := 63) rfl)) (Or.inl (C.w (i := 61) rfl)) (by decide) (t := .int) (t' := .int) (by decide) (by decide)))
  have F_x_source := F_x_source.other W12 (Or.inr (slot_ne (Or.inr (C.w (i := 52) rfl)) (Or.inl (C.w (i := 61) rfl)) (by decide) (t := (.object "java/lang/String")) (t' := .int) (by decide) (by decide)))
  have E_x := E_x.wr W12
  have K0 := K0.wr W12 (Or.inl (List.mem_of_getElem? (i := 0) rfl))
  refine N.aloadN C (pc' := 16) d9_15 rfl rfl rfl ?_
  refine N.iconst C (pc' := 17) (z := 0) d9_16 rfl rfl ?_
  refine N.putF C (pc' := 20) d9_17 (C.w (i := 62) rfl) F_x_nesting E_x (Or.inl (C.w (i := 63) rfl)) (C.w (i := 38) rfl) (ty := .int) (by decide) rfl rfl g_x rfl (fun h17_4 W17 => ?_)
  have Z0 : G.n0 ≤ _ := (Wr.size W17).symm ▸ Z0
  have F_x_text := F_x_text.other W17 (Or.inr (slot_ne (Or.inl (C.w (i := 48) rfl)) (Or.inl (C.w (i := 63) rfl)) (by decide) (t := (.object "java/lang/String")) (t' := .int) (by decide) (by decide)))
  have F_x_firstLine := F_x_firstLine.other W17 (Or.inr (slot_ne (Or.inl (C.w (i := 50) rfl)) (Or.inl (C.w (i := 63) rfl)) (by decide) (t := .int) (t' := .int) (by decide) (by decide)))
  have F_x_pos := F_x_pos.other W17 (Or.inr (slot_ne (Or.inl (C.w (i := 61) rfl)) (Or.inl (C.w (i := 63) rfl)) (by decide) (t := .int) (t' := .int) (by decide) (by decide)))
  have F_x_nesting := F_x_nesting.same W17
  have F_x_source := F_x_source.other W17 (Or.inr (slot_ne (Or.inr (C.w (i := 52) rfl)) (Or.inl (C.w (i := 63) rfl)) (by decide) (t := (.object "java/lang/String")) (t' := .int) (by decide) (by decide)))
  have E_x := E_x.wr W17
  have K0 := K0.wr W17 (Or.inl (List.mem_of_getElem? (i := 0) rfl))
  exact N.ret0 C rfl d9_20 (by decide) (by decide) (by subst hQ; exact ⟨rfl, K0, F_x_text, F_x_firstLine, F_x_pos, F_x_nesting, F_x_source⟩)
set_option maxRecDepth 65536 in
set_option maxHeartbeats 40000000 in
theorem con10 (G : Gx) (hw : ∀ d ∈ tables_1, d.before G.a0 G.Z = true) (x : Addr) (k : Int32) (o0 o1 o2 o3 o4 : Value) (h : Heap) (Z0 : G.n0 ≤ h.size) (g_x : G.n0 ≤ x) (E_x : Exa G.Z h x "quadrille/Lexer") (F_x_pos : Fld G.Z h x "quadrille/Lexer" "pos" "I" o0) (F_x_text : Fld G.Z h x "quadrille/Lexer" "text" "Ljava/lang/String;" o1) (F_x_firstLine : Fld G.Z h x "quadrille/Lexer" "firstLine" "I" o2) (F_x_nesting : Fld G.Z h x "quadrille/Lexer" "nesting" "I" o3) (F_x_source : Fld G.Z h x "quadrille/Lexer" "source" "Ljava/lang/String;" o4) :
    Con G (⟨"quadrille/Lexer", "moveTo", "(I)V"⟩ : MethodName) prog_70_method_7_code 2 none rm10 #[(.ref x), (.int k)] h (fun v h' => v = none ∧ Keep h h' [x] ∧ Fld G.Z h' x "quadrille/Lexer" "pos" "I" (.int k) ∧ Fld G.Z h' x "quadrille/Lexer" "text" "Ljava/lang/String;" o1 ∧ Fld G.Z h' x "quadrille/Lexer" "firstLine" "I" o2 ∧ Fld G.Z h' x "quadrille/Lexer" "nesting" "I" o3 ∧ Fld G.Z h' x "quadrille/Lexer" "source" "Ljava/lang/String;" o4) := by
  refine Con.of (W := tables_1) (plainFor_of_name pn10) hw (fun mm => ef10 mm x k) (fun K C => ?_)
  have C : Cx G K "quadrille/Lexer" "moveTo" prog_70_method_7_code 2 none tables_1 := C
  generalize hQ : (fun v h' => v = none ∧ Keep h h' [x] ∧ Fld G.Z h' x "quadrille/Lexer" "pos" "I" (.int k) ∧ Fld G.Z h' x "quadrille/Lexer" "text" "Ljava/lang/String;" o1 ∧ Fld G.Z h' x "quadrille/Lexer" "firstLine" "I" o2 ∧ Fld G.Z h' x "quadrille/Lexer" "nesting" "I" o3 ∧ Fld G.Z h' x "quadrille/Lexer" "source" "Ljava/lang/String;" o4 : Option Value → Heap → Prop) = Q
  have K0 : Keep h h [x] := Keep.refl _ _
  refine N.aloadN C (pc' := 1) d10_0 rfl rfl rfl ?_
  refine N.iloadN C (pc' := 2) d10_1 rfl rfl ?_
  refine N.putF C (pc' := 5) d10_2 (C.w (i := 60) rfl) F_x_pos E_x (Or.inl (C.w (i := 61) rfl)) (C.w (i := 38) rfl) (ty := .int) (by decide) rfl rfl g_x rfl (fun h2_1 W2 => ?_)
  have Z0 : G.n0 ≤ _ := (Wr.size W2).symm ▸ Z0
  have F_x_pos := F_x_pos.same W2
  have F_x_text := F_x_text.other W2 (Or.inr (slot_ne (Or.inl (C.w (i := 48) rfl)) (Or.inl (C.w (i := 61) rfl)) (by decide) (t := (.object "java/lang/String")) (t' := .int) (by decide) (by decide)))
  have F_x_firstLine := F_x_firstLine.other W2 (Or.inr (slot_ne (Or.inl (C.w (i := 50) rfl)) (Or.inl (C.w (i := 61) rfl)) (by decide) (t := .int) (t' := .int) (by decide) (by decide)))
  have F_x_nesting := F_x_nesting.other W2 (Or.inr (slot_ne (Or.inl (C.w (i := 63) rfl)) (Or.inl (C.w (i := 61) rfl)) (by decide) (t := .int) (t' := .int) (by decide) (by decide)))
  have F_x_source := F_x_source.other W2 (Or.inr (slot_ne (Or.inr (C.w (i := 52) rfl)) (Or.inl (C.w (i := 61) rfl)) (by decide) (t := (.object "java/lang/String")) (t' := .int) (by decide) (by decide)))
  have E_x := E_x.wr W2
  have K0 := K0.wr W2 (Or.inl (List.mem_of_getElem? (i := 0) rfl))
  exact N.ret0 C rfl d10_5 (by decide) (by decide) (by subst hQ; exact ⟨rfl, K0, F_x_pos, F_x_text, F_x_firstLine, F_x_nesting, F_x_source⟩)
set_option maxRecDepth 65536 in
set_option maxHeartbeats 40000000 in
theorem con11 (G : Gx) (hw : ∀ d ∈ tables_1, d.before G.a0 G.Z = true) (x : Addr) (k : Int32) (h : Heap) (F_x_pos : Fld G.Z h x "quadrille/Lexer" "pos" "I" (.int k)) :
    Con G (⟨"quadrille/Lexer", "position", "()I"⟩ : MethodName) prog_70_method_6_code 1 (some .int) rm11 #[(.ref x)] h (fun v h' => v = some (.int k) ∧ h = h') := by
  refine Con.of (W := tables_1) (plainFor_of_name pn11) hw (fun mm => ef11 mm x) (fun K C => ?_)
  have C : Cx G K "quadrille/Lexer" "position" prog_70_method_6_code 1 (some .int) tables_1 := C
  generalize hQ : (fun v h' => v = some (.int k) ∧ h = h' : Option Value → Heap → Prop) = Q
  refine N.aloadN C (pc' := 1) d11_0 rfl rfl rfl ?_
  refine N.getF C (pc' := 4) d11_1 (C.w (i := 60) rfl) F_x_pos rfl ?_
  exact N.retI C d11_4 (by decide) (by decide) (by subst hQ; exact ⟨rfl, rfl⟩)
set_option maxRecDepth 65536 in
set_option maxHeartbeats 40000000 in
theorem con13 (G : Gx) (hw : ∀ d ∈ tables_1, d.before G.a0 G.Z = true) (x : Addr) (l : Int32) (h : Heap) (Z0 : G.n0 ≤ h.size) (g_x : G.n0 ≤ x) (E_x : Exa G.Z h x "quadrille/LineColumn") (F_x_line : Fld G.Z h x "quadrille/LineColumn" "line" "I" (.int (0 : Int32))) (F_x_column : Fld G.Z h x "quadrille/LineColumn" "column" "I" (.int (0 : Int32))) :
    Con G (⟨"quadrille/LineColumn", "<init>", "(I)V"⟩ : MethodName) prog_72_method_1_code 2 none rm13 #[(.ref x), (.int l)] h (fun v h' => v = none ∧ Keep h h' [x] ∧ Fld G.Z h' x "quadrille/LineColumn" "line" "I" (.int l) ∧ Fld G.Z h' x "quadrille/LineColumn" "column" "I" (.int (1 : Int32))) := by
  refine Con.of (W := tables_1) (plainFor_of_name pn13) hw (fun mm => ef13 mm x l) (fun K C => ?_)
  have C : Cx G K "quadrille/LineColumn" "<init>" prog_72_method_1_code 2 none tables_1 := C
  generalize hQ : (fun v h' => v = none ∧ Keep h h' [x] ∧ Fld G.Z h' x "quadrille/LineColumn" "line" "I" (.int l) ∧ Fld G.Z h' x "quadrille/LineColumn" "column" "I" (.int (1 : Int32)) : Option Value → Heap → Prop) = Q
  have K0 : Keep h h [x] := Keep.refl _ _
  refine N.aloadN C (pc' := 1) d13_0 rfl rfl rfl ?_
  refine N.initO C (pc' := 4) d13_1 (C.w (i := 86) rfl) (C.w (i := 16) rfl) (C.w (i := 17) rfl) rfl (by decide) (show 0 + 12 ≤ _ from by decide) rfl ?_
  refine N.aloadN C (pc' := 5) d13_4 rfl rfl rfl ?_
  refine N.iconst C (pc' := 6) (z := 1) d13_5 rfl rfl ?_
  refine N.putF C (pc' := 9) d13_6 (C.w (i := 87) rfl) F_x_column E_x (Or.inl (C.w (i := 88) rfl)) (C.w (i := 81) rfl) (ty := .int) (by decide) rfl rfl g_x rfl (fun h6_1 W6 => ?_)
  have Z0 : G.n0 ≤ _ := (Wr.size W6).symm ▸ Z0
  have F_x_column := F_x_column.same W6
  have F_x_line := F_x_line.other W6 (Or.inr (slot_ne (Or.inl (C.w (i := 90) rfl)) (Or.inl (C.w (i := 88) rfl)) (by decide) (t := .int) (t' := .int) (by decide) (by decide)))
  have E_x := E_x.wr W6
  have K0 := K0.wr W6 (Or.inl (List.mem_of_getElem? (i := 0) rfl))
  refine N.aloadN C (pc' := 10) d13_9 rfl rfl rfl ?_
  refine N.iloadN C (pc' := 11) d13_10 rfl rfl ?_
  refine N.putF C (pc' := 14) d13_11 (C.w (i := 89) rfl) F_x_line E_x (Or.inl (C.w (i := 90) rfl)) (C.w (i := 81) rfl) (ty := .int) (by decide) rfl rfl g_x rfl (fun h11_2 W11 => ?_)
  have Z0 : G.n0 ≤ _ := (Wr.size W11).symm ▸ Z0
  have F_x_column := F_x_column.other W11 (Or.inr (slot_ne (Or.inl (C.w (i := 88) rfl)) (Or.inl (C.w (i := 90) rfl)) (by decide) (t := .int) (t' := .int) (by decide) (by decide)))
  have F_x_line := F_x_line.same W11
  have E_x := E_x.wr W11
  have K0 := K0.wr W11 (Or.inl (List.mem_of_getElem? (i := 0) rfl))
  exact N.ret0 C rfl d13_14 (by decide) (by decide) (by subst hQ; exact ⟨rfl, K0, F_x_line, F_x_column⟩)
set_option maxRecDepth 65536 in
set_option maxHeartbeats 40000000 in
theorem con14 (G : Gx) (hw : ∀ d ∈ tables_1, d.before G.a0 G.Z = true) (x : Addr) (k : Int32) (h : Heap) (F_x_line : Fld G.Z h x "quadrille/LineColumn" "line" "I" (.int k)) :
    Con G (⟨"quadrille/LineColumn", "line", "()I"⟩ : MethodName) prog_72_method_3_code 1 (some .int) rm14 #[(.ref x)] h (fun v h' => v = some (.int k) ∧ h = h') := by
  refine Con.of (W := tables_1) (plainFor_of_name pn14) hw (fun mm => ef14 mm x) (fun K C => ?_)
  have C : Cx G K "quadrille/LineColumn" "line" prog_72_method_3_code 1 (some .int) tables_1 := C
  generalize hQ : (fun v h' => v = some (.int k) ∧ h = h' : Option Value → Heap → Prop) = Q
  refine N.aloadN C (pc' := 1) d14_0 rfl rfl rfl ?_
  refine N.getF C (pc' := 4) d14_1 (C.w (i := 89) rfl) F_x_line rfl ?_
  exact N.retI C d14_4 (by decide) (by decide) (by subst hQ; exact ⟨rfl, rfl⟩)
set_option maxRecDepth 65536 in
set_option maxHeartbeats 40000000 in
theorem con15 (G : Gx) (hw : ∀ d ∈ tables_1, d.before G.a0 G.Z = true) (x : Addr) (k : Int32) (h : Heap) (F_x_column : Fld G.Z h x "quadrille/LineColumn" "column" "I" (.int k)) :
    Con G (⟨"quadrille/LineColumn", "column", "()I"⟩ : MethodName) prog_72_method_4_code 1 (some .int) rm15 #[(.ref x)] h (fun v h' => v = some (.int k) ∧ h = h') := by
  refine Con.of (W := tables_1) (plainFor_of_name pn15) hw (fun mm => ef15 mm x) (fun K C => ?_)
  have C : Cx G K "quadrille/LineColumn" "column" prog_72_method_4_code 1 (some .int) tables_1 := C
  generalize hQ : (fun v h' => v = some (.int k) ∧ h = h' : Option Value → Heap → Prop) = Q
  refine N.aloadN C (pc' := 1) d15_0 rfl rfl rfl ?_
  refine N.getF C (pc' := 4) d15_1 (C.w (i := 87) rfl) F_x_column rfl ?_
  exact N.retI C d15_4 (by decide) (by decide) (by subst hQ; exact ⟨rfl, rfl⟩)
set_option maxRecDepth 65536 in
set_option maxHeartbeats 40000000 in
theorem con22 (G : Gx) (hw : ∀ d ∈ tables_1, d.before G.a0 G.Z = true) (x : Addr) (cp : Int32) (dO dT us sn : Addr) (h : Heap) (SS : Ss G cp dO dT us sn) (O : Old G.Z G.n0 h) (F_x_coder : Fld G.Z h x "java/lang/String" "coder" "B" (.int (0 : Int32))) :
    Con G (⟨"java/lang/String", "coder", "()B"⟩ : MethodName) jdk_42_method_152_code 1 (some .byte) rm22 #[(.ref x)] h (fun v h' => v = some (.int 0) ∧ h = h') := by
  refine Con.of (W := tables_1) (plainFor_of_name pn22) hw (fun mm => ef22 mm x) (fun K C => ?_)
  have C : Cx G K "java/lang/String" "coder" jdk_42_method_152_code 1 (some .byte) tables_1 := C
  generalize hQ : (fun v h' => v = some (.int 0) ∧ h = h' : Option Value → Heap → Prop) = Q
  have S_COMPACT_STRINGS := SS.s0.ext O.2
  refine N.getS C (pc' := 3) d22_0 (C.w (i := 26) rfl) S_COMPACT_STRINGS rfl ?_
  refine N.ifc C (pt := 13) (pf := 6) d22_3 rfl rfl (fun (hc3 : cp = (0 : Int32)) => absurd (show False from by exact SS.cp0 hc3) id) (fun (hc3 : ¬ cp = (0 : Int32)) => ?_)
  refine N.aloadN C (pc' := 7) d22_6 rfl rfl rfl ?_
  refine N.getF C (pc' := 10) d22_7 (C.w (i := 25) rfl) F_x_coder rfl ?_
  refine N.goto C (pc' := 14) d22_10 rfl ?_
  exact N.retN C (by simp) (z' := (0 : Int32)) rfl d22_14 (by decide) (by decide) (by subst hQ; exact ⟨rfl, rfl⟩)
set_option maxRecDepth 65536 in
set_option maxHeartbeats 40000000 in
theorem con21 (G : Gx) (hw : ∀ d ∈ tables_1, d.before G.a0 G.Z = true) (x a : Addr) (zs : List Int32) (cp : Int32) (dO dT us sn : Addr) (h : Heap) (hz : zs.length < 1000) (SS : Ss G cp dO dT us sn) (O : Old G.Z G.n0 h) (E_x : Exa G.Z h x "java/lang/String") (F_x_coder : Fld G.Z h x "java/lang/String" "coder" "B" (.int (0 : Int32))) (F_x_value : Fld G.Z h x "java/lang/String" "value" "[B" (.ref a)) (A_a : Av G.Z h a .byte (zs.map .int)) :
    Con G (⟨"java/lang/String", "length", "()I"⟩ : MethodName) jdk_42_method_54_code 1 (some .int) rm21 #[(.ref x)] h (fun v h' => ∃ r : Int32, v = some (.int r) ∧ h = h' ∧ r.toInt = (zs.length : Nat)) := by
  refine Con.of (W := tables_1) (plainFor_of_name pn21) hw (fun mm => ef21 mm x) (fun K C => ?_)
  have C : Cx G K "java/lang/String" "length" jdk_42_method_54_code 1 (some .int) tables_1 := C
  generalize hQ : (fun v h' => ∃ r : Int32, v = some (.int r) ∧ h = h' ∧ r.toInt = (zs.length : Nat) : Option Value → Heap → Prop) = Q
  obtain ⟨m, hm, len_a⟩ := own_lenI (zs := zs) hz
  refine N.aloadN C (pc' := 1) d21_0 rfl rfl rfl ?_
  refine N.getF C (pc' := 4) d21_1 (C.w (i := 24) rfl) F_x_value rfl ?_
  refine N.alen C (pc' := 5) (n := m) d21_4 A_a len_a rfl ?_
  refine N.aloadN C (pc' := 6) d21_5 rfl rfl rfl ?_
  refine N.callV C (pc' := 9) x [] d21_6 (C.w (i := 140) rfl) (C.w (i := 141) rfl) (C.w (i := 143) rfl) (C.w (i := 142) rfl) (C.w (i := 6) rfl) (C.w (i := 144) rfl) (by decide) E_x (con22 G hw x cp dO dT us sn h SS O F_x_coder) (lenOf pd___B rfl) rfl (by decide) (show 1 + (1 + 11) + _ ≤ _ from by decide) (by decide) (by decide) (rest := [(.int m)]) rfl rfl ?_
  rintro _ h6_1 ⟨rfl, rfl⟩
  show N G K rm21 Q h 0 0 9 #[.val (.ref x)] [(.int (0 : Int32)), (.int m)]
  refine N.ishr C (pc' := 10) d21_9 rfl ?_
  exact N.retI C d21_10 (by decide) (by decide) (by subst hQ; exact ⟨_, rfl, rfl, (own_s0 m).trans hm⟩)
set_option maxRecDepth 65536 in
set_option maxHeartbeats 40000000 in
theorem con18 (G : Gx) (hw : ∀ d ∈ tables_1, d.before G.a0 G.Z = true) (x : Addr) (cp : Int32) (dO dT us sn : Addr) (h : Heap) (SS : Ss G cp dO dT us sn) (O : Old G.Z G.n0 h) (Z0 : G.n0 ≤ h.size) (g_x : G.n0 ≤ x) (E_x : Exa G.Z h x "java/lang/StringBuilder") (F_x_value : Fld G.Z h x "java/lang/AbstractStringBuilder" "value" "[B" .null) (F_x_coder : Fld G.Z h x "java/lang/AbstractStringBuilder" "coder" "B" (.int (0 : Int32))) (F_x_count : Fld G.Z h x "java/lang/AbstractStringBuilder" "count" "I" (.int (0 : Int32))) :
    Con G (⟨"java/lang/AbstractStringBuilder", "<init>", "(I)V"⟩ : MethodName) jdk_68_method_2_code 2 none rm18 #[(.ref x), (.int (16 : Int32))] h (fun v h' => v = none ∧ Keep h h' [x] ∧ ∃ b : Addr, h.size ≤ b ∧ Sb G h' x b 0 (List.replicate 16 0) []) := by
  refine Con.of (W := tables_1) (plainFor_of_name pn18) hw (fun mm => ef18 mm x (16 : Int32)) (fun K C => ?_)
  have C : Cx G K "java/lang/AbstractStringBuilder" "<init>" jdk_68_method_2_code 2 none tables_1 := C
  generalize hQ : (fun v h' => v = none ∧ Keep h h' [x] ∧ ∃ b : Addr, h.size ≤ b ∧ Sb G h' x b 0 (List.replicate 16 0) [] : Option Value → Heap → Prop) = Q
  have K0 : Keep h h [x] := Keep.refl _ _
  refine N.aloadN C (pc' := 1) d18_0 rfl rfl rfl ?_
  refine N.initO C (pc' := 4) d18_1 (C.w (i := 119) rfl) (C.w (i := 16) rfl) (C.w (i := 17) rfl) rfl (by decide) (show 0 + 12 ≤ _ from by decide) rfl ?_
  have S_COMPACT_STRINGS := SS.s0.ext O.2
  refine N.getS C (pc' := 7) d18_4 (C.w (i := 120) rfl) S_COMPACT_STRINGS rfl ?_
  refine N.ifc C (pt := 25) (pf := 10) d18_7 rfl rfl (fun (hc7 : cp = (0 : Int32)) => absurd (show False from by exact SS.cp0 hc7) id) (fun (hc7 : ¬ cp = (0 : Int32)) => ?_)
  refine N.aloadN C (pc' := 11) d18_10 rfl rfl rfl ?_
  refine N.iloadN C (pc' := 12) d18_11 rfl rfl ?_
  refine N.newPE C (pc' := 14) (n := (16 : Int32)) 16 d18_12 (C.w (i := 19) rfl) (show _ = "[B" from by decide) (by decide) (by decide) (by decide) (by decide) (by decide) rfl (fun h12_1 b hx_b Ex12 A'_b E_b => ?_)
  have ne_x_b : x ≠ b := by rw [hx_b]; exact Nat.ne_of_lt F_x_value.lt
  have ne_b_x := Ne.symm ne_x_b
  have g_b : G.n0 ≤ b := by rw [hx_b]; exact Z0
  have sz_b : h.size ≤ b := by rw [hx_b]; exact K0.1
  have Z0 := Nat.le_trans Z0 Ex12.1
  have O := O.ext Ex12
  have F_x_value := F_x_value.ext Ex12
  have F_x_coder := F_x_coder.ext Ex12
  have F_x_count := F_x_count.ext Ex12
  have E_x := E_x.ext Ex12
  have K0 := K0.ext Ex12
  have A_b : Av G.Z h12_1 b .byte [(.int (0 : Int32)), (.int (0 : Int32)), (.int (0 : Int32)), (.int (0 : Int32)), (.int (0 : Int32)), (.int (0 : Int32)), (.int (0 : Int32)), (.int (0 : Int32)), (.int (0 : Int32)), (.int (0 : Int32)), (.int (0 : Int32)), (.int (0 : Int32)), (.int (0 : Int32)), (.int (0 : Int32)), (.int (0 : Int32)), (.int (0 : Int32))] := A'_b
  refine N.putF C (pc' := 17) d18_14 (C.w (i := 121) rfl) F_x_value E_x (Or.inl (C.w (i := 122) rfl)) (C.w (i := 108) rfl) (ty := (.array .byte)) (by decide) rfl rfl g_x rfl (fun h14_2 W14 => ?_)
  have O := O.wr W14 g_x
  have Z0 : G.n0 ≤ _ := (Wr.size W14).symm ▸ Z0
  have F_x_value := F_x_value.same W14
  have F_x_coder := F_x_coder.other W14 (Or.inr (slot_ne (Or.inl (C.w (i := 124) rfl)) (Or.inl (C.w (i := 122) rfl)) (by decide) (t := .byte) (t' := (.array .byte)) (by decide) (by decide)))
  have F_x_count := F_x_count.other W14 (Or.inr (slot_ne (Or.inl (C.w (i := 146) rfl)) (Or.inl (C.w (i := 122) rfl)) (by decide) (t := .int) (t' := (.array .byte)) (by decide) (by decide)))
  have E_x := E_x.wr W14
  have E_b := E_b.wr W14
  have A_b := A_b.other W14 ne_b_x
  have K0 := K0.wr W14 (Or.inl (List.mem_of_getElem? (i := 0) rfl))
  refine N.aloadN C (pc' := 18) d18_17 rfl rfl rfl ?_
  refine N.iconst C (pc' := 19) (z := 0) d18_18 rfl rfl ?_
  refine N.putFN C (pc' := 22) (v' := (.int (0 : Int32))) d18_19 (C.w (i := 123) rfl) F_x_coder E_x (Or.inl (C.w (i := 124) rfl)) (C.w (i := 108) rfl) (ty := .byte) (by decide) rfl (by decide) g_x rfl (fun h19_3 W19 => ?_)
  have O := O.wr W19 g_x
  have Z0 : G.n0 ≤ _ := (Wr.size W19).symm ▸ Z0
  have F_x_value := F_x_value.other W19 (Or.inr (slot_ne (Or.inl (C.w (i := 122) rfl)) (Or.inl (C.w (i := 124) rfl)) (by decide) (t := (.array .byte)) (t' := .byte) (by decide) (by decide)))
  have F_x_coder := F_x_coder.same W19
  have F_x_count := F_x_count.other W19 (Or.inr (slot_ne (Or.inl (C.w (i := 146) rfl)) (Or.inl (C.w (i := 124) rfl)) (by decide) (t := .int) (t' := .byte) (by decide) (by decide)))
  have E_x := E_x.wr W19
  have E_b := E_b.wr W19
  have A_b := A_b.other W19 ne_b_x
  have K0 := K0.wr W19 (Or.inl (List.mem_of_getElem? (i := 0) rfl))
  refine N.goto C (pc' := 38) d18_22 rfl ?_
  exact N.ret0 C rfl d18_38 (by decide) (by decide) (by subst hQ; exact ⟨rfl, K0, b, sz_b, E_x, F_x_value, F_x_coder, F_x_count, A_b, E_b, ne_x_b, g_x, g_b, rfl, (fun j hj => absurd hj (Nat.not_lt_zero _)), own_byZ 16, Or.inl (by decide)⟩)
set_option maxRecDepth 65536 in
set_option maxHeartbeats 40000000 in
theorem con17 (G : Gx) (hw : ∀ d ∈ tables_1, d.before G.a0 G.Z = true) (x : Addr) (cp : Int32) (dO dT us sn : Addr) (h : Heap) (SS : Ss G cp dO dT us sn) (O : Old G.Z G.n0 h) (Z0 : G.n0 ≤ h.size) (g_x : G.n0 ≤ x) (E_x : Exa G.Z h x "java/lang/StringBuilder") (F_x_value : Fld G.Z h x "java/lang/AbstractStringBuilder" "value" "[B" .null) (F_x_coder : Fld G.Z h x "java/lang/AbstractStringBuilder" "coder" "B" (.int (0 : Int32))) (F_x_count : Fld G.Z h x "java/lang/AbstractStringBuilder" "count" "I" (.int (0 : Int32))) :
    Con G (⟨"java/lang/StringBuilder", "<init>", "()V"⟩ : MethodName) jdk_67_method_1_code 1 none rm17 #[(.ref x)] h (fun v h' => v = none ∧ Keep h h' [x] ∧ ∃ b : Addr, h.size ≤ b ∧ Sb G h' x b 0 (List.replicate 16 0) []) := by
  refine Con.of (W := tables_1) (plainFor_of_name pn17) hw (fun mm => ef17 mm x) (fun K C => ?_)
  have C : Cx G K "java/lang/StringBuilder" "<init>" jdk_67_method_1_code 1 none tables_1 := C
  generalize hQ : (fun v h' => v = none ∧ Keep h h' [x] ∧ ∃ b : Addr, h.size ≤ b ∧ Sb G h' x b 0 (List.replicate 16 0) [] : Option Value → Heap → Prop) = Q
  refine N.aloadN C (pc' := 1) d17_0 rfl rfl rfl ?_
  refine N.bipush C (pc' := 3) (z := 16) d17_1 rfl rfl ?_
  refine N.callI C (pc' := 6) x [(.int (16 : Int32))] d17_3 rfl (C.w (i := 113) rfl) (C.w (i := 114) rfl) (C.w (i := 117) rfl) (C.w (i := 118) rfl) (by decide) (con18 G hw x cp dO dT us sn h SS O Z0 g_x E_x F_x_value F_x_coder F_x_count) (lenOf pd__I_V rfl) rfl (by decide) (show 0 + (2 + 11) + _ ≤ _ from by decide) (by decide) (by decide) (rest := []) rfl rfl ?_
  rintro _ h3_1 ⟨rfl, Kp, b, hb, B⟩
  show N G K rm17 Q h3_1 1 16 6 #[.val (.ref x)] []
  exact N.ret0 C rfl d17_6 (by decide) (by decide) (by subst hQ; exact ⟨rfl, Kp, b, hb, B⟩)
set_option maxRecDepth 65536 in
set_option maxHeartbeats 40000000 in
theorem con55 (G : Gx) (hw : ∀ d ∈ tables_1, d.before G.a0 G.Z = true) (x y : Int32) (h : Heap) :
    Con G (⟨"java/lang/Math", "max", "(II)I"⟩ : MethodName) jdk_29_method_65_code 2 (some .int) rm55 #[(.int x), (.int y)] h (fun v h' => ∃ r : Int32, v = some (.int r) ∧ h = h' ∧ ((x.toInt ≤ y.toInt ∧ r.toInt = y.toInt) ∨ (y.toInt ≤ x.toInt ∧ r.toInt = x.toInt))) := by
  refine Con.of (W := tables_1) pl55 hw (fun mm => ef55 mm x y) (fun K C => ?_)
  have C : Cx G K "java/lang/Math" "max" jdk_29_method_65_code 2 (some .int) tables_1 := C
  generalize hQ : (fun v h' => ∃ r : Int32, v = some (.int r) ∧ h = h' ∧ ((x.toInt ≤ y.toInt ∧ r.toInt = y.toInt) ∨ (y.toInt ≤ x.toInt ∧ r.toInt = x.toInt)) : Option Value → Heap → Prop) = Q
  refine N.iloadN C (pc' := 1) d55_0 rfl rfl ?_
  refine N.iloadN C (pc' := 2) d55_1 rfl rfl ?_
  refine N.icmp C (pt := 9) (pf := 5) d55_2 rfl rfl (fun (hc2 : x.toInt < y.toInt) => ?_) (fun (hc2 : y.toInt ≤ x.toInt) => ?_)
  · refine N.iloadN C (pc' := 10) d55_9 rfl rfl ?_
    exact N.retI C d55_10 (by decide) (by decide) (by subst hQ; exact ⟨_, rfl, rfl, by omega⟩)
  · refine N.iloadN C (pc' := 6) d55_5 rfl rfl ?_
    refine N.goto C (pc' := 10) d55_6 rfl ?_
    exact N.retI C d55_10 (by decide) (by decide) (by subst hQ; exact ⟨_, rfl, rfl, by omega⟩)
set_option maxRecDepth 65536 in
set_option maxHeartbeats 40000000 in
theorem con41 (G : Gx) (hw : ∀ d ∈ tables_1, d.before G.a0 G.Z = true) (x y : Int32) (h : Heap) :
    Con G (⟨"java/lang/Math", "min", "(II)I"⟩ : MethodName) jdk_29_method_69_code 2 (some .int) rm41 #[(.int x), (.int y)] h (fun v h' => ∃ r : Int32, v = some (.int r) ∧ h = h' ∧ ((x.toInt ≤ y.toInt ∧ r.toInt = x.toInt) ∨ (y.toInt ≤ x.toInt ∧ r.toInt = y.toInt))) := by
  refine Con.of (W := tables_1) pl41 hw (fun mm => ef41 mm x y) (fun K C => ?_)
  have C : Cx G K "java/lang/Math" "min" jdk_29_method_69_code 2 (some .int) tables_1 := C
  generalize hQ : (fun v h' => ∃ r : Int32, v = some (.int r) ∧ h = h' ∧ ((x.toInt ≤ y.toInt ∧ r.toInt = x.toInt) ∨ (y.toInt ≤ x.toInt ∧ r.toInt = y.toInt)) : Option Value → Heap → Prop) = Q
  refine N.iloadN C (pc' := 1) d41_0 rfl rfl ?_
  refine N.iloadN C (pc' := 2) d41_1 rfl rfl ?_
  refine N.icmp C (pt := 9) (pf := 5) d41_2 rfl rfl (fun (hc2 : y.toInt < x.toInt) => ?_) (fun (hc2 : x.toInt ≤ y.toInt) => ?_)
  · refine N.iloadN C (pc' := 10) d41_9 rfl rfl ?_
    exact N.retI C d41_10 (by decide) (by decide) (by subst hQ; exact ⟨_, rfl, rfl, by omega⟩)
  · refine N.iloadN C (pc' := 6) d41_5 rfl rfl ?_
    refine N.goto C (pc' := 10) d41_6 rfl ?_
    exact N.retI C d41_10 (by decide) (by decide) (by subst hQ; exact ⟨_, rfl, rfl, by omega⟩)
set_option maxRecDepth 65536 in
set_option maxHeartbeats 40000000 in
theorem con54 (G : Gx) (hw : ∀ d ∈ tables_1, d.before G.a0 G.Z = true) (c g p : Int32) (h : Heap) (hc : c.toInt = 16) (hg : g.toInt ≤ 18) (hp : p.toInt = 18) :
    Con G (⟨"jdk/internal/util/ArraysSupport", "newLength", "(III)I"⟩ : MethodName) jdk_48_method_27_code 4 (some .int) rm54 #[(.int c), (.int g), (.int p)] h (fun v h' => ∃ r : Int32, v = some (.int r) ∧ h = h' ∧ r.toInt = 34) := by
  refine Con.of (W := tables_1) (plainFor_of_name pn54) hw (fun mm => ef54 mm c g p) (fun K C => ?_)
  have C : Cx G K "jdk/internal/util/ArraysSupport" "newLength" jdk_48_method_27_code 4 (some .int) tables_1 := C
  generalize hQ : (fun v h' => ∃ r : Int32, v = some (.int r) ∧ h = h' ∧ r.toInt = 34 : Option Value → Heap → Prop) = Q
  refine N.iloadN C (pc' := 1) d54_0 rfl rfl ?_
  refine N.iloadN C (pc' := 2) d54_1 rfl rfl ?_
  refine N.iloadN C (pc' := 3) d54_2 rfl rfl ?_
  refine N.callS C (pc' := 6) [(.int g), (.int p)] d54_3 (C.w (i := 332) rfl) (C.w (i := 333) rfl) (C.w (i := 234) rfl) (C.w (i := 334) rfl) (by decide) (con55 G hw g p h) (lenOf pd__II_I rfl) rfl (by decide) (show 1 + (2 + 11) + _ ≤ _ from by decide) (by decide) (by decide) (rest := [(.int c)]) rfl rfl ?_
  rintro _ h3_1 ⟨q, rfl, rfl, hq⟩
  show N G K rm54 Q h 0 0 6 #[.val (.int c), .val (.int g), .val (.int p), .unset] [(.int q), (.int c)]
  refine N.iadd C (pc' := 7) d54_6 rfl ?_
  generalize hd_z : (c + q) = z at *
  refine N.istoreN C (pc' := 8) (ls' := #[.val (.int c), .val (.int g), .val (.int p), .val (.int z)]) d54_7 rfl rfl ?_
  have hz : z.toInt = 34 := by have h1 := c_iadd c q; have h2 := rng32 (c + q); rw [hd_z] at h1 h2; omega
  refine N.iconst C (pc' := 9) (z := 0) d54_8 rfl rfl ?_
  refine N.iloadN C (pc' := 10) d54_9 rfl rfl ?_
  refine N.icmp C (pt := 21) (pf := 13) d54_10 rfl rfl (fun (hc10 : z.toInt ≤ 0) => absurd (show False from by omega) id) (fun (hc10 : 0 < z.toInt) => ?_)
  refine N.iloadN C (pc' := 14) d54_13 rfl rfl ?_
  refine N.ldcI C (pc' := 16) (v := 2147483639) d54_14 (C.w (i := 335) rfl) rfl ?_
  refine N.icmp C (pt := 21) (pf := 19) d54_16 rfl rfl (fun (hc16 : 2147483639 < z.toInt) => absurd (show False from by omega) id) (fun (hc16 : z.toInt ≤ 2147483639) => ?_)
  refine N.iloadN C (pc' := 20) d54_19 rfl rfl ?_
  exact N.retI C d54_20 (by decide) (by decide) (by subst hQ; exact ⟨z, rfl, rfl, hz⟩)
set_option maxRecDepth 65536 in
set_option maxHeartbeats 40000000 in
theorem con53 (G : Gx) (hw : ∀ d ∈ tables_1, d.before G.a0 G.Z = true) (x b : Addr) (m : Int32) (bs : List Int32) (h : Heap) (h16 : bs.length = 16) (hm0 : 0 ≤ m.toInt) (hm : m.toInt ≤ 18) (F_x_value : Fld G.Z h x "java/lang/AbstractStringBuilder" "value" "[B" (.ref b)) (F_x_coder : Fld G.Z h x "java/lang/AbstractStringBuilder" "coder" "B" (.int (0 : Int32))) (A_b : Av G.Z h b .byte (bs.map .int)) :
    Con G (⟨"java/lang/AbstractStringBuilder", "newCapacity", "(I)I"⟩ : MethodName) jdk_68_method_10_code 6 (some .int) rm53 #[(.ref x), (.int m)] h (fun v h' => ∃ r : Int32, v = some (.int r) ∧ h = h' ∧ r.toInt = 34) := by
  refine Con.of (W := tables_1) (plainFor_of_name pn53) hw (fun mm => ef53 mm x m) (fun K C => ?_)
  have C : Cx G K "java/lang/AbstractStringBuilder" "newCapacity" jdk_68_method_10_code 6 (some .int) tables_1 := C
  generalize hQ : (fun v h' => ∃ r : Int32, v = some (.int r) ∧ h = h' ∧ r.toInt = 34 : Option Value → Heap → Prop) = Q
  obtain ⟨c, hb16, len_b⟩ := own_lenI (zs := bs) (by omega)
  rw [h16] at hb16
  refine N.aloadN C (pc' := 1) d53_0 rfl rfl rfl ?_
  refine N.getF C (pc' := 4) d53_1 (C.w (i := 121) rfl) F_x_value rfl ?_
  refine N.alen C (pc' := 5) (n := c) d53_4 A_b len_b rfl ?_
  refine N.istoreN C (pc' := 6) (ls' := #[.val (.ref x), .val (.int m), .val (.int c), .unset, .unset, .unset]) d53_5 rfl rfl ?_
  refine N.iloadN C (pc' := 7) d53_6 rfl rfl ?_
  refine N.aloadN C (pc' := 8) d53_7 rfl rfl rfl ?_
  refine N.getF C (pc' := 11) d53_8 (C.w (i := 123) rfl) F_x_coder rfl ?_
  refine N.ishl C (pc' := 12) d53_11 rfl ?_
  generalize hd_f : ((m <<< ((0 : Int32) &&& 31))) = f at *
  refine N.istoreN C (pc' := 13) (ls' := #[.val (.ref x), .val (.int m), .val (.int c), .val (.int f), .unset, .unset]) d53_12 rfl rfl ?_
  have hf : f.toInt = m.toInt := by rw [← hd_f]; exact own_l0 m
  refine N.iloadN C (pc' := 14) d53_13 rfl rfl ?_
  refine N.iloadN C (pc' := 15) d53_14 rfl rfl ?_
  refine N.isub C (pc' := 16) d53_15 rfl ?_
  generalize hd_g : (f - c) = g at *
  refine N.istore C (pc' := 18) (ls' := #[.val (.ref x), .val (.int m), .val (.int c), .val (.int f), .val (.int g), .unset]) d53_16 rfl rfl ?_
  have hgr : g.toInt ≤ 18 := by have h1 := c_isub f c; have h2 := rng32 (f - c); rw [hd_g] at h1 h2; omega
  refine N.iloadN C (pc' := 19) d53_18 rfl rfl ?_
  refine N.iload C (pc' := 21) d53_19 rfl rfl ?_
  refine N.iloadN C (pc' := 22) d53_21 rfl rfl ?_
  refine N.iconst C (pc' := 23) (z := 2) d53_22 rfl rfl ?_
  refine N.aloadN C (pc' := 24) d53_23 rfl rfl rfl ?_
  refine N.getF C (pc' := 27) d53_24 (C.w (i := 123) rfl) F_x_coder rfl ?_
  refine N.ishl C (pc' := 28) d53_27 rfl ?_
  refine N.iadd C (pc' := 29) d53_28 rfl ?_
  have hpr : (c + ((2 : Int32) <<< ((0 : Int32) &&& 31))).toInt = 18 := by have h1 := c_iadd c ((2 : Int32) <<< ((0 : Int32) &&& 31)); have h2 := rng32 (c + ((2 : Int32) <<< ((0 : Int32) &&& 31))); have h3 := own_l0 2; have e2 : (2 : Int32).toInt = 2 := (by decide); omega
  refine N.callS C (pc' := 32) [(.int c), (.int g), (.int (c + (((2 : Int32) <<< ((0 : Int32) &&& 31)))))] d53_29 (C.w (i := 329) rfl) (C.w (i := 330) rfl) (C.w (i := 314) rfl) (C.w (i := 331) rfl) (by decide) (con54 G hw c g (c + (((2 : Int32) <<< ((0 : Int32) &&& 31)))) h hb16 hgr hpr) (lenOf pd__III_I rfl) rfl (by decide) (show 0 + (4 + 11) + _ ≤ _ from by decide) (by decide) (by decide) (rest := []) rfl rfl ?_
  rintro _ h29_1 ⟨r, rfl, rfl, hr⟩
  show N G K rm53 Q h 0 0 32 #[.val (.ref x), .val (.int m), .val (.int c), .val (.int f), .val (.int g), .unset] [(.int r)]
  refine N.istore C (pc' := 34) (ls' := #[.val (.ref x), .val (.int m), .val (.int c), .val (.int f), .val (.int g), .val (.int r)]) d53_32 rfl rfl ?_
  refine N.iload C (pc' := 36) d53_34 rfl rfl ?_
  refine N.ldcI C (pc' := 38) (v := 2147483647) d53_36 (C.w (i := 336) rfl) rfl ?_
  refine N.icmp C (pt := 51) (pf := 41) d53_38 rfl rfl (fun (hc38 : ¬ r = (2147483647 : Int32)) => ?_) (fun (hc38 : r = (2147483647 : Int32)) => absurd (show False from by have := eqI hc38; have e : (2147483647 : Int32).toInt = 2147483647 := (by decide); omega) id)
  refine N.iload C (pc' := 53) d53_51 rfl rfl ?_
  refine N.aloadN C (pc' := 54) d53_53 rfl rfl rfl ?_
  refine N.getF C (pc' := 57) d53_54 (C.w (i := 123) rfl) F_x_coder rfl ?_
  refine N.ishr C (pc' := 58) d53_57 rfl ?_
  exact N.retI C d53_58 (by decide) (by decide) (by subst hQ; exact ⟨_, rfl, rfl, (own_s0 r).trans hr⟩)
set_option maxRecDepth 65536 in
set_option maxHeartbeats 40000000 in
theorem con56 (G : Gx) (hw : ∀ d ∈ tables_1, d.before G.a0 G.Z = true) (b : Addr) (n : Int32) (bs : List Int32) (h : Heap) (hn : n.toInt = 34) (h16 : bs.length = 16) (hby : own_by bs) (Z0 : G.n0 ≤ h.size) (A_b : Av G.Z h b .byte (bs.map .int)) :
    Con G (⟨"java/util/Arrays", "copyOf", "([BI)[B"⟩ : MethodName) jdk_65_method_121_code 3 (some (.array .byte)) rm56 #[(.ref b), (.int n)] h (fun v h' => ∃ d : Addr, v = some (.ref d) ∧ h.size ≤ d ∧ Keep h h' [] ∧ Av G.Z h' d .byte ((bs ++ List.replicate 18 0).map .int) ∧ Exa G.Z h' d "[B") := by
  refine Con.of (W := tables_1) (plainFor_of_name pn56) hw (fun mm => ef56 mm b n) (fun K C => ?_)
  have C : Cx G K "java/util/Arrays" "copyOf" jdk_65_method_121_code 3 (some (.array .byte)) tables_1 := C
  generalize hQ : (fun v h' => ∃ d : Addr, v = some (.ref d) ∧ h.size ≤ d ∧ Keep h h' [] ∧ Av G.Z h' d .byte ((bs ++ List.replicate 18 0).map .int) ∧ Exa G.Z h' d "[B" : Option Value → Heap → Prop) = Q
  have K0 : Keep h h [] := Keep.refl _ _
  obtain ⟨c, hb16, len_b⟩ := own_lenI (zs := bs) (by omega)
  rw [h16] at hb16
  refine N.iloadN C (pc' := 1) d56_0 rfl rfl ?_
  refine N.aloadN C (pc' := 2) d56_1 rfl rfl rfl ?_
  refine N.alen C (pc' := 3) (n := c) d56_2 A_b len_b rfl ?_
  refine N.icmp C (pt := 14) (pf := 6) d56_3 rfl rfl (fun (hc3 : ¬ n = c) => ?_) (fun (hc3 : n = c) => absurd (show False from by have := eqI hc3; omega) id)
  refine N.iloadN C (pc' := 15) d56_14 rfl rfl ?_
  refine N.newPE C (pc' := 17) (n := n) 34 d56_15 (C.w (i := 19) rfl) (show _ = "[B" from by decide) (by omega) (by omega) (by decide) (by decide) (by decide) rfl (fun h15_1 d hx_d Ex15 A'_d E_d => ?_)
  have ne_b_d : b ≠ d := by rw [hx_d]; exact Nat.ne_of_lt A_b.lt
  have ne_d_b := Ne.symm ne_b_d
  have g_d : G.n0 ≤ d := by rw [hx_d]; exact Z0
  have sz_d : h.size ≤ d := by rw [hx_d]; exact K0.1
  have Z0 := Nat.le_trans Z0 Ex15.1
  have A_b := A_b.ext Ex15
  have K0 := K0.ext Ex15
  have A_d : Av G.Z h15_1 d .byte (List.replicate n.toInt.toNat (.int (0 : Int32))) := A'_d
  refine N.astoreN C (pc' := 18) (ls' := #[.val (.ref b), .val (.int n), .val (.ref d)]) d56_17 rfl rfl rfl ?_
  refine N.aloadN C (pc' := 19) d56_18 rfl rfl rfl ?_
  refine N.iconst C (pc' := 20) (z := 0) d56_19 rfl rfl ?_
  refine N.aloadN C (pc' := 21) d56_20 rfl rfl rfl ?_
  refine N.iconst C (pc' := 22) (z := 0) d56_21 rfl rfl ?_
  refine N.aloadN C (pc' := 23) d56_22 rfl rfl rfl ?_
  refine N.alen C (pc' := 24) (n := c) d56_23 A_b len_b rfl ?_
  refine N.iloadN C (pc' := 25) d56_24 rfl rfl ?_
  refine N.callS C (pc' := 28) [(.int c), (.int n)] d56_25 (C.w (i := 232) rfl) (C.w (i := 233) rfl) (C.w (i := 234) rfl) (C.w (i := 235) rfl) (by decide) (con41 G hw c n h15_1) (lenOf pd__II_I rfl) rfl (by decide) (show 4 + (2 + 11) + _ ≤ _ from by decide) (by decide) (by decide) (rest := [(.int (0 : Int32)), (.ref d), (.int (0 : Int32)), (.ref b)]) rfl rfl ?_
  rintro _ h25_2 ⟨q, rfl, rfl, hq⟩
  show N G K rm56 Q h15_1 1 34 28 #[.val (.ref b), .val (.int n), .val (.ref d)] [(.int q), (.int (0 : Int32)), (.ref d), (.int (0 : Int32)), (.ref b)]
  have hed := own_z (show n.toInt.toNat = 34 from by omega)
  rw [hed] at A_d
  have hq16 : q.toInt = ((16 : Nat) : Int) := by omega
  refine N.copyB C (pc' := 31) (as := bs) (bs := (List.replicate 34 (0 : Int32))) (p0 := 0) (q0 := 0) (n := 16) d56_28 (C.w (i := 236) rfl) (C.w (i := 171) rfl) (C.w (i := 169) rfl) (C.w (i := 170) rfl) A_b A_d (own_fb hby) (own_fb (own_byZ 34)) (by omega) (by decide) rfl rfl hq16 (by omega) (by decide) g_d rfl (by decide) (show 0 + (nativeFrameWords "java/lang/System" "arraycopy" 5 + 11) ≤ _ from by decide) rfl (fun h28_3 KC28 A_d' => ?_)
  have Z0 := Nat.le_trans Z0 KC28.1
  have E_d := E_d.keep KC28
  have A_b := A_b.keep KC28 (ninS ne_b_d nin0)
  have K0 := K0.trans KC28 (allS (Or.inr sz_d) all0)
  have A_d := A_d'
  rw [own_grow h16] at A_d
  refine N.aloadN C (pc' := 32) d56_31 rfl rfl rfl ?_
  exact N.retA C rfl rfl d56_32 (by decide) (by decide) (by subst hQ; exact ⟨d, rfl, sz_d, K0, A_d, E_d⟩)
set_option maxRecDepth 65536 in
set_option maxHeartbeats 40000000 in
theorem con23 (G : Gx) (hw : ∀ d ∈ tables_1, d.before G.a0 G.Z = true) (x b : Addr) (m n : Int32) (k : Nat) (bs cs : List Int32) (cp : Int32) (dO dT us sn : Addr) (h : Heap) (hm : m.toInt = (k : Nat)) (hk : k ≤ 18) (SS : Ss G cp dO dT us sn) (O : Old G.Z G.n0 h) (Z0 : G.n0 ≤ h.size) (B : Sb G h x b n bs cs) :
    Con G (⟨"java/lang/AbstractStringBuilder", "ensureCapacityInternal", "(I)V"⟩ : MethodName) jdk_68_method_9_code 3 none rm23 #[(.ref x), (.int m)] h (fun v h' => v = none ∧ Keep h h' [x] ∧ ∃ (b' : Addr) (bs' : List Int32), Sb G h' x b' n bs' cs ∧ k ≤ bs'.length ∧ (b' = b ∨ h.size ≤ b')) := by
  refine Con.of (W := tables_1) (plainFor_of_name pn23) hw (fun mm => ef23 mm x m) (fun K C => ?_)
  have C : Cx G K "java/lang/AbstractStringBuilder" "ensureCapacityInternal" jdk_68_method_9_code 3 none tables_1 := C
  generalize hQ : (fun v h' => v = none ∧ Keep h h' [x] ∧ ∃ (b' : Addr) (bs' : List Int32), Sb G h' x b' n bs' cs ∧ k ≤ bs'.length ∧ (b' = b ∨ h.size ≤ b') : Option Value → Heap → Prop) = Q
  have E_x := B.E
  have F_x_value := B.Fv
  have F_x_coder := B.Fc
  have F_x_count := B.Fn
  have A_b := B.A
  have E_b := B.Eb
  have ne_x_b := B.ne
  have ne_b_x := Ne.symm B.ne
  have g_x := B.gx
  have g_b := B.gb
  have hcap_b := B.cap
  have K0 : Keep h h [x] := Keep.refl _ _
  obtain ⟨c, hcl, len_b⟩ := own_lenI (zs := bs) (by omega)
  refine N.aloadN C (pc' := 1) d23_0 rfl rfl rfl ?_
  refine N.getF C (pc' := 4) d23_1 (C.w (i := 121) rfl) F_x_value rfl ?_
  refine N.alen C (pc' := 5) (n := c) d23_4 A_b len_b rfl ?_
  refine N.aloadN C (pc' := 6) d23_5 rfl rfl rfl ?_
  refine N.getF C (pc' := 9) d23_6 (C.w (i := 123) rfl) F_x_coder rfl ?_
  refine N.ishr C (pc' := 10) d23_9 rfl ?_
  generalize hd_oc : ((c >>> ((0 : Int32) &&& 31))) = oc at *
  refine N.istoreN C (pc' := 11) (ls' := #[.val (.ref x), .val (.int m), .val (.int oc)]) d23_10 rfl rfl ?_
  have hoc : oc.toInt = c.toInt := by rw [← hd_oc]; exact own_s0 c
  have hsub := c_isub m oc
  have hrs := rng32 (m - oc)
  refine N.iloadN C (pc' := 12) d23_11 rfl rfl ?_
  refine N.iloadN C (pc' := 13) d23_12 rfl rfl ?_
  refine N.isub C (pc' := 14) d23_13 rfl ?_
  refine N.ifc C (pt := 38) (pf := 17) d23_14 rfl rfl (fun (hc14 : (m - oc).toInt ≤ 0) => ?_) (fun (hc14 : 0 < (m - oc).toInt) => ?_)
  · exact N.ret0 C rfl d23_38 (by decide) (by decide) (by subst hQ; exact ⟨rfl, K0, b, bs, B, by omega, Or.inl rfl⟩)
  · have h16 : bs.length = 16 := by omega
    refine N.aloadN C (pc' := 18) d23_17 rfl rfl rfl ?_
    refine N.aloadN C (pc' := 19) d23_18 rfl rfl rfl ?_
    refine N.getF C (pc' := 22) d23_19 (C.w (i := 121) rfl) F_x_value rfl ?_
    refine N.aloadN C (pc' := 23) d23_22 rfl rfl rfl ?_
    refine N.iloadN C (pc' := 24) d23_23 rfl rfl ?_
    refine N.callVK C (pc' := 27) x [(.int m)] d23_24 (C.w (i := 324) rfl) (declC (C.w (i := 325) rfl) (C.w (i := 328) rfl)) (C.w (i := 150) rfl) rfl (C.w (i := 327) rfl) (C.w (i := 325) rfl) (C.w (i := 117) rfl) (C.w (i := 328) rfl) (by decide) E_x (con53 G hw x b m bs h h16 (by omega) (by omega) F_x_value F_x_coder A_b) (lenOf pd__I_I rfl) rfl (by decide) (show 2 + (6 + 11) + _ ≤ _ from by decide) (by decide) (by decide) (rest := [(.ref b), (.ref x)]) rfl rfl ?_
    rintro _ h24_1 ⟨r, rfl, rfl, hr⟩
    show N G K rm23 Q h 0 0 27 #[.val (.ref x), .val (.int m), .val (.int oc)] [(.int r), (.ref b), (.ref x)]
    refine N.aloadN C (pc' := 28) d23_27 rfl rfl rfl ?_
    refine N.getF C (pc' := 31) d23_28 (C.w (i := 123) rfl) F_x_coder rfl ?_
    refine N.ishl C (pc' := 32) d23_31 rfl ?_
    refine N.callS C (pc' := 35) [(.ref b), (.int ((r <<< ((0 : Int32) &&& 31))))] d23_32 (C.w (i := 337) rfl) (C.w (i := 338) rfl) (C.w (i := 224) rfl) (C.w (i := 339) rfl) (by decide) (con56 G hw b ((r <<< ((0 : Int32) &&& 31))) bs h ((own_l0 r).trans hr) h16 B.by' Z0 A_b) (lenOf pd___BI__B rfl) rfl (by decide) (show 1 + (3 + 11) + _ ≤ _ from by decide) (by decide) (by decide) (rest := [(.ref x)]) rfl rfl ?_
    rintro _ h32_2 ⟨d, rfl, hzd, KpC, A_d, E_d⟩
    have ne_x_d : x ≠ d := Nat.ne_of_lt (Nat.lt_of_lt_of_le F_x_value.lt hzd)
    have ne_d_x := Ne.symm ne_x_d
    have ne_b_d : b ≠ d := Nat.ne_of_lt (Nat.lt_of_lt_of_le E_b.lt hzd)
    have ne_d_b := Ne.symm ne_b_d
    have g_d : G.n0 ≤ d := Nat.le_trans Z0 hzd
    have sz_d : h.size ≤ d := Nat.le_trans K0.1 hzd
    have O := O.keep KpC all0
    have Z0 := Nat.le_trans Z0 KpC.1
    have F_x_value := F_x_value.keep KpC nin0
    have F_x_coder := F_x_coder.keep KpC nin0
    have F_x_count := F_x_count.keep KpC nin0
    have E_x := E_x.keep KpC
    have E_b := E_b.keep KpC
    have A_b := A_b.keep KpC nin0
    have K0 := K0.trans KpC all0
    show N G K rm23 Q h32_2 1 34 35 #[.val (.ref x), .val (.int m), .val (.int oc)] [(.ref d), (.ref x)]
    refine N.putF C (pc' := 38) d23_35 (C.w (i := 121) rfl) F_x_value E_x (Or.inl (C.w (i := 122) rfl)) (C.w (i := 108) rfl) (ty := (.array .byte)) (by decide) rfl rfl g_x rfl (fun h35_3 W35 => ?_)
    have O := O.wr W35 g_x
    have Z0 : G.n0 ≤ _ := (Wr.size W35).symm ▸ Z0
    have F_x_value := F_x_value.same W35
    have F_x_coder := F_x_coder.other W35 (Or.inr (slot_ne (Or.inl (C.w (i := 124) rfl)) (Or.inl (C.w (i := 122) rfl)) (by decide) (t := .byte) (t' := (.array .byte)) (by decide) (by decide)))
    have F_x_count := F_x_count.other W35 (Or.inr (slot_ne (Or.inl (C.w (i := 146) rfl)) (Or.inl (C.w (i := 122) rfl)) (by decide) (t := .int) (t' := (.array .byte)) (by decide) (by decide)))
    have E_x := E_x.wr W35
    have E_b := E_b.wr W35
    have E_d := E_d.wr W35
    have A_b := A_b.other W35 ne_b_x
    have A_d := A_d.other W35 ne_d_x
    have K0 := K0.wr W35 (Or.inl (List.mem_of_getElem? (i := 0) rfl))
    exact N.ret0 C rfl d23_38 (by decide) (by decide) (by subst hQ; exact ⟨rfl, K0, d, bs ++ List.replicate 18 0, ⟨E_x, F_x_value, F_x_coder, F_x_count, A_d, E_d, ne_x_d, g_x, g_d, B.cnt, own_pfGrow B.pf, own_byA B.by' (own_byZ _), Or.inr (by simp; omega)⟩, by simp; omega, Or.inr sz_d⟩)
set_option maxRecDepth 65536 in
set_option maxHeartbeats 40000000 in
theorem con25 (G : Gx) (hw : ∀ d ∈ tables_1, d.before G.a0 G.Z = true) (x s : Addr) (cp : Int32) (dO dT us sn : Addr) (h : Heap) (SS : Ss G cp dO dT us sn) (O : Old G.Z G.n0 h) (E_s : Exa G.Z h s "java/lang/String") (F_x_coder : Fld G.Z h x "java/lang/AbstractStringBuilder" "coder" "B" (.int (0 : Int32))) (F_s_coder : Fld G.Z h s "java/lang/String" "coder" "B" (.int (0 : Int32))) :
    Con G (⟨"java/lang/AbstractStringBuilder", "inflateIfNeededFor", "(Ljava/lang/String;)V"⟩ : MethodName) jdk_68_method_71_code 2 none rm25 #[(.ref x), (.ref s)] h (fun v h' => v = none ∧ h = h') := by
  refine Con.of (W := tables_1) (plainFor_of_name pn25) hw (fun mm => ef25 mm x s) (fun K C => ?_)
  have C : Cx G K "java/lang/AbstractStringBuilder" "inflateIfNeededFor" jdk_68_method_71_code 2 none tables_1 := C
  generalize hQ : (fun v h' => v = none ∧ h = h' : Option Value → Heap → Prop) = Q
  have S_COMPACT_STRINGS := SS.s0.ext O.2
  refine N.getS C (pc' := 3) d25_0 (C.w (i := 120) rfl) S_COMPACT_STRINGS rfl ?_
  refine N.ifc C (pt := 21) (pf := 6) d25_3 rfl rfl (fun (hc3 : cp = (0 : Int32)) => absurd (show False from by exact SS.cp0 hc3) id) (fun (hc3 : ¬ cp = (0 : Int32)) => ?_)
  refine N.aloadN C (pc' := 7) d25_6 rfl rfl rfl ?_
  refine N.getF C (pc' := 10) d25_7 (C.w (i := 123) rfl) F_x_coder rfl ?_
  refine N.aloadN C (pc' := 11) d25_10 rfl rfl rfl ?_
  refine N.callV C (pc' := 14) s [] d25_11 (C.w (i := 162) rfl) (C.w (i := 141) rfl) (C.w (i := 143) rfl) (C.w (i := 142) rfl) (C.w (i := 6) rfl) (C.w (i := 144) rfl) (by decide) E_s (con22 G hw s cp dO dT us sn h SS O F_s_coder) (lenOf pd___B rfl) rfl (by decide) (show 1 + (1 + 11) + _ ≤ _ from by decide) (by decide) (by decide) (rest := [(.int (0 : Int32))]) rfl rfl ?_
  rintro _ h11_1 ⟨rfl, rfl⟩
  show N G K rm25 Q h 0 0 14 #[.val (.ref x), .val (.ref s)] [(.int (0 : Int32)), (.int (0 : Int32))]
  refine N.icmp C (pt := 21) (pf := 17) d25_14 rfl rfl (fun _ => ?_) (fun (q : ¬ (0 : Int32) = (0 : Int32)) => absurd q (by decide))
  exact N.ret0 C rfl d25_21 (by decide) (by decide) (by subst hQ; exact ⟨rfl, rfl⟩)
set_option maxRecDepth 65536 in
set_option maxHeartbeats 40000000 in
theorem con26 (G : Gx) (hw : ∀ d ∈ tables_1, d.before G.a0 G.Z = true) (s y d : Addr) (k : Int32) (j : Nat) (zs bs : List Int32) (cp : Int32) (dO dT us sn : Addr) (h : Heap) (hk : k.toInt = (j : Nat)) (hj : j + zs.length ≤ bs.length) (hb1 : bs.length < 1000) (hzb : own_by zs) (hbb : own_by bs) (SS : Ss G cp dO dT us sn) (O : Old G.Z G.n0 h) (Z0 : G.n0 ≤ h.size) (g_d : G.n0 ≤ d) (ne_s_d : s ≠ d) (ne_y_d : y ≠ d) (E_s : Exa G.Z h s "java/lang/String") (F_s_coder : Fld G.Z h s "java/lang/String" "coder" "B" (.int (0 : Int32))) (F_s_value : Fld G.Z h s "java/lang/String" "value" "[B" (.ref y)) (A_y : Av G.Z h y .byte (zs.map .int)) (A_d : Av G.Z h d .byte (bs.map .int)) :
    Con G (⟨"java/lang/String", "getBytes", "([BIB)V"⟩ : MethodName) jdk_42_method_147_code 4 none rm26 #[(.ref s), (.ref d), (.int k), (.int (0 : Int32))] h (fun v h' => v = none ∧ Keep h h' [d] ∧ Av G.Z h' d .byte ((bs.take j ++ zs ++ bs.drop (j + zs.length)).map .int)) := by
  refine Con.of (W := tables_1) (plainFor_of_name pn26) hw (fun mm => ef26 mm s d k (0 : Int32)) (fun K C => ?_)
  have C : Cx G K "java/lang/String" "getBytes" jdk_42_method_147_code 4 none tables_1 := C
  generalize hQ : (fun v h' => v = none ∧ Keep h h' [d] ∧ Av G.Z h' d .byte ((bs.take j ++ zs ++ bs.drop (j + zs.length)).map .int) : Option Value → Heap → Prop) = Q
  have K0 : Keep h h [d] := Keep.refl _ _
  obtain ⟨m, hm, len_y⟩ := own_lenI (zs := zs) (by omega)
  refine N.aloadN C (pc' := 1) d26_0 rfl rfl rfl ?_
  refine N.callV C (pc' := 4) s [] d26_1 (C.w (i := 140) rfl) (C.w (i := 141) rfl) (C.w (i := 143) rfl) (C.w (i := 142) rfl) (C.w (i := 6) rfl) (C.w (i := 144) rfl) (by decide) E_s (con22 G hw s cp dO dT us sn h SS O F_s_coder) (lenOf pd___B rfl) rfl (by decide) (show 0 + (1 + 11) + _ ≤ _ from by decide) (by decide) (by decide) (rest := []) rfl rfl ?_
  rintro _ h1_1 ⟨rfl, rfl⟩
  show N G K rm26 Q h 0 0 4 #[.val (.ref s), .val (.ref d), .val (.int k), .val (.int (0 : Int32))] [(.int (0 : Int32))]
  refine N.iloadN C (pc' := 5) d26_4 rfl rfl ?_
  refine N.icmp C (pt := 28) (pf := 8) d26_5 rfl rfl (fun (q : ¬ (0 : Int32) = (0 : Int32)) => absurd q (by decide)) (fun _ => ?_)
  refine N.aloadN C (pc' := 9) d26_8 rfl rfl rfl ?_
  refine N.getF C (pc' := 12) d26_9 (C.w (i := 24) rfl) F_s_value rfl ?_
  refine N.iconst C (pc' := 13) (z := 0) d26_12 rfl rfl ?_
  refine N.aloadN C (pc' := 14) d26_13 rfl rfl rfl ?_
  refine N.iloadN C (pc' := 15) d26_14 rfl rfl ?_
  refine N.iloadN C (pc' := 16) d26_15 rfl rfl ?_
  refine N.ishl C (pc' := 17) d26_16 rfl ?_
  refine N.aloadN C (pc' := 18) d26_17 rfl rfl rfl ?_
  refine N.getF C (pc' := 21) d26_18 (C.w (i := 24) rfl) F_s_value rfl ?_
  refine N.alen C (pc' := 22) (n := m) d26_21 A_y len_y rfl ?_
  refine N.copyB C (pc' := 25) (as := zs) (bs := bs) (p0 := 0) (q0 := j) (n := zs.length) d26_22 (C.w (i := 168) rfl) (C.w (i := 171) rfl) (C.w (i := 169) rfl) (C.w (i := 170) rfl) A_y A_d (own_fb hzb) (own_fb hbb) (by omega) (by omega) rfl ((own_l0 k).trans hk) hm (by omega) (by omega) g_d rfl (by decide) (show 0 + (nativeFrameWords "java/lang/System" "arraycopy" 5 + 11) ≤ _ from by decide) rfl (fun h22_2 KC22 A_d' => ?_)
  have O := O.keep KC22 (allS g_d all0)
  have Z0 := Nat.le_trans Z0 KC22.1
  have F_s_value := F_s_value.keep KC22 (ninS ne_s_d nin0)
  have F_s_coder := F_s_coder.keep KC22 (ninS ne_s_d nin0)
  have E_s := E_s.keep KC22
  have A_y := A_y.keep KC22 (ninS ne_y_d nin0)
  have K0 := K0.trans KC22 (allS (Or.inl (List.mem_of_getElem? (i := 0) rfl)) all0)
  have A_d := A_d'
  rw [List.drop_zero, List.take_length] at A_d
  refine N.goto C (pc' := 43) d26_25 rfl ?_
  exact N.ret0 C rfl d26_43 (by decide) (by decide) (by subst hQ; exact ⟨rfl, K0, A_d⟩)
set_option maxRecDepth 65536 in
set_option maxHeartbeats 40000000 in
theorem con24 (G : Gx) (hw : ∀ d ∈ tables_1, d.before G.a0 G.Z = true) (x b s y : Addr) (n : Int32) (bs cs zs : List Int32) (cp : Int32) (dO dT us sn : Addr) (h : Heap) (hj : cs.length + zs.length ≤ bs.length) (hzb : own_by zs) (SS : Ss G cp dO dT us sn) (O : Old G.Z G.n0 h) (Z0 : G.n0 ≤ h.size) (ne_s_x : s ≠ x) (ne_y_x : y ≠ x) (ne_s_b : s ≠ b) (ne_y_b : y ≠ b) (B : Sb G h x b n bs cs) (E_s : Exa G.Z h s "java/lang/String") (F_s_coder : Fld G.Z h s "java/lang/String" "coder" "B" (.int (0 : Int32))) (F_s_value : Fld G.Z h s "java/lang/String" "value" "[B" (.ref y)) (A_y : Av G.Z h y .byte (zs.map .int)) :
    Con G (⟨"java/lang/AbstractStringBuilder", "putStringAt", "(ILjava/lang/String;)V"⟩ : MethodName) jdk_68_method_73_code 3 none rm24 #[(.ref x), (.int n), (.ref s)] h (fun v h' => v = none ∧ Keep h h' [b] ∧ Av G.Z h' b .byte ((bs.take cs.length ++ zs ++ bs.drop (cs.length + zs.length)).map .int)) := by
  refine Con.of (W := tables_1) (plainFor_of_name pn24) hw (fun mm => ef24 mm x n s) (fun K C => ?_)
  have C : Cx G K "java/lang/AbstractStringBuilder" "putStringAt" jdk_68_method_73_code 3 none tables_1 := C
  generalize hQ : (fun v h' => v = none ∧ Keep h h' [b] ∧ Av G.Z h' b .byte ((bs.take cs.length ++ zs ++ bs.drop (cs.length + zs.length)).map .int) : Option Value → Heap → Prop) = Q
  have E_x := B.E
  have F_x_value := B.Fv
  have F_x_coder := B.Fc
  have F_x_count := B.Fn
  have A_b := B.A
  have E_b := B.Eb
  have ne_x_b := B.ne
  have ne_b_x := Ne.symm B.ne
  have g_x := B.gx
  have g_b := B.gb
  have hcap_b := B.cap
  have K0 : Keep h h [b] := Keep.refl _ _
  have ne_x_s := Ne.symm ne_s_x
  have ne_x_y := Ne.symm ne_y_x
  have ne_b_s := Ne.symm ne_s_b
  have ne_b_y := Ne.symm ne_y_b
  refine N.aloadN C (pc' := 1) d24_0 rfl rfl rfl ?_
  refine N.aloadN C (pc' := 2) d24_1 rfl rfl rfl ?_
  refine N.callVK C (pc' := 5) x [(.ref s)] d24_2 (C.w (i := 157) rfl) (declC (C.w (i := 158) rfl) (C.w (i := 161) rfl)) (C.w (i := 150) rfl) rfl (C.w (i := 160) rfl) (C.w (i := 158) rfl) (C.w (i := 117) rfl) (C.w (i := 161) rfl) (by decide) E_x (con25 G hw x s cp dO dT us sn h SS O E_s F_x_coder F_s_coder) (lenOf pd__Ljava_lang_String__V rfl) rfl (by decide) (show 0 + (2 + 11) + _ ≤ _ from by decide) (by decide) (by decide) (rest := []) rfl rfl ?_
  rintro _ h2_1 ⟨rfl, rfl⟩
  show N G K rm24 Q h 0 0 5 #[.val (.ref x), .val (.int n), .val (.ref s)] []
  refine N.aloadN C (pc' := 6) d24_5 rfl rfl rfl ?_
  refine N.aloadN C (pc' := 7) d24_6 rfl rfl rfl ?_
  refine N.getF C (pc' := 10) d24_7 (C.w (i := 121) rfl) F_x_value rfl ?_
  refine N.iloadN C (pc' := 11) d24_10 rfl rfl ?_
  refine N.aloadN C (pc' := 12) d24_11 rfl rfl rfl ?_
  refine N.getF C (pc' := 15) d24_12 (C.w (i := 123) rfl) F_x_coder rfl ?_
  refine N.callV C (pc' := 18) s [(.ref b), (.int n), (.int (0 : Int32))] d24_15 (C.w (i := 163) rfl) (C.w (i := 164) rfl) (C.w (i := 166) rfl) (C.w (i := 165) rfl) (C.w (i := 6) rfl) (C.w (i := 167) rfl) (by decide) E_s (con26 G hw s y b n cs.length zs bs cp dO dT us sn h B.cnt hj (by omega) hzb B.by' SS O Z0 g_b ne_s_b ne_y_b E_s F_s_coder F_s_value A_y A_b) (lenOf pd___BIB_V rfl) rfl (by decide) (show 0 + (4 + 11) + _ ≤ _ from by decide) (by decide) (by decide) (rest := []) rfl rfl ?_
  rintro _ h15_2 ⟨rfl, KpG, A_b'⟩
  have O := O.keep KpG (allS g_b all0)
  have Z0 := Nat.le_trans Z0 KpG.1
  have F_x_value := F_x_value.keep KpG (ninS ne_x_b nin0)
  have F_x_coder := F_x_coder.keep KpG (ninS ne_x_b nin0)
  have F_x_count := F_x_count.keep KpG (ninS ne_x_b nin0)
  have F_s_value := F_s_value.keep KpG (ninS ne_s_b nin0)
  have F_s_coder := F_s_coder.keep KpG (ninS ne_s_b nin0)
  have E_x := E_x.keep KpG
  have E_b := E_b.keep KpG
  have E_s := E_s.keep KpG
  have A_y := A_y.keep KpG (ninS ne_y_b nin0)
  have K0 := K0.trans KpG (allS (Or.inl (List.mem_of_getElem? (i := 0) rfl)) all0)
  have A_b := A_b'
  show N G K rm24 Q h15_2 0 0 18 #[.val (.ref x), .val (.int n), .val (.ref s)] []
  exact N.ret0 C rfl d24_18 (by decide) (by decide) (by subst hQ; exact ⟨rfl, K0, A_b⟩)
set_option maxRecDepth 65536 in
set_option maxHeartbeats 40000000 in
theorem con20 (G : Gx) (hw : ∀ d ∈ tables_1, d.before G.a0 G.Z = true) (x b s y : Addr) (n : Int32) (bs cs zs : List Int32) (cp : Int32) (dO dT us sn : Addr) (h : Heap) (hl : cs.length + zs.length ≤ 18) (hzb : own_by zs) (SS : Ss G cp dO dT us sn) (O : Old G.Z G.n0 h) (Z0 : G.n0 ≤ h.size) (ne_s_x : s ≠ x) (ne_y_x : y ≠ x) (ne_s_b : s ≠ b) (ne_y_b : y ≠ b) (B : Sb G h x b n bs cs) (E_s : Exa G.Z h s "java/lang/String") (F_s_coder : Fld G.Z h s "java/lang/String" "coder" "B" (.int (0 : Int32))) (F_s_value : Fld G.Z h s "java/lang/String" "value" "[B" (.ref y)) (A_y : Av G.Z h y .byte (zs.map .int)) :
    Con G (⟨"java/lang/AbstractStringBuilder", "append", "(Ljava/lang/String;)Ljava/lang/AbstractStringBuilder;"⟩ : MethodName) jdk_68_method_22_code 3 (some (.object "java/lang/AbstractStringBuilder")) rm20 #[(.ref x), (.ref s)] h (fun v h' => v = some (.ref x) ∧ Keep h h' [x, b] ∧ ∃ (b' : Addr) (n' : Int32) (bs' : List Int32), Sb G h' x b' n' bs' (cs ++ zs) ∧ (b' = b ∨ h.size ≤ b')) := by
  refine Con.of (W := tables_1) (plainFor_of_name pn20) hw (fun mm => ef20 mm x s) (fun K C => ?_)
  have C : Cx G K "java/lang/AbstractStringBuilder" "append" jdk_68_method_22_code 3 (some (.object "java/lang/AbstractStringBuilder")) tables_1 := C
  generalize hQ : (fun v h' => v = some (.ref x) ∧ Keep h h' [x, b] ∧ ∃ (b' : Addr) (n' : Int32) (bs' : List Int32), Sb G h' x b' n' bs' (cs ++ zs) ∧ (b' = b ∨ h.size ≤ b') : Option Value → Heap → Prop) = Q
  have E_x := B.E
  have F_x_value := B.Fv
  have F_x_coder := B.Fc
  have F_x_count := B.Fn
  have A_b := B.A
  have E_b := B.Eb
  have ne_x_b := B.ne
  have ne_b_x := Ne.symm B.ne
  have g_x := B.gx
  have g_b := B.gb
  have hcap_b := B.cap
  have K0 : Keep h h [x, b] := Keep.refl _ _
  have ne_x_s := Ne.symm ne_s_x
  have ne_x_y := Ne.symm ne_y_x
  have ne_b_s := Ne.symm ne_s_b
  have ne_b_y := Ne.symm ne_y_b
  refine N.aloadN C (pc' := 1) d20_0 rfl rfl rfl ?_
  refine N.ifnonnull1 C (pc' := 9) d20_1 rfl ?_
  refine N.aloadN C (pc' := 10) d20_9 rfl rfl rfl ?_
  refine N.callV C (pc' := 13) s [] d20_10 (C.w (i := 135) rfl) (C.w (i := 136) rfl) (C.w (i := 138) rfl) (C.w (i := 137) rfl) (C.w (i := 6) rfl) (C.w (i := 139) rfl) (by decide) E_s (con21 G hw s y zs cp dO dT us sn h (by omega) SS O E_s F_s_coder F_s_value A_y) (lenOf pd___I rfl) rfl (by decide) (show 0 + (1 + 11) + _ ≤ _ from by decide) (by decide) (by decide) (rest := []) rfl rfl ?_
  rintro _ h10_1 ⟨r, rfl, rfl, hr⟩
  show N G K rm20 Q h 0 0 13 #[.val (.ref x), .val (.ref s), .unset] [(.int r)]
  refine N.istoreN C (pc' := 14) (ls' := #[.val (.ref x), .val (.ref s), .val (.int r)]) d20_13 rfl rfl ?_
  refine N.aloadN C (pc' := 15) d20_14 rfl rfl rfl ?_
  refine N.aloadN C (pc' := 16) d20_15 rfl rfl rfl ?_
  refine N.getF C (pc' := 19) d20_16 (C.w (i := 145) rfl) F_x_count rfl ?_
  refine N.iloadN C (pc' := 20) d20_19 rfl rfl ?_
  refine N.iadd C (pc' := 21) d20_20 rfl ?_
  refine N.callVK C (pc' := 24) x [(.int (n + r))] d20_21 (C.w (i := 147) rfl) (declC (C.w (i := 148) rfl) (C.w (i := 151) rfl)) (C.w (i := 150) rfl) rfl (C.w (i := 150) rfl) (C.w (i := 148) rfl) (C.w (i := 117) rfl) (C.w (i := 151) rfl) (by decide) E_x (con23 G hw x b (n + r) n (cs.length + zs.length) bs cs cp dO dT us sn h (own_add B.cnt hr (by omega) (by omega)) hl SS O Z0 B) (lenOf pd__I_V rfl) rfl (by decide) (show 0 + (3 + 11) + _ ≤ _ from by decide) (by decide) (by decide) (rest := []) rfl rfl ?_
  rintro _ h21_2 ⟨rfl, KpE, b1, bs1, B1, hcap1, hb1⟩
  have ne_s_b1 : s ≠ b1 := own_ne hb1 ne_s_b F_s_value.lt
  have ne_b1_s := Ne.symm ne_s_b1
  have ne_y_b1 : y ≠ b1 := own_ne hb1 ne_y_b A_y.lt
  have ne_b1_y := Ne.symm ne_y_b1
  have kp_b1 : b1 ∈ [x, b] ∨ h.size ≤ b1 := hb1.elim (fun q => Or.inl (by rw [q]; exact List.mem_of_getElem? (i := 1) rfl)) Or.inr
  have O := O.keep KpE (allS g_x all0)
  have Z0 := Nat.le_trans Z0 KpE.1
  have F_s_value := F_s_value.keep KpE (ninS ne_s_x nin0)
  have F_s_coder := F_s_coder.keep KpE (ninS ne_s_x nin0)
  have E_x := E_x.keep KpE
  have E_b := E_b.keep KpE
  have E_s := E_s.keep KpE
  have A_b := A_b.keep KpE (ninS ne_b_x nin0)
  have A_y := A_y.keep KpE (ninS ne_y_x nin0)
  have K0 := K0.trans KpE (allS (Or.inl (List.mem_of_getElem? (i := 0) rfl)) all0)
  have E_x := B1.E
  have F_x_value := B1.Fv
  have F_x_coder := B1.Fc
  have F_x_count := B1.Fn
  have A_b1 := B1.A
  have E_b1 := B1.Eb
  have ne_x_b1 := B1.ne
  have ne_b1_x := Ne.symm B1.ne
  have g_x := B1.gx
  have g_b1 := B1.gb
  have hcap_b1 := B1.cap
  show N G K rm20 Q h21_2 1 34 24 #[.val (.ref x), .val (.ref s), .val (.int r)] []
  refine N.aloadN C (pc' := 25) d20_24 rfl rfl rfl ?_
  refine N.aloadN C (pc' := 26) d20_25 rfl rfl rfl ?_
  refine N.getF C (pc' := 29) d20_26 (C.w (i := 145) rfl) F_x_count rfl ?_
  refine N.aloadN C (pc' := 30) d20_29 rfl rfl rfl ?_
  refine N.callVK C (pc' := 33) x [(.int n), (.ref s)] d20_30 (C.w (i := 152) rfl) (declC (C.w (i := 153) rfl) (C.w (i := 156) rfl)) (C.w (i := 150) rfl) rfl (C.w (i := 155) rfl) (C.w (i := 153) rfl) (C.w (i := 117) rfl) (C.w (i := 156) rfl) (by decide) E_x (con24 G hw x b1 s y n bs1 cs zs cp dO dT us sn h21_2 hcap1 hzb SS O Z0 ne_s_x ne_y_x ne_s_b1 ne_y_b1 B1 E_s F_s_coder F_s_value A_y) (lenOf pd__ILjava_lang_String__V rfl) rfl (by decide) (show 0 + (3 + 11) + _ ≤ _ from by decide) (by decide) (by decide) (rest := []) rfl rfl ?_
  rintro _ h30_3 ⟨rfl, KpP, A_b1'⟩
  have O := O.keep KpP (allS g_b1 all0)
  have Z0 := Nat.le_trans Z0 KpP.1
  have F_s_value := F_s_value.keep KpP (ninS ne_s_b1 nin0)
  have F_s_coder := F_s_coder.keep KpP (ninS ne_s_b1 nin0)
  have F_x_value := F_x_value.keep KpP (ninS ne_x_b1 nin0)
  have F_x_coder := F_x_coder.keep KpP (ninS ne_x_b1 nin0)
  have F_x_count := F_x_count.keep KpP (ninS ne_x_b1 nin0)
  have E_x := E_x.keep KpP
  have E_s := E_s.keep KpP
  have E_b1 := E_b1.keep KpP
  have A_y := A_y.keep KpP (ninS ne_y_b1 nin0)
  have K0 := K0.trans KpP (allS kp_b1 all0)
  have A_b1 := A_b1'
  show N G K rm20 Q h30_3 1 34 33 #[.val (.ref x), .val (.ref s), .val (.int r)] []
  refine N.aloadN C (pc' := 34) d20_33 rfl rfl rfl ?_
  refine N.dup C (pc' := 35) d20_34 rfl rfl ?_
  refine N.getF C (pc' := 38) d20_35 (C.w (i := 145) rfl) F_x_count rfl ?_
  refine N.iloadN C (pc' := 39) d20_38 rfl rfl ?_
  refine N.iadd C (pc' := 40) d20_39 rfl ?_
  refine N.putF C (pc' := 43) d20_40 (C.w (i := 145) rfl) F_x_count E_x (Or.inl (C.w (i := 146) rfl)) (C.w (i := 108) rfl) (ty := .int) (by decide) rfl rfl g_x rfl (fun h40_4 W40 => ?_)
  have O := O.wr W40 g_x
  have Z0 : G.n0 ≤ _ := (Wr.size W40).symm ▸ Z0
  have F_s_value := F_s_value.other W40 (Or.inl ne_s_x)
  have F_s_coder := F_s_coder.other W40 (Or.inl ne_s_x)
  have F_x_value := F_x_value.other W40 (Or.inr (slot_ne (Or.inl (C.w (i := 122) rfl)) (Or.inl (C.w (i := 146) rfl)) (by decide) (t := (.array .byte)) (t' := .int) (by decide) (by decide)))
  have F_x_coder := F_x_coder.other W40 (Or.inr (slot_ne (Or.inl (C.w (i := 124) rfl)) (Or.inl (C.w (i := 146) rfl)) (by decide) (t := .byte) (t' := .int) (by decide) (by decide)))
  have F_x_count := F_x_count.same W40
  have E_x := E_x.wr W40
  have E_s := E_s.wr W40
  have E_b1 := E_b1.wr W40
  have A_y := A_y.other W40 ne_y_x
  have A_b1 := A_b1.other W40 ne_b1_x
  have K0 := K0.wr W40 (Or.inl (List.mem_of_getElem? (i := 0) rfl))
  refine N.aloadN C (pc' := 44) d20_43 rfl rfl rfl ?_
  exact N.retA C rfl rfl d20_44 (by decide) (by decide) (by subst hQ; exact ⟨rfl, K0, b1, _, _, ⟨E_x, F_x_value, F_x_coder, F_x_count, A_b1, E_b1, ne_x_b1, g_x, g_b1, by rw [List.length_append]; exact own_add B.cnt hr (by omega) (by omega), own_pfApp B1.pf, own_byA (own_byA (own_byT _ B1.by') hzb) (own_byD _ B1.by'), by rw [own_capApp hcap1]; exact B1.cap⟩, hb1⟩)
set_option maxRecDepth 65536 in
set_option maxHeartbeats 40000000 in
theorem con19 (G : Gx) (hw : ∀ d ∈ tables_1, d.before G.a0 G.Z = true) (x b s y : Addr) (n : Int32) (bs cs zs : List Int32) (cp : Int32) (dO dT us sn : Addr) (h : Heap) (hl : cs.length + zs.length ≤ 18) (hzb : own_by zs) (SS : Ss G cp dO dT us sn) (O : Old G.Z G.n0 h) (Z0 : G.n0 ≤ h.size) (ne_s_x : s ≠ x) (ne_y_x : y ≠ x) (ne_s_b : s ≠ b) (ne_y_b : y ≠ b) (B : Sb G h x b n bs cs) (E_s : Exa G.Z h s "java/lang/String") (F_s_coder : Fld G.Z h s "java/lang/String" "coder" "B" (.int (0 : Int32))) (F_s_value : Fld G.Z h s "java/lang/String" "value" "[B" (.ref y)) (A_y : Av G.Z h y .byte (zs.map .int)) :
    Con G (⟨"java/lang/StringBuilder", "append", "(Ljava/lang/String;)Ljava/lang/StringBuilder;"⟩ : MethodName) jdk_67_method_7_code 2 (some (.object "java/lang/StringBuilder")) rm19 #[(.ref x), (.ref s)] h (fun v h' => v = some (.ref x) ∧ Keep h h' [x, b] ∧ ∃ (b' : Addr) (n' : Int32) (bs' : List Int32), Sb G h' x b' n' bs' (cs ++ zs) ∧ (b' = b ∨ h.size ≤ b')) := by
  refine Con.of (W := tables_1) (plainFor_of_name pn19) hw (fun mm => ef19 mm x s) (fun K C => ?_)
  have C : Cx G K "java/lang/StringBuilder" "append" jdk_67_method_7_code 2 (some (.object "java/lang/StringBuilder")) tables_1 := C
  generalize hQ : (fun v h' => v = some (.ref x) ∧ Keep h h' [x, b] ∧ ∃ (b' : Addr) (n' : Int32) (bs' : List Int32), Sb G h' x b' n' bs' (cs ++ zs) ∧ (b' = b ∨ h.size ≤ b') : Option Value → Heap → Prop) = Q
  have E_x := B.E
  refine N.aloadN C (pc' := 1) d19_0 rfl rfl rfl ?_
  refine N.aloadN C (pc' := 2) d19_1 rfl rfl rfl ?_
  refine N.callU C (pc' := 5) x [(.ref s)] d19_2 (by decide) (C.w (i := 130) rfl) (C.w (i := 150) rfl) rfl (C.w (i := 131) rfl) (C.w (i := 132) rfl) (C.w (i := 117) rfl) (C.w (i := 134) rfl) (by decide) E_x (con20 G hw x b s y n bs cs zs cp dO dT us sn h hl hzb SS O Z0 ne_s_x ne_y_x ne_s_b ne_y_b B E_s F_s_coder F_s_value A_y) (lenOf pd__Ljava_lang_String__Ljava_lang_AbstractStringBuilder_ rfl) rfl (by decide) (show 0 + (3 + 11) + _ ≤ _ from by decide) (by decide) (by decide) (rest := []) rfl rfl ?_
  rintro _ h2_1 ⟨rfl, Kp, R⟩
  show N G K rm19 Q h2_1 1 34 5 #[.val (.ref x), .val (.ref s)] [(.ref x)]
  refine N.pop C (pc' := 6) d19_5 rfl rfl ?_
  refine N.aloadN C (pc' := 7) d19_6 rfl rfl rfl ?_
  exact N.retA C rfl rfl d19_7 (by decide) (by decide) (by subst hQ; exact ⟨rfl, Kp, R⟩)
set_option maxRecDepth 65536 in
set_option maxHeartbeats 40000000 in
theorem con29 (G : Gx) (hw : ∀ d ∈ tables_1, d.before G.a0 G.Z = true) (x : Int32) (h : Heap) :
    Con G (⟨"java/lang/Integer", "stringSize", "(I)I"⟩ : MethodName) jdk_33_method_13_code 4 (some .int) rm29 #[(.int x)] h (fun v h' => ∃ r : Int32, v = some (.int r) ∧ h = h' ∧ r.toInt = ((own_dec x).length : Nat)) := by
  refine Con.of (W := tables_1) (plainFor_of_name pn29) hw (fun mm => ef29 mm x) (fun K C => ?_)
  have C : Cx G K "java/lang/Integer" "stringSize" jdk_33_method_13_code 4 (some .int) tables_1 := C
  generalize hQ : (fun v h' => ∃ r : Int32, v = some (.int r) ∧ h = h' ∧ r.toInt = ((own_dec x).length : Nat) : Option Value → Heap → Prop) = Q
  have tail : ∀ (z d : Int32) (n e : Nat), z.toInt = -(n : Int) → n ≤ 2147483648 → d.toInt = (e : Nat) → e ≤ 1 → (∀ r : Int32, r.toInt = (((own_dg n).length + e : Nat) : Int) → Q (some (.int r)) h) → N G K rm29 Q h 0 0 11 #[.val (.int z), .val (.int d), .unset, .unset] [] := by
    intro z d n e hz hn hd he hq
    refine N.bipush C (pc' := 13) (z := -10) d29_11 rfl rfl ?_
    refine N.istoreN C (pc' := 14) (ls' := #[.val (.int z), .val (.int d), .val (.int (-10 : Int32)), .unset]) d29_13 rfl rfl ?_
    refine N.iconst C (pc' := 15) (z := 1) d29_14 rfl rfl ?_
    refine N.istoreN C (pc' := 16) (ls' := #[.val (.int z), .val (.int d), .val (.int (-10 : Int32)), .val (.int (1 : Int32))]) d29_15 rfl rfl ?_
    refine N.iloadN C (pc' := 17) d29_16 rfl rfl ?_
    refine N.bipush C (pc' := 19) (z := 10) d29_17 rfl rfl ?_
    refine N.icmp C (pt := 42) (pf := 22) d29_19 rfl rfl (fun (q : 10 ≤ 1) => absurd q (by decide)) (fun _ => ?_)
    refine N.iloadN C (pc' := 23) d29_22 rfl rfl ?_
    refine N.iloadN C (pc' := 24) d29_23 rfl rfl ?_
    refine N.icmp C (pt := 31) (pf := 27) d29_24 rfl rfl (fun (hc24 : z.toInt ≤ (-10)) => ?_) (fun (hc24 : (-10) < z.toInt) => ?_)
    · refine N.bipush C (pc' := 33) (z := 10) d29_31 rfl rfl ?_
      refine N.iloadN C (pc' := 34) d29_33 rfl rfl ?_
      refine N.imul C (pc' := 35) d29_34 rfl ?_
      show N G K rm29 Q h 0 0 35 #[.val (.int z), .val (.int d), .val (.int (-10 : Int32)), .val (.int (1 : Int32))] [(.int (-100 : Int32))]
      refine N.istoreN C (pc' := 36) (ls' := #[.val (.int z), .val (.int d), .val (.int (-100 : Int32)), .val (.int (1 : Int32))]) d29_35 rfl rfl ?_
      refine N.iinc C (pc' := 39) (z := 1) (ls' := #[.val (.int z), .val (.int d), .val (.int (-100 : Int32)), .val (.int (2 : Int32))]) d29_36 rfl rfl rfl rfl ?_
      refine N.goto C (pc' := 16) d29_39 rfl ?_
      refine N.iloadN C (pc' := 17) d29_16 rfl rfl ?_
      refine N.bipush C (pc' := 19) (z := 10) d29_17 rfl rfl ?_
      refine N.icmp C (pt := 42) (pf := 22) d29_19 rfl rfl (fun (q : 10 ≤ 2) => absurd q (by decide)) (fun _ => ?_)
      refine N.iloadN C (pc' := 23) d29_22 rfl rfl ?_
      refine N.iloadN C (pc' := 24) d29_23 rfl rfl ?_
      refine N.icmp C (pt := 31) (pf := 27) d29_24 rfl rfl (fun (hc24 : z.toInt ≤ (-100)) => ?_) (fun (hc24 : (-100) < z.toInt) => ?_)
      · refine N.bipush C (pc' := 33) (z := 10) d29_31 rfl rfl ?_
        refine N.iloadN C (pc' := 34) d29_33 rfl rfl ?_
        refine N.imul C (pc' := 35) d29_34 rfl ?_
        show N G K rm29 Q h 0 0 35 #[.val (.int z), .val (.int d), .val (.int (-100 : Int32)), .val (.int (2 : Int32))] [(.int (-1000 : Int32))]
        refine N.istoreN C (pc' := 36) (ls' := #[.val (.int z), .val (.int d), .val (.int (-1000 : Int32)), .val (.int (2 : Int32))]) d29_35 rfl rfl ?_
        refine N.iinc C (pc' := 39) (z := 1) (ls' := #[.val (.int z), .val (.int d), .val (.int (-1000 : Int32)), .val (.int (3 : Int32))]) d29_36 rfl rfl rfl rfl ?_
        refine N.goto C (pc' := 16) d29_39 rfl ?_
        refine N.iloadN C (pc' := 17) d29_16 rfl rfl ?_
        refine N.bipush C (pc' := 19) (z := 10) d29_17 rfl rfl ?_
        refine N.icmp C (pt := 42) (pf := 22) d29_19 rfl rfl (fun (q : 10 ≤ 3) => absurd q (by decide)) (fun _ => ?_)
        refine N.iloadN C (pc' := 23) d29_22 rfl rfl ?_
        refine N.iloadN C (pc' := 24) d29_23 rfl rfl ?_
        refine N.icmp C (pt := 31) (pf := 27) d29_24 rfl rfl (fun (hc24 : z.toInt ≤ (-1000)) => ?_) (fun (hc24 : (-1000) < z.toInt) => ?_)
        · refine N.bipush C (pc' := 33) (z := 10) d29_31 rfl rfl ?_
          refine N.iloadN C (pc' := 34) d29_33 rfl rfl ?_
          refine N.imul C (pc' := 35) d29_34 rfl ?_
          show N G K rm29 Q h 0 0 35 #[.val (.int z), .val (.int d), .val (.int (-1000 : Int32)), .val (.int (3 : Int32))] [(.int (-10000 : Int32))]
          refine N.istoreN C (pc' := 36) (ls' := #[.val (.int z), .val (.int d), .val (.int (-10000 : Int32)), .val (.int (3 : Int32))]) d29_35 rfl rfl ?_
          refine N.iinc C (pc' := 39) (z := 1) (ls' := #[.val (.int z), .val (.int d), .val (.int (-10000 : Int32)), .val (.int (4 : Int32))]) d29_36 rfl rfl rfl rfl ?_
          refine N.goto C (pc' := 16) d29_39 rfl ?_
          refine N.iloadN C (pc' := 17) d29_16 rfl rfl ?_
          refine N.bipush C (pc' := 19) (z := 10) d29_17 rfl rfl ?_
          refine N.icmp C (pt := 42) (pf := 22) d29_19 rfl rfl (fun (q : 10 ≤ 4) => absurd q (by decide)) (fun _ => ?_)
          refine N.iloadN C (pc' := 23) d29_22 rfl rfl ?_
          refine N.iloadN C (pc' := 24) d29_23 rfl rfl ?_
          refine N.icmp C (pt := 31) (pf := 27) d29_24 rfl rfl (fun (hc24 : z.toInt ≤ (-10000)) => ?_) (fun (hc24 : (-10000) < z.toInt) => ?_)
          · refine N.bipush C (pc' := 33) (z := 10) d29_31 rfl rfl ?_
            refine N.iloadN C (pc' := 34) d29_33 rfl rfl ?_
            refine N.imul C (pc' := 35) d29_34 rfl ?_
            show N G K rm29 Q h 0 0 35 #[.val (.int z), .val (.int d), .val (.int (-10000 : Int32)), .val (.int (4 : Int32))] [(.int (-100000 : Int32))]
            refine N.istoreN C (pc' := 36) (ls' := #[.val (.int z), .val (.int d), .val (.int (-100000 : Int32)), .val (.int (4 : Int32))]) d29_35 rfl rfl ?_
            refine N.iinc C (pc' := 39) (z := 1) (ls' := #[.val (.int z), .val (.int d), .val (.int (-100000 : Int32)), .val (.int (5 : Int32))]) d29_36 rfl rfl rfl rfl ?_
            refine N.goto C (pc' := 16) d29_39 rfl ?_
            refine N.iloadN C (pc' := 17) d29_16 rfl rfl ?_
            refine N.bipush C (pc' := 19) (z := 10) d29_17 rfl rfl ?_
            refine N.icmp C (pt := 42) (pf := 22) d29_19 rfl rfl (fun (q : 10 ≤ 5) => absurd q (by decide)) (fun _ => ?_)
            refine N.iloadN C (pc' := 23) d29_22 rfl rfl ?_
            refine N.iloadN C (pc' := 24) d29_23 rfl rfl ?_
            refine N.icmp C (pt := 31) (pf := 27) d29_24 rfl rfl (fun (hc24 : z.toInt ≤ (-100000)) => ?_) (fun (hc24 : (-100000) < z.toInt) => ?_)
            · refine N.bipush C (pc' := 33) (z := 10) d29_31 rfl rfl ?_
              refine N.iloadN C (pc' := 34) d29_33 rfl rfl ?_
              refine N.imul C (pc' := 35) d29_34 rfl ?_
              show N G K rm29 Q h 0 0 35 #[.val (.int z), .val (.int d), .val (.int (-100000 : Int32)), .val (.int (5 : Int32))] [(.int (-1000000 : Int32))]
              refine N.istoreN C (pc' := 36) (ls' := #[.val (.int z), .val (.int d), .val (.int (-1000000 : Int32)), .val (.int (5 : Int32))]) d29_35 rfl rfl ?_
              refine N.iinc C (pc' := 39) (z := 1) (ls' := #[.val (.int z), .val (.int d), .val (.int (-1000000 : Int32)), .val (.int (6 : Int32))]) d29_36 rfl rfl rfl rfl ?_
              refine N.goto C (pc' := 16) d29_39 rfl ?_
              refine N.iloadN C (pc' := 17) d29_16 rfl rfl ?_
              refine N.bipush C (pc' := 19) (z := 10) d29_17 rfl rfl ?_
              refine N.icmp C (pt := 42) (pf := 22) d29_19 rfl rfl (fun (q : 10 ≤ 6) => absurd q (by decide)) (fun _ => ?_)
              refine N.iloadN C (pc' := 23) d29_22 rfl rfl ?_
              refine N.iloadN C (pc' := 24) d29_23 rfl rfl ?_
              refine N.icmp C (pt := 31) (pf := 27) d29_24 rfl rfl (fun (hc24 : z.toInt ≤ (-1000000)) => ?_) (fun (hc24 : (-1000000) < z.toInt) => ?_)
              · refine N.bipush C (pc' := 33) (z := 10) d29_31 rfl rfl ?_
                refine N.iloadN C (pc' := 34) d29_33 rfl rfl ?_
                refine N.imul C (pc' := 35) d29_34 rfl ?_
                show N G K rm29 Q h 0 0 35 #[.val (.int z), .val (.int d), .val (.int (-1000000 : Int32)), .val (.int (6 : Int32))] [(.int (-10000000 : Int32))]
                refine N.istoreN C (pc' := 36) (ls' := #[.val (.int z), .val (.int d), .val (.int (-10000000 : Int32)), .val (.int (6 : Int32))]) d29_35 rfl rfl ?_
                refine N.iinc C (pc' := 39) (z := 1) (ls' := #[.val (.int z), .val (.int d), .val (.int (-10000000 : Int32)), .val (.int (7 : Int32))]) d29_36 rfl rfl rfl rfl ?_
                refine N.goto C (pc' := 16) d29_39 rfl ?_
                refine N.iloadN C (pc' := 17) d29_16 rfl rfl ?_
                refine N.bipush C (pc' := 19) (z := 10) d29_17 rfl rfl ?_
                refine N.icmp C (pt := 42) (pf := 22) d29_19 rfl rfl (fun (q : 10 ≤ 7) => absurd q (by decide)) (fun _ => ?_)
                refine N.iloadN C (pc' := 23) d29_22 rfl rfl ?_
                refine N.iloadN C (pc' := 24) d29_23 rfl rfl ?_
                refine N.icmp C (pt := 31) (pf := 27) d29_24 rfl rfl (fun (hc24 : z.toInt ≤ (-10000000)) => ?_) (fun (hc24 : (-10000000) < z.toInt) => ?_)
                · refine N.bipush C (pc' := 33) (z := 10) d29_31 rfl rfl ?_
                  refine N.iloadN C (pc' := 34) d29_33 rfl rfl ?_
                  refine N.imul C (pc' := 35) d29_34 rfl ?_
                  show N G K rm29 Q h 0 0 35 #[.val (.int z), .val (.int d), .val (.int (-10000000 : Int32)), .val (.int (7 : Int32))] [(.int (-100000000 : Int32))]
                  refine N.istoreN C (pc' := 36) (ls' := #[.val (.int z), .val (.int d), .val (.int (-100000000 : Int32)), .val (.int (7 : Int32))]) d29_35 rfl rfl ?_
                  refine N.iinc C (pc' := 39) (z := 1) (ls' := #[.val (.int z), .val (.int d), .val (.int (-100000000 : Int32)), .val (.int (8 : Int32))]) d29_36 rfl rfl rfl rfl ?_
                  refine N.goto C (pc' := 16) d29_39 rfl ?_
                  refine N.iloadN C (pc' := 17) d29_16 rfl rfl ?_
                  refine N.bipush C (pc' := 19) (z := 10) d29_17 rfl rfl ?_
                  refine N.icmp C (pt := 42) (pf := 22) d29_19 rfl rfl (fun (q : 10 ≤ 8) => absurd q (by decide)) (fun _ => ?_)
                  refine N.iloadN C (pc' := 23) d29_22 rfl rfl ?_
                  refine N.iloadN C (pc' := 24) d29_23 rfl rfl ?_
                  refine N.icmp C (pt := 31) (pf := 27) d29_24 rfl rfl (fun (hc24 : z.toInt ≤ (-100000000)) => ?_) (fun (hc24 : (-100000000) < z.toInt) => ?_)
                  · refine N.bipush C (pc' := 33) (z := 10) d29_31 rfl rfl ?_
                    refine N.iloadN C (pc' := 34) d29_33 rfl rfl ?_
                    refine N.imul C (pc' := 35) d29_34 rfl ?_
                    show N G K rm29 Q h 0 0 35 #[.val (.int z), .val (.int d), .val (.int (-100000000 : Int32)), .val (.int (8 : Int32))] [(.int (-1000000000 : Int32))]
                    refine N.istoreN C (pc' := 36) (ls' := #[.val (.int z), .val (.int d), .val (.int (-1000000000 : Int32)), .val (.int (8 : Int32))]) d29_35 rfl rfl ?_
                    refine N.iinc C (pc' := 39) (z := 1) (ls' := #[.val (.int z), .val (.int d), .val (.int (-1000000000 : Int32)), .val (.int (9 : Int32))]) d29_36 rfl rfl rfl rfl ?_
                    refine N.goto C (pc' := 16) d29_39 rfl ?_
                    refine N.iloadN C (pc' := 17) d29_16 rfl rfl ?_
                    refine N.bipush C (pc' := 19) (z := 10) d29_17 rfl rfl ?_
                    refine N.icmp C (pt := 42) (pf := 22) d29_19 rfl rfl (fun (q : 10 ≤ 9) => absurd q (by decide)) (fun _ => ?_)
                    refine N.iloadN C (pc' := 23) d29_22 rfl rfl ?_
                    refine N.iloadN C (pc' := 24) d29_23 rfl rfl ?_
                    refine N.icmp C (pt := 31) (pf := 27) d29_24 rfl rfl (fun (hc24 : z.toInt ≤ (-1000000000)) => ?_) (fun (hc24 : (-1000000000) < z.toInt) => ?_)
                    · refine N.bipush C (pc' := 33) (z := 10) d29_31 rfl rfl ?_
                      refine N.iloadN C (pc' := 34) d29_33 rfl rfl ?_
                      refine N.imul C (pc' := 35) d29_34 rfl ?_
                      show N G K rm29 Q h 0 0 35 #[.val (.int z), .val (.int d), .val (.int (-1000000000 : Int32)), .val (.int (9 : Int32))] [(.int (-1410065408 : Int32))]
                      refine N.istoreN C (pc' := 36) (ls' := #[.val (.int z), .val (.int d), .val (.int (-1410065408 : Int32)), .val (.int (9 : Int32))]) d29_35 rfl rfl ?_
                      refine N.iinc C (pc' := 39) (z := 1) (ls' := #[.val (.int z), .val (.int d), .val (.int (-1410065408 : Int32)), .val (.int (10 : Int32))]) d29_36 rfl rfl rfl rfl ?_
                      refine N.goto C (pc' := 16) d29_39 rfl ?_
                      refine N.iloadN C (pc' := 17) d29_16 rfl rfl ?_
                      refine N.bipush C (pc' := 19) (z := 10) d29_17 rfl rfl ?_
                      refine N.icmp C (pt := 42) (pf := 22) d29_19 rfl rfl (fun _ => ?_) (fun (q : 10 < 10) => absurd q (by decide))
                      refine N.bipush C (pc' := 44) (z := 10) d29_42 rfl rfl ?_
                      refine N.iloadN C (pc' := 45) d29_44 rfl rfl ?_
                      refine N.iadd C (pc' := 46) d29_45 rfl ?_
                      exact N.retI C d29_46 (by decide) (by decide) (hq _ (by rw [own_dgl 9 (show n < 10000000000 from by omega) (Or.inr (show 1000000000 ≤ n from by omega))]; exact own_kd (i := 10) (by decide) hd (by decide) he))
                    · refine N.iloadN C (pc' := 28) d29_27 rfl rfl ?_
                      refine N.iloadN C (pc' := 29) d29_28 rfl rfl ?_
                      refine N.iadd C (pc' := 30) d29_29 rfl ?_
                      exact N.retI C d29_30 (by decide) (by decide) (hq _ (by rw [own_dgl 8 (show n < 1000000000 from by omega) (Or.inr (show 100000000 ≤ n from by omega))]; exact own_kd (i := 9) (by decide) hd (by decide) he))
                  · refine N.iloadN C (pc' := 28) d29_27 rfl rfl ?_
                    refine N.iloadN C (pc' := 29) d29_28 rfl rfl ?_
                    refine N.iadd C (pc' := 30) d29_29 rfl ?_
                    exact N.retI C d29_30 (by decide) (by decide) (hq _ (by rw [own_dgl 7 (show n < 100000000 from by omega) (Or.inr (show 10000000 ≤ n from by omega))]; exact own_kd (i := 8) (by decide) hd (by decide) he))
                · refine N.iloadN C (pc' := 28) d29_27 rfl rfl ?_
                  refine N.iloadN C (pc' := 29) d29_28 rfl rfl ?_
                  refine N.iadd C (pc' := 30) d29_29 rfl ?_
                  exact N.retI C d29_30 (by decide) (by decide) (hq _ (by rw [own_dgl 6 (show n < 10000000 from by omega) (Or.inr (show 1000000 ≤ n from by omega))]; exact own_kd (i := 7) (by decide) hd (by decide) he))
              · refine N.iloadN C (pc' := 28) d29_27 rfl rfl ?_
                refine N.iloadN C (pc' := 29) d29_28 rfl rfl ?_
                refine N.iadd C (pc' := 30) d29_29 rfl ?_
                exact N.retI C d29_30 (by decide) (by decide) (hq _ (by rw [own_dgl 5 (show n < 1000000 from by omega) (Or.inr (show 100000 ≤ n from by omega))]; exact own_kd (i := 6) (by decide) hd (by decide) he))
            · refine N.iloadN C (pc' := 28) d29_27 rfl rfl ?_
              refine N.iloadN C (pc' := 29) d29_28 rfl rfl ?_
              refine N.iadd C (pc' := 30) d29_29 rfl ?_
              exact N.retI C d29_30 (by decide) (by decide) (hq _ (by rw [own_dgl 4 (show n < 100000 from by omega) (Or.inr (show 10000 ≤ n from by omega))]; exact own_kd (i := 5) (by decide) hd (by decide) he))
          · refine N.iloadN C (pc' := 28) d29_27 rfl rfl ?_
            refine N.iloadN C (pc' := 29) d29_28 rfl rfl ?_
            refine N.iadd C (pc' := 30) d29_29 rfl ?_
            exact N.retI C d29_30 (by decide) (by decide) (hq _ (by rw [own_dgl 3 (show n < 10000 from by omega) (Or.inr (show 1000 ≤ n from by omega))]; exact own_kd (i := 4) (by decide) hd (by decide) he))
        · refine N.iloadN C (pc' := 28) d29_27 rfl rfl ?_
          refine N.iloadN C (pc' := 29) d29_28 rfl rfl ?_
          refine N.iadd C (pc' := 30) d29_29 rfl ?_
          exact N.retI C d29_30 (by decide) (by decide) (hq _ (by rw [own_dgl 2 (show n < 1000 from by omega) (Or.inr (show 100 ≤ n from by omega))]; exact own_kd (i := 3) (by decide) hd (by decide) he))
      · refine N.iloadN C (pc' := 28) d29_27 rfl rfl ?_
        refine N.iloadN C (pc' := 29) d29_28 rfl rfl ?_
        refine N.iadd C (pc' := 30) d29_29 rfl ?_
        exact N.retI C d29_30 (by decide) (by decide) (hq _ (by rw [own_dgl 1 (show n < 100 from by omega) (Or.inr (show 10 ≤ n from by omega))]; exact own_kd (i := 2) (by decide) hd (by decide) he))
    · refine N.iloadN C (pc' := 28) d29_27 rfl rfl ?_
      refine N.iloadN C (pc' := 29) d29_28 rfl rfl ?_
      refine N.iadd C (pc' := 30) d29_29 rfl ?_
      exact N.retI C d29_30 (by decide) (by decide) (hq _ (by rw [own_dgl 0 (show n < 10 from by omega) (Or.inl rfl)]; exact own_kd (i := 1) (by decide) hd (by decide) he))
  refine N.iconst C (pc' := 1) (z := 1) d29_0 rfl rfl ?_
  refine N.istoreN C (pc' := 2) (ls' := #[.val (.int x), .val (.int (1 : Int32)), .unset, .unset]) d29_1 rfl rfl ?_
  refine N.iloadN C (pc' := 3) d29_2 rfl rfl ?_
  refine N.ifc C (pt := 11) (pf := 6) d29_3 rfl rfl (fun (hc3 : x.toInt < 0) => ?_) (fun (hc3 : 0 ≤ x.toInt) => ?_)
  · exact tail x 1 (own_mag x) 1 (by unfold own_mag; omega) (own_magB x) (by decide) (by decide) (fun r hr => by subst hQ; exact ⟨r, rfl, rfl, by rw [own_szN (by omega)]; exact hr⟩)
  · refine N.iconst C (pc' := 7) (z := 0) d29_6 rfl rfl ?_
    refine N.istoreN C (pc' := 8) (ls' := #[.val (.int x), .val (.int (0 : Int32)), .unset, .unset]) d29_7 rfl rfl ?_
    refine N.iloadN C (pc' := 9) d29_8 rfl rfl ?_
    refine N.ineg C (pc' := 10) d29_9 rfl ?_
    refine N.istoreN C (pc' := 11) (ls' := #[.val (.int (-x)), .val (.int (0 : Int32)), .unset, .unset]) d29_10 rfl rfl ?_
    exact tail _ 0 (own_mag x) 0 (by have h1 := c_ineg x; have h2 := rng32 (-x); have h3 := rng32 x; unfold own_mag; omega) (own_magB x) (by decide) (by decide) (fun r hr => by subst hQ; exact ⟨r, rfl, rfl, by rw [own_szP (by omega)]; exact hr⟩)
set_option maxRecDepth 65536 in
set_option maxHeartbeats 40000000 in
theorem con30 (G : Gx) (hw : ∀ d ∈ tables_1, d.before G.a0 G.Z = true) (x : Addr) (cp : Int32) (dO dT us sn : Addr) (h : Heap) (SS : Ss G cp dO dT us sn) (O : Old G.Z G.n0 h) (F_x_coder : Fld G.Z h x "java/lang/AbstractStringBuilder" "coder" "B" (.int (0 : Int32))) :
    Con G (⟨"java/lang/AbstractStringBuilder", "isLatin1", "()Z"⟩ : MethodName) jdk_68_method_68_code 1 (some .boolean) rm30 #[(.ref x)] h (fun v h' => v = some (.int 1) ∧ h = h') := by
  refine Con.of (W := tables_1) (plainFor_of_name pn30) hw (fun mm => ef30 mm x) (fun K C => ?_)
  have C : Cx G K "java/lang/AbstractStringBuilder" "isLatin1" jdk_68_method_68_code 1 (some .boolean) tables_1 := C
  generalize hQ : (fun v h' => v = some (.int 1) ∧ h = h' : Option Value → Heap → Prop) = Q
  have S_COMPACT_STRINGS := SS.s0.ext O.2
  refine N.getS C (pc' := 3) d30_0 (C.w (i := 120) rfl) S_COMPACT_STRINGS rfl ?_
  refine N.ifc C (pt := 17) (pf := 6) d30_3 rfl rfl (fun (hc3 : cp = (0 : Int32)) => absurd (show False from by exact SS.cp0 hc3) id) (fun (hc3 : ¬ cp = (0 : Int32)) => ?_)
  refine N.aloadN C (pc' := 7) d30_6 rfl rfl rfl ?_
  refine N.getF C (pc' := 10) d30_7 (C.w (i := 123) rfl) F_x_coder rfl ?_
  refine N.ifc C (pt := 17) (pf := 13) d30_10 rfl rfl (fun (q : ¬ (0 : Int32) = (0 : Int32)) => absurd q (by decide)) (fun _ => ?_)
  refine N.iconst C (pc' := 14) (z := 1) d30_13 rfl rfl ?_
  refine N.goto C (pc' := 18) d30_14 rfl ?_
  exact N.retN C (by simp) (z' := (1 : Int32)) rfl d30_18 (by decide) (by decide) (by subst hQ; exact ⟨rfl, rfl⟩)
set_option maxRecDepth 65536 in
set_option maxHeartbeats 40000000 in
theorem con31 (G : Gx) (hw : ∀ d ∈ tables_1, d.before G.a0 G.Z = true) (x i : Int32) (b : Addr) (bs cs : List Int32) (cp : Int32) (dO dT us sn : Addr) (h : Heap) (hi : i.toInt = ((cs ++ own_dec x).length : Nat)) (hl : (cs ++ own_dec x).length ≤ bs.length) (hb1 : bs.length < 1000) (pf : own_pf bs cs) (hby : own_by bs) (SS : Ss G cp dO dT us sn) (O : Old G.Z G.n0 h) (Z0 : G.n0 ≤ h.size) (g_b : G.n0 ≤ b) (A_b : Av G.Z h b .byte (bs.map .int)) :
    Con G (⟨"java/lang/Integer", "getChars", "(II[B)I"⟩ : MethodName) jdk_33_method_12_code 7 (some .int) rm31 #[(.int x), (.int i), (.ref b)] h (fun v h' => ∃ (r : Int32) (bs' : List Int32), v = some (.int r) ∧ Keep h h' [b] ∧ Av G.Z h' b .byte (bs'.map .int) ∧ bs'.length = bs.length ∧ own_pf bs' (cs ++ own_dec x) ∧ own_by bs') := by
  refine Con.of (W := tables_1) (plainFor_of_name pn31) hw (fun mm => ef31 mm x i b) (fun K C => ?_)
  have C : Cx G K "java/lang/Integer" "getChars" jdk_33_method_12_code 7 (some .int) tables_1 := C
  generalize hQ : (fun v h' => ∃ (r : Int32) (bs' : List Int32), v = some (.int r) ∧ Keep h h' [b] ∧ Av G.Z h' b .byte (bs'.map .int) ∧ bs'.length = bs.length ∧ own_pf bs' (cs ++ own_dec x) ∧ own_by bs' : Option Value → Heap → Prop) = Q
  have K0 : Keep h h [b] := Keep.refl _ _
  obtain ⟨W, hW0⟩ : ∃ W, W = cs ++ own_dec x := ⟨_, rfl⟩
  have hWl : W.length ≤ bs.length := by rw [hW0]; exact hl
  have ne_dO_b : dO ≠ b := Nat.ne_of_lt (Nat.lt_of_lt_of_le (O.1 ▸ SS.aO.lt) g_b)
  have ne_dT_b : dT ≠ b := Nat.ne_of_lt (Nat.lt_of_lt_of_le (O.1 ▸ SS.aT.lt) g_b)
  have loop : ∀ (m : Nat) (h1 : Heap) (z p sg : Int32) (s3 s4 : Slot) (n : Nat) (T us : List Int32), n ≤ m → z.toInt = -(n : Int) → n ≤ 2147483648 → W = cs ++ own_sg x ++ own_dg n ++ T → p.toInt = ((cs ++ own_sg x ++ own_dg n).length : Nat) → us.length = bs.length → own_gc us W cs.length (cs ++ own_sg x ++ own_dg n).length → ((s3 = .unset ∧ s4 = .unset) ∨ ∃ l3 l4 : Int32, s3 = .val (.int l3) ∧ s4 = .val (.int l4)) → ((sg = 0 ∧ own_sg x = []) ∨ (sg = 1 ∧ own_sg x = [45])) → Av G.Z h1 b .byte (us.map .int) → Keep h h1 [b] → G.n0 ≤ h1.size → Old G.Z G.n0 h1 → N G K rm31 Q h1 0 0 22 #[.val (.int z), .val (.int i), .val (.ref b), s3, s4, .val (.int p), .val (.int sg)] [] := by
    intro m
    induction m using Nat.strongRecOn with
    | _ m ih =>
    intro h1 z p sg s3 s4 n T us hm hz hn hW hp hul hg hsl hsg A_b K0 Z0 O
    have A_dO := SS.aO.ext O.2
    have A_dT := SS.aT.ext O.2
    rcases hsl with ⟨rfl, rfl⟩ | ⟨l3, l4, rfl, rfl⟩
    · show N G K rm31 Q h1 0 0 22 #[.val (.int z), .val (.int i), .val (.ref b), .unset, .unset, .val (.int p), .val (.int sg)] []
      refine N.iloadN C (pc' := 23) d31_22 rfl rfl ?_
      refine N.bipush C (pc' := 25) (z := -100) d31_23 rfl rfl ?_
      refine N.icmp C (pt := 72) (pf := 28) d31_25 rfl rfl (fun (hc25 : (-100) < z.toInt) => ?_) (fun (hc25 : z.toInt ≤ (-100)) => ?_)
      · have h100 : n < 100 := own_z99 hz hc25
        obtain ⟨D, hD, hD2⟩ := own_last (cs ++ own_sg x) h100
        have hWD : W = D ++ own_dv (n % 10) :: T := by rw [hW, hD]; simp
        have hlen : (cs ++ own_sg x ++ own_dg n).length = D.length + 1 := by rw [hD, List.length_append]; rfl
        have hWl2 : D.length + 1 ≤ bs.length := own_wl1 hWl hWD
        have g1 := own_gcS (v := own_dv (n % 10)) hg hlen (by rw [hWD]; exact own_at1 D _ _) (own_j1 hWl2 hul) (own_dvB (own_m3 n))
        have hp1 := own_pm1 (p := p) (k := D.length) (by rw [hp, hlen]) (own_k1 hWl2 hb1)
        refine N.aloadN C (pc' := 73) d31_72 rfl rfl rfl ?_
        refine N.iinc C (pc' := 76) (z := -1) (ls' := #[.val (.int z), .val (.int i), .val (.ref b), .unset, .unset, .val (.int (p + (-1 : Int32))), .val (.int sg)]) d31_73 rfl rfl rfl rfl ?_
        refine N.iload C (pc' := 78) d31_76 rfl rfl ?_
        have S_DigitOnes := SS.sO.ext O.2
        refine N.getS C (pc' := 81) d31_78 (C.w (i := 194) rfl) S_DigitOnes rfl ?_
        refine N.iloadN C (pc' := 82) d31_81 rfl rfl ?_
        refine N.ineg C (pc' := 83) d31_82 rfl ?_
        refine N.baload C (pc' := 84) (i := n) (v := (.int (own_dv (n % 10)))) d31_83 A_dO (own_neg hz (Nat.lt_trans h100 (by decide))) (own_pm (own_onesAt h100)) rfl ?_
        refine N.bastore C (pc' := 85) (i := D.length) d31_84 A_b hp1 (own_i1 hWl2 hul) g_b rfl (fun h84_1 W84 A_b => ?_)
        have O := O.wr W84 g_b
        have Z0 : G.n0 ≤ _ := (Wr.size W84).symm ▸ Z0
        have A_dO := A_dO.other W84 ne_dO_b
        have A_dT := A_dT.other W84 ne_dT_b
        have K0 := K0.wr W84 (Or.inl (List.mem_of_getElem? (i := 0) rfl))
        have A_b : Av G.Z h84_1 b .byte ((us.set D.length (own_dv (n % 10))).map .int) := by have q := A_b; rw [own_nd (own_m3 n)] at q; rw [List.map_set]; exact q
        refine N.iloadN C (pc' := 86) d31_85 rfl rfl ?_
        refine N.bipush C (pc' := 88) (z := -9) d31_86 rfl rfl ?_
        refine N.icmp C (pt := 104) (pf := 91) d31_88 rfl rfl (fun (hc88 : (-9) ≤ z.toInt) => ?_) (fun (hc88 : z.toInt < (-9)) => ?_)
        · obtain ⟨P, hP⟩ : ∃ P, P = cs ++ own_sg x := ⟨_, rfl⟩
          rw [if_pos (own_z9 hz hc88), List.append_nil, ← hP] at hD2
          rw [hD2] at g1 hp1
          have hpP := hp1
          have gP := g1
          rw [hD2] at A_b
          have huP := own_ls (i := P.length) (v := own_dv (n % 10)) hul
          have hPW : ∃ T', W = P ++ T' := by rw [hP, hW]; exact ⟨_, List.append_assoc _ _ _⟩
          refine N.iload C (pc' := 106) d31_104 rfl rfl ?_
          refine N.ifc C (pt := 118) (pf := 109) d31_106 rfl rfl (fun (hc106 : sg = (0 : Int32)) => ?_) (fun (hc106 : ¬ sg = (0 : Int32)) => ?_)
          · have hi106 : sg.toInt = 0 := eqI hc106
            have hs0 : own_sg x = [] := by rcases hsg with q | q; exact q.2; exact absurd (hc106.symm.trans q.1) (by decide)
            have eP : P = cs := by rw [hP, hs0, List.append_nil]
            rw [eP] at gP A_b huP
            have huF := huP
            refine N.iload C (pc' := 120) d31_118 rfl rfl ?_
            exact N.retI C d31_120 (by decide) (by decide) (by subst hQ; rw [hW0] at gP; exact ⟨_, _, rfl, K0, A_b, huF, own_ag0 gP.1, gP.2⟩)
          · have hi106 : ¬ sg.toInt = 0 := neI hc106
            have hs1 : own_sg x = [45] := by rcases hsg with q | q; exact absurd q.1 hc106; exact q.2
            have hlenP : P.length = cs.length + 1 := by rw [hP, hs1, List.length_append]; rfl
            obtain ⟨T', hT'⟩ := hPW
            have hWc : W = cs ++ 45 :: T' := by rw [hT', hP, hs1]; simp
            have hWl3 : cs.length + 1 ≤ bs.length := own_wl1 hWl hWc
            have hp3 := own_pm1 (k := cs.length) (by rw [hpP, hlenP]) (own_k1 hWl3 hb1)
            have g3 := own_gcS (v := 45) gP hlenP (by rw [hWc]; exact own_at1 cs _ _) (own_j1 hWl3 huP) (by decide)
            have huF := own_ls (i := cs.length) (v := 45) huP
            refine N.aloadN C (pc' := 110) d31_109 rfl rfl rfl ?_
            refine N.iinc C (pc' := 113) (z := -1) (ls' := #[.val (.int z), .val (.int i), .val (.ref b), .unset, .unset, .val (.int ((p + (-1 : Int32)) + (-1 : Int32))), .val (.int sg)]) d31_110 rfl rfl rfl rfl ?_
            refine N.iload C (pc' := 115) d31_113 rfl rfl ?_
            refine N.bipush C (pc' := 117) (z := 45) d31_115 rfl rfl ?_
            refine N.bastore C (pc' := 118) (i := cs.length) d31_117 A_b hp3 (own_i1 hWl3 huP) g_b rfl (fun h117_2 W117 A_b => ?_)
            have O := O.wr W117 g_b
            have Z0 : G.n0 ≤ _ := (Wr.size W117).symm ▸ Z0
            have A_dO := A_dO.other W117 ne_dO_b
            have A_dT := A_dT.other W117 ne_dT_b
            have K0 := K0.wr W117 (Or.inl (List.mem_of_getElem? (i := 0) rfl))
            have A_b : Av G.Z h117_2 b .byte (((us.set P.length (own_dv (n % 10))).set cs.length (45 : Int32)).map .int) := by have q := A_b; rw [show nar .byte (45 : Int32) = 45 from by decide] at q; rw [List.map_set]; exact q
            refine N.iload C (pc' := 120) d31_118 rfl rfl ?_
            exact N.retI C d31_120 (by decide) (by decide) (by subst hQ; rw [hW0] at g3; exact ⟨_, _, rfl, K0, A_b, huF, own_ag0 g3.1, g3.2⟩)
        · obtain ⟨P, hP⟩ : ∃ P, P = cs ++ own_sg x := ⟨_, rfl⟩
          rw [if_neg (own_z10 hz hc88), ← hP] at hD2
          have hlenD : D.length = P.length + 1 := by rw [hD2, List.length_append]; rfl
          have hWP : W = P ++ own_dv (n / 10) :: own_dv (n % 10) :: T := by rw [hWD, hD2]; simp
          have hWlP : P.length + 2 ≤ bs.length := own_wl hWl hWP
          have hp2 := own_pm1 (k := P.length) (by rw [hp1, hlenD]) (own_k1 (own_k2 hWlP) hb1)
          have g2 := own_gcS (v := own_dv (n / 10)) g1 hlenD (by rw [hWP]; exact own_at1 P _ _) (own_j1 (own_k2 hWlP) (own_ls hul)) (own_dvB (own_m4 h100))
          refine N.aloadN C (pc' := 92) d31_91 rfl rfl rfl ?_
          refine N.iinc C (pc' := 95) (z := -1) (ls' := #[.val (.int z), .val (.int i), .val (.ref b), .unset, .unset, .val (.int ((p + (-1 : Int32)) + (-1 : Int32))), .val (.int sg)]) d31_92 rfl rfl rfl rfl ?_
          refine N.iload C (pc' := 97) d31_95 rfl rfl ?_
          have S_DigitTens := SS.sT.ext O.2
          refine N.getS C (pc' := 100) d31_97 (C.w (i := 322) rfl) S_DigitTens rfl ?_
          refine N.iloadN C (pc' := 101) d31_100 rfl rfl ?_
          refine N.ineg C (pc' := 102) d31_101 rfl ?_
          refine N.baload C (pc' := 103) (i := n) (v := (.int (own_dv (n / 10)))) d31_102 A_dT (own_neg hz (Nat.lt_trans h100 (by decide))) (own_pm (own_tensAt h100)) rfl ?_
          refine N.bastore C (pc' := 104) (i := P.length) d31_103 A_b hp2 (own_i1 (own_k2 hWlP) (own_ls hul)) g_b rfl (fun h103_3 W103 A_b => ?_)
          have O := O.wr W103 g_b
          have Z0 : G.n0 ≤ _ := (Wr.size W103).symm ▸ Z0
          have A_dO := A_dO.other W103 ne_dO_b
          have A_dT := A_dT.other W103 ne_dT_b
          have K0 := K0.wr W103 (Or.inl (List.mem_of_getElem? (i := 0) rfl))
          have A_b : Av G.Z h103_3 b .byte (((us.set D.length (own_dv (n % 10))).set P.length (own_dv (n / 10))).map .int) := by have q := A_b; rw [own_nd (own_m4 h100)] at q; rw [List.map_set]; exact q
          have hpP := hp2
          have gP := g2
          have huP := own_ls (i := P.length) (v := own_dv (n / 10)) (own_ls (i := D.length) (v := own_dv (n % 10)) hul)
          have hPW : ∃ T', W = P ++ T' := by rw [hP, hW]; exact ⟨_, List.append_assoc _ _ _⟩
          refine N.iload C (pc' := 106) d31_104 rfl rfl ?_
          refine N.ifc C (pt := 118) (pf := 109) d31_106 rfl rfl (fun (hc106 : sg = (0 : Int32)) => ?_) (fun (hc106 : ¬ sg = (0 : Int32)) => ?_)
          · have hi106 : sg.toInt = 0 := eqI hc106
            have hs0 : own_sg x = [] := by rcases hsg with q | q; exact q.2; exact absurd (hc106.symm.trans q.1) (by decide)
            have eP : P = cs := by rw [hP, hs0, List.append_nil]
            rw [eP] at gP A_b huP
            have huF := huP
            refine N.iload C (pc' := 120) d31_118 rfl rfl ?_
            exact N.retI C d31_120 (by decide) (by decide) (by subst hQ; rw [hW0] at gP; exact ⟨_, _, rfl, K0, A_b, huF, own_ag0 gP.1, gP.2⟩)
          · have hi106 : ¬ sg.toInt = 0 := neI hc106
            have hs1 : own_sg x = [45] := by rcases hsg with q | q; exact absurd q.1 hc106; exact q.2
            have hlenP : P.length = cs.length + 1 := by rw [hP, hs1, List.length_append]; rfl
            obtain ⟨T', hT'⟩ := hPW
            have hWc : W = cs ++ 45 :: T' := by rw [hT', hP, hs1]; simp
            have hWl3 : cs.length + 1 ≤ bs.length := own_wl1 hWl hWc
            have hp3 := own_pm1 (k := cs.length) (by rw [hpP, hlenP]) (own_k1 hWl3 hb1)
            have g3 := own_gcS (v := 45) gP hlenP (by rw [hWc]; exact own_at1 cs _ _) (own_j1 hWl3 huP) (by decide)
            have huF := own_ls (i := cs.length) (v := 45) huP
            refine N.aloadN C (pc' := 110) d31_109 rfl rfl rfl ?_
            refine N.iinc C (pc' := 113) (z := -1) (ls' := #[.val (.int z), .val (.int i), .val (.ref b), .unset, .unset, .val (.int (((p + (-1 : Int32)) + (-1 : Int32)) + (-1 : Int32))), .val (.int sg)]) d31_110 rfl rfl rfl rfl ?_
            refine N.iload C (pc' := 115) d31_113 rfl rfl ?_
            refine N.bipush C (pc' := 117) (z := 45) d31_115 rfl rfl ?_
            refine N.bastore C (pc' := 118) (i := cs.length) d31_117 A_b hp3 (own_i1 hWl3 huP) g_b rfl (fun h117_4 W117 A_b => ?_)
            have O := O.wr W117 g_b
            have Z0 : G.n0 ≤ _ := (Wr.size W117).symm ▸ Z0
            have A_dO := A_dO.other W117 ne_dO_b
            have A_dT := A_dT.other W117 ne_dT_b
            have K0 := K0.wr W117 (Or.inl (List.mem_of_getElem? (i := 0) rfl))
            have A_b : Av G.Z h117_4 b .byte ((((us.set D.length (own_dv (n % 10))).set P.length (own_dv (n / 10))).set cs.length (45 : Int32)).map .int) := by have q := A_b; rw [show nar .byte (45 : Int32) = 45 from by decide] at q; rw [List.map_set]; exact q
            refine N.iload C (pc' := 120) d31_118 rfl rfl ?_
            exact N.retI C d31_120 (by decide) (by decide) (by subst hQ; rw [hW0] at g3; exact ⟨_, _, rfl, K0, A_b, huF, own_ag0 g3.1, g3.2⟩)
      · have h100 : 100 ≤ n := own_z100 hz hc25
        have hq0 := own_q100 hz hn h100
        obtain ⟨B, hB⟩ : ∃ B, B = cs ++ own_sg x ++ own_dg (n / 100) := ⟨_, rfl⟩
        have hWB : W = B ++ own_dv (n % 100 / 10) :: own_dv (n % 100 % 10) :: T := by rw [hW, hB, own_dg3 h100]; simp
        have hlen : (cs ++ own_sg x ++ own_dg n).length = B.length + 2 := by rw [hB, own_dg3 h100, ← List.append_assoc, List.length_append]; rfl
        have hWl2 : B.length + 2 ≤ bs.length := own_wl hWl hWB
        have g1 := own_gcS (v := own_dv (n % 100 % 10)) hg hlen (by rw [hWB]; exact own_at2 B _ _ T) (own_j1 hWl2 hul) (own_dvB (own_m2 n))
        have g2 := own_gcS (v := own_dv (n % 100 / 10)) g1 rfl (by rw [hWB]; exact own_at1 B _ _) (own_j1 (own_k2 hWl2) (own_ls hul)) (own_dvB (own_m1 n))
        have hp1 := own_pm1 (p := p) (k := B.length + 1) (by rw [hp, hlen]) (own_k1 hWl2 hb1)
        have hp2 := own_pm1 hp1 (own_k1 (own_k2 hWl2) hb1)
        refine N.iloadN C (pc' := 29) d31_28 rfl rfl ?_
        refine N.bipush C (pc' := 31) (z := 100) d31_29 rfl rfl ?_
        refine N.idiv C (pc' := 32) d31_31 (by decide) rfl ?_
        generalize hd_q : (z / (100 : Int32)) = q at *
        refine N.istoreN C (pc' := 33) (ls' := #[.val (.int z), .val (.int i), .val (.ref b), .val (.int q), .unset, .val (.int p), .val (.int sg)]) d31_32 rfl rfl ?_
        have hr0 := own_r100 hz hn hq0
        refine N.iloadN C (pc' := 34) d31_33 rfl rfl ?_
        refine N.bipush C (pc' := 36) (z := 100) d31_34 rfl rfl ?_
        refine N.imul C (pc' := 37) d31_36 rfl ?_
        refine N.iloadN C (pc' := 38) d31_37 rfl rfl ?_
        refine N.isub C (pc' := 39) d31_38 rfl ?_
        generalize hd_r : ((q * (100 : Int32)) - z) = r at *
        refine N.istore C (pc' := 41) (ls' := #[.val (.int z), .val (.int i), .val (.ref b), .val (.int q), .val (.int r), .val (.int p), .val (.int sg)]) d31_39 rfl rfl ?_
        refine N.iloadN C (pc' := 42) d31_41 rfl rfl ?_
        refine N.istoreN C (pc' := 43) (ls' := #[.val (.int q), .val (.int i), .val (.ref b), .val (.int q), .val (.int r), .val (.int p), .val (.int sg)]) d31_42 rfl rfl ?_
        refine N.aloadN C (pc' := 44) d31_43 rfl rfl rfl ?_
        refine N.iinc C (pc' := 47) (z := -1) (ls' := #[.val (.int q), .val (.int i), .val (.ref b), .val (.int q), .val (.int r), .val (.int (p + (-1 : Int32))), .val (.int sg)]) d31_44 rfl rfl rfl rfl ?_
        refine N.iload C (pc' := 49) d31_47 rfl rfl ?_
        have S_DigitOnes := SS.sO.ext O.2
        refine N.getS C (pc' := 52) d31_49 (C.w (i := 194) rfl) S_DigitOnes rfl ?_
        refine N.iload C (pc' := 54) d31_52 rfl rfl ?_
        refine N.baload C (pc' := 55) (i := n % 100) (v := (.int (own_dv (n % 100 % 10)))) d31_54 A_dO hr0 (own_pm (own_onesAt (own_m5 n))) rfl ?_
        refine N.bastore C (pc' := 56) (i := (B.length + 1)) d31_55 A_b hp1 (own_i1 hWl2 hul) g_b rfl (fun h55_5 W55 A_b => ?_)
        have O := O.wr W55 g_b
        have Z0 : G.n0 ≤ _ := (Wr.size W55).symm ▸ Z0
        have A_dO := A_dO.other W55 ne_dO_b
        have A_dT := A_dT.other W55 ne_dT_b
        have K0 := K0.wr W55 (Or.inl (List.mem_of_getElem? (i := 0) rfl))
        have A_b : Av G.Z h55_5 b .byte ((us.set (B.length + 1) (own_dv (n % 100 % 10))).map .int) := by have q := A_b; rw [own_nd (own_m2 n)] at q; rw [List.map_set]; exact q
        refine N.aloadN C (pc' := 57) d31_56 rfl rfl rfl ?_
        refine N.iinc C (pc' := 60) (z := -1) (ls' := #[.val (.int q), .val (.int i), .val (.ref b), .val (.int q), .val (.int r), .val (.int ((p + (-1 : Int32)) + (-1 : Int32))), .val (.int sg)]) d31_57 rfl rfl rfl rfl ?_
        refine N.iload C (pc' := 62) d31_60 rfl rfl ?_
        have S_DigitTens := SS.sT.ext O.2
        refine N.getS C (pc' := 65) d31_62 (C.w (i := 322) rfl) S_DigitTens rfl ?_
        refine N.iload C (pc' := 67) d31_65 rfl rfl ?_
        refine N.baload C (pc' := 68) (i := n % 100) (v := (.int (own_dv (n % 100 / 10)))) d31_67 A_dT hr0 (own_pm (own_tensAt (own_m5 n))) rfl ?_
        refine N.bastore C (pc' := 69) (i := B.length) d31_68 A_b hp2 (own_i1 (own_k2 hWl2) (own_ls hul)) g_b rfl (fun h68_6 W68 A_b => ?_)
        have O := O.wr W68 g_b
        have Z0 : G.n0 ≤ _ := (Wr.size W68).symm ▸ Z0
        have A_dO := A_dO.other W68 ne_dO_b
        have A_dT := A_dT.other W68 ne_dT_b
        have K0 := K0.wr W68 (Or.inl (List.mem_of_getElem? (i := 0) rfl))
        have A_b : Av G.Z h68_6 b .byte (((us.set (B.length + 1) (own_dv (n % 100 % 10))).set B.length (own_dv (n % 100 / 10))).map .int) := by have q := A_b; rw [own_nd (own_m1 n)] at q; rw [List.map_set]; exact q
        refine N.goto C (pc' := 22) d31_69 rfl ?_
        exact ih (n / 100) (own_r1 h100 hm) _ _ _ _ _ _ (n / 100) (own_dv (n % 100 / 10) :: own_dv (n % 100 % 10) :: T) _ (Nat.le_refl _) hq0 (own_r2 hn) (by rw [← hB]; exact hWB) (by rw [← hB]; exact hp2) (own_ls (own_ls hul)) (by rw [← hB]; exact g2) (Or.inr ⟨_, _, rfl, rfl⟩) hsg A_b K0 Z0 O
    · show N G K rm31 Q h1 0 0 22 #[.val (.int z), .val (.int i), .val (.ref b), .val (.int l3), .val (.int l4), .val (.int p), .val (.int sg)] []
      refine N.iloadN C (pc' := 23) d31_22 rfl rfl ?_
      refine N.bipush C (pc' := 25) (z := -100) d31_23 rfl rfl ?_
      refine N.icmp C (pt := 72) (pf := 28) d31_25 rfl rfl (fun (hc25 : (-100) < z.toInt) => ?_) (fun (hc25 : z.toInt ≤ (-100)) => ?_)
      · have h100 : n < 100 := own_z99 hz hc25
        obtain ⟨D, hD, hD2⟩ := own_last (cs ++ own_sg x) h100
        have hWD : W = D ++ own_dv (n % 10) :: T := by rw [hW, hD]; simp
        have hlen : (cs ++ own_sg x ++ own_dg n).length = D.length + 1 := by rw [hD, List.length_append]; rfl
        have hWl2 : D.length + 1 ≤ bs.length := own_wl1 hWl hWD
        have g1 := own_gcS (v := own_dv (n % 10)) hg hlen (by rw [hWD]; exact own_at1 D _ _) (own_j1 hWl2 hul) (own_dvB (own_m3 n))
        have hp1 := own_pm1 (p := p) (k := D.length) (by rw [hp, hlen]) (own_k1 hWl2 hb1)
        refine N.aloadN C (pc' := 73) d31_72 rfl rfl rfl ?_
        refine N.iinc C (pc' := 76) (z := -1) (ls' := #[.val (.int z), .val (.int i), .val (.ref b), .val (.int l3), .val (.int l4), .val (.int (p + (-1 : Int32))), .val (.int sg)]) d31_73 rfl rfl rfl rfl ?_
        refine N.iload C (pc' := 78) d31_76 rfl rfl ?_
        have S_DigitOnes := SS.sO.ext O.2
        refine N.getS C (pc' := 81) d31_78 (C.w (i := 194) rfl) S_DigitOnes rfl ?_
        refine N.iloadN C (pc' := 82) d31_81 rfl rfl ?_
        refine N.ineg C (pc' := 83) d31_82 rfl ?_
        refine N.baload C (pc' := 84) (i := n) (v := (.int (own_dv (n % 10)))) d31_83 A_dO (own_neg hz (Nat.lt_trans h100 (by decide))) (own_pm (own_onesAt h100)) rfl ?_
        refine N.bastore C (pc' := 85) (i := D.length) d31_84 A_b hp1 (own_i1 hWl2 hul) g_b rfl (fun h84_1 W84 A_b => ?_)
        have O := O.wr W84 g_b
        have Z0 : G.n0 ≤ _ := (Wr.size W84).symm ▸ Z0
        have A_dO := A_dO.other W84 ne_dO_b
        have A_dT := A_dT.other W84 ne_dT_b
        have K0 := K0.wr W84 (Or.inl (List.mem_of_getElem? (i := 0) rfl))
        have A_b : Av G.Z h84_1 b .byte ((us.set D.length (own_dv (n % 10))).map .int) := by have q := A_b; rw [own_nd (own_m3 n)] at q; rw [List.map_set]; exact q
        refine N.iloadN C (pc' := 86) d31_85 rfl rfl ?_
        refine N.bipush C (pc' := 88) (z := -9) d31_86 rfl rfl ?_
        refine N.icmp C (pt := 104) (pf := 91) d31_88 rfl rfl (fun (hc88 : (-9) ≤ z.toInt) => ?_) (fun (hc88 : z.toInt < (-9)) => ?_)
        · obtain ⟨P, hP⟩ : ∃ P, P = cs ++ own_sg x := ⟨_, rfl⟩
          rw [if_pos (own_z9 hz hc88), List.append_nil, ← hP] at hD2
          rw [hD2] at g1 hp1
          have hpP := hp1
          have gP := g1
          rw [hD2] at A_b
          have huP := own_ls (i := P.length) (v := own_dv (n % 10)) hul
          have hPW : ∃ T', W = P ++ T' := by rw [hP, hW]; exact ⟨_, List.append_assoc _ _ _⟩
          refine N.iload C (pc' := 106) d31_104 rfl rfl ?_
          refine N.ifc C (pt := 118) (pf := 109) d31_106 rfl rfl (fun (hc106 : sg = (0 : Int32)) => ?_) (fun (hc106 : ¬ sg = (0 : Int32)) => ?_)
          · have hi106 : sg.toInt = 0 := eqI hc106
            have hs0 : own_sg x = [] := by rcases hsg with q | q; exact q.2; exact absurd (hc106.symm.trans q.1) (by decide)
            have eP : P = cs := by rw [hP, hs0, List.append_nil]
            rw [eP] at gP A_b huP
            have huF := huP
            refine N.iload C (pc' := 120) d31_118 rfl rfl ?_
            exact N.retI C d31_120 (by decide) (by decide) (by subst hQ; rw [hW0] at gP; exact ⟨_, _, rfl, K0, A_b, huF, own_ag0 gP.1, gP.2⟩)
          · have hi106 : ¬ sg.toInt = 0 := neI hc106
            have hs1 : own_sg x = [45] := by rcases hsg with q | q; exact absurd q.1 hc106; exact q.2
            have hlenP : P.length = cs.length + 1 := by rw [hP, hs1, List.length_append]; rfl
            obtain ⟨T', hT'⟩ := hPW
            have hWc : W = cs ++ 45 :: T' := by rw [hT', hP, hs1]; simp
            have hWl3 : cs.length + 1 ≤ bs.length := own_wl1 hWl hWc
            have hp3 := own_pm1 (k := cs.length) (by rw [hpP, hlenP]) (own_k1 hWl3 hb1)
            have g3 := own_gcS (v := 45) gP hlenP (by rw [hWc]; exact own_at1 cs _ _) (own_j1 hWl3 huP) (by decide)
            have huF := own_ls (i := cs.length) (v := 45) huP
            refine N.aloadN C (pc' := 110) d31_109 rfl rfl rfl ?_
            refine N.iinc C (pc' := 113) (z := -1) (ls' := #[.val (.int z), .val (.int i), .val (.ref b), .val (.int l3), .val (.int l4), .val (.int ((p + (-1 : Int32)) + (-1 : Int32))), .val (.int sg)]) d31_110 rfl rfl rfl rfl ?_
            refine N.iload C (pc' := 115) d31_113 rfl rfl ?_
            refine N.bipush C (pc' := 117) (z := 45) d31_115 rfl rfl ?_
            refine N.bastore C (pc' := 118) (i := cs.length) d31_117 A_b hp3 (own_i1 hWl3 huP) g_b rfl (fun h117_2 W117 A_b => ?_)
            have O := O.wr W117 g_b
            have Z0 : G.n0 ≤ _ := (Wr.size W117).symm ▸ Z0
            have A_dO := A_dO.other W117 ne_dO_b
            have A_dT := A_dT.other W117 ne_dT_b
            have K0 := K0.wr W117 (Or.inl (List.mem_of_getElem? (i := 0) rfl))
            have A_b : Av G.Z h117_2 b .byte (((us.set P.length (own_dv (n % 10))).set cs.length (45 : Int32)).map .int) := by have q := A_b; rw [show nar .byte (45 : Int32) = 45 from by decide] at q; rw [List.map_set]; exact q
            refine N.iload C (pc' := 120) d31_118 rfl rfl ?_
            exact N.retI C d31_120 (by decide) (by decide) (by subst hQ; rw [hW0] at g3; exact ⟨_, _, rfl, K0, A_b, huF, own_ag0 g3.1, g3.2⟩)
        · obtain ⟨P, hP⟩ : ∃ P, P = cs ++ own_sg x := ⟨_, rfl⟩
          rw [if_neg (own_z10 hz hc88), ← hP] at hD2
          have hlenD : D.length = P.length + 1 := by rw [hD2, List.length_append]; rfl
          have hWP : W = P ++ own_dv (n / 10) :: own_dv (n % 10) :: T := by rw [hWD, hD2]; simp
          have hWlP : P.length + 2 ≤ bs.length := own_wl hWl hWP
          have hp2 := own_pm1 (k := P.length) (by rw [hp1, hlenD]) (own_k1 (own_k2 hWlP) hb1)
          have g2 := own_gcS (v := own_dv (n / 10)) g1 hlenD (by rw [hWP]; exact own_at1 P _ _) (own_j1 (own_k2 hWlP) (own_ls hul)) (own_dvB (own_m4 h100))
          refine N.aloadN C (pc' := 92) d31_91 rfl rfl rfl ?_
          refine N.iinc C (pc' := 95) (z := -1) (ls' := #[.val (.int z), .val (.int i), .val (.ref b), .val (.int l3), .val (.int l4), .val (.int ((p + (-1 : Int32)) + (-1 : Int32))), .val (.int sg)]) d31_92 rfl rfl rfl rfl ?_
          refine N.iload C (pc' := 97) d31_95 rfl rfl ?_
          have S_DigitTens := SS.sT.ext O.2
          refine N.getS C (pc' := 100) d31_97 (C.w (i := 322) rfl) S_DigitTens rfl ?_
          refine N.iloadN C (pc' := 101) d31_100 rfl rfl ?_
          refine N.ineg C (pc' := 102) d31_101 rfl ?_
          refine N.baload C (pc' := 103) (i := n) (v := (.int (own_dv (n / 10)))) d31_102 A_dT (own_neg hz (Nat.lt_trans h100 (by decide))) (own_pm (own_tensAt h100)) rfl ?_
          refine N.bastore C (pc' := 104) (i := P.length) d31_103 A_b hp2 (own_i1 (own_k2 hWlP) (own_ls hul)) g_b rfl (fun h103_3 W103 A_b => ?_)
          have O := O.wr W103 g_b
          have Z0 : G.n0 ≤ _ := (Wr.size W103).symm ▸ Z0
          have A_dO := A_dO.other W103 ne_dO_b
          have A_dT := A_dT.other W103 ne_dT_b
          have K0 := K0.wr W103 (Or.inl (List.mem_of_getElem? (i := 0) rfl))
          have A_b : Av G.Z h103_3 b .byte (((us.set D.length (own_dv (n % 10))).set P.length (own_dv (n / 10))).map .int) := by have q := A_b; rw [own_nd (own_m4 h100)] at q; rw [List.map_set]; exact q
          have hpP := hp2
          have gP := g2
          have huP := own_ls (i := P.length) (v := own_dv (n / 10)) (own_ls (i := D.length) (v := own_dv (n % 10)) hul)
          have hPW : ∃ T', W = P ++ T' := by rw [hP, hW]; exact ⟨_, List.append_assoc _ _ _⟩
          refine N.iload C (pc' := 106) d31_104 rfl rfl ?_
          refine N.ifc C (pt := 118) (pf := 109) d31_106 rfl rfl (fun (hc106 : sg = (0 : Int32)) => ?_) (fun (hc106 : ¬ sg = (0 : Int32)) => ?_)
          · have hi106 : sg.toInt = 0 := eqI hc106
            have hs0 : own_sg x = [] := by rcases hsg with q | q; exact q.2; exact absurd (hc106.symm.trans q.1) (by decide)
            have eP : P = cs := by rw [hP, hs0, List.append_nil]
            rw [eP] at gP A_b huP
            have huF := huP
            refine N.iload C (pc' := 120) d31_118 rfl rfl ?_
            exact N.retI C d31_120 (by decide) (by decide) (by subst hQ; rw [hW0] at gP; exact ⟨_, _, rfl, K0, A_b, huF, own_ag0 gP.1, gP.2⟩)
          · have hi106 : ¬ sg.toInt = 0 := neI hc106
            have hs1 : own_sg x = [45] := by rcases hsg with q | q; exact absurd q.1 hc106; exact q.2
            have hlenP : P.length = cs.length + 1 := by rw [hP, hs1, List.length_append]; rfl
            obtain ⟨T', hT'⟩ := hPW
            have hWc : W = cs ++ 45 :: T' := by rw [hT', hP, hs1]; simp
            have hWl3 : cs.length + 1 ≤ bs.length := own_wl1 hWl hWc
            have hp3 := own_pm1 (k := cs.length) (by rw [hpP, hlenP]) (own_k1 hWl3 hb1)
            have g3 := own_gcS (v := 45) gP hlenP (by rw [hWc]; exact own_at1 cs _ _) (own_j1 hWl3 huP) (by decide)
            have huF := own_ls (i := cs.length) (v := 45) huP
            refine N.aloadN C (pc' := 110) d31_109 rfl rfl rfl ?_
            refine N.iinc C (pc' := 113) (z := -1) (ls' := #[.val (.int z), .val (.int i), .val (.ref b), .val (.int l3), .val (.int l4), .val (.int (((p + (-1 : Int32)) + (-1 : Int32)) + (-1 : Int32))), .val (.int sg)]) d31_110 rfl rfl rfl rfl ?_
            refine N.iload C (pc' := 115) d31_113 rfl rfl ?_
            refine N.bipush C (pc' := 117) (z := 45) d31_115 rfl rfl ?_
            refine N.bastore C (pc' := 118) (i := cs.length) d31_117 A_b hp3 (own_i1 hWl3 huP) g_b rfl (fun h117_4 W117 A_b => ?_)
            have O := O.wr W117 g_b
            have Z0 : G.n0 ≤ _ := (Wr.size W117).symm ▸ Z0
            have A_dO := A_dO.other W117 ne_dO_b
            have A_dT := A_dT.other W117 ne_dT_b
            have K0 := K0.wr W117 (Or.inl (List.mem_of_getElem? (i := 0) rfl))
            have A_b : Av G.Z h117_4 b .byte ((((us.set D.length (own_dv (n % 10))).set P.length (own_dv (n / 10))).set cs.length (45 : Int32)).map .int) := by have q := A_b; rw [show nar .byte (45 : Int32) = 45 from by decide] at q; rw [List.map_set]; exact q
            refine N.iload C (pc' := 120) d31_118 rfl rfl ?_
            exact N.retI C d31_120 (by decide) (by decide) (by subst hQ; rw [hW0] at g3; exact ⟨_, _, rfl, K0, A_b, huF, own_ag0 g3.1, g3.2⟩)
      · have h100 : 100 ≤ n := own_z100 hz hc25
        have hq0 := own_q100 hz hn h100
        obtain ⟨B, hB⟩ : ∃ B, B = cs ++ own_sg x ++ own_dg (n / 100) := ⟨_, rfl⟩
        have hWB : W = B ++ own_dv (n % 100 / 10) :: own_dv (n % 100 % 10) :: T := by rw [hW, hB, own_dg3 h100]; simp
        have hlen : (cs ++ own_sg x ++ own_dg n).length = B.length + 2 := by rw [hB, own_dg3 h100, ← List.append_assoc, List.length_append]; rfl
        have hWl2 : B.length + 2 ≤ bs.length := own_wl hWl hWB
        have g1 := own_gcS (v := own_dv (n % 100 % 10)) hg hlen (by rw [hWB]; exact own_at2 B _ _ T) (own_j1 hWl2 hul) (own_dvB (own_m2 n))
        have g2 := own_gcS (v := own_dv (n % 100 / 10)) g1 rfl (by rw [hWB]; exact own_at1 B _ _) (own_j1 (own_k2 hWl2) (own_ls hul)) (own_dvB (own_m1 n))
        have hp1 := own_pm1 (p := p) (k := B.length + 1) (by rw [hp, hlen]) (own_k1 hWl2 hb1)
        have hp2 := own_pm1 hp1 (own_k1 (own_k2 hWl2) hb1)
        refine N.iloadN C (pc' := 29) d31_28 rfl rfl ?_
        refine N.bipush C (pc' := 31) (z := 100) d31_29 rfl rfl ?_
        refine N.idiv C (pc' := 32) d31_31 (by decide) rfl ?_
        generalize hd_q : (z / (100 : Int32)) = q at *
        refine N.istoreN C (pc' := 33) (ls' := #[.val (.int z), .val (.int i), .val (.ref b), .val (.int q), .val (.int l4), .val (.int p), .val (.int sg)]) d31_32 rfl rfl ?_
        have hr0 := own_r100 hz hn hq0
        refine N.iloadN C (pc' := 34) d31_33 rfl rfl ?_
        refine N.bipush C (pc' := 36) (z := 100) d31_34 rfl rfl ?_
        refine N.imul C (pc' := 37) d31_36 rfl ?_
        refine N.iloadN C (pc' := 38) d31_37 rfl rfl ?_
        refine N.isub C (pc' := 39) d31_38 rfl ?_
        generalize hd_r : ((q * (100 : Int32)) - z) = r at *
        refine N.istore C (pc' := 41) (ls' := #[.val (.int z), .val (.int i), .val (.ref b), .val (.int q), .val (.int r), .val (.int p), .val (.int sg)]) d31_39 rfl rfl ?_
        refine N.iloadN C (pc' := 42) d31_41 rfl rfl ?_
        refine N.istoreN C (pc' := 43) (ls' := #[.val (.int q), .val (.int i), .val (.ref b), .val (.int q), .val (.int r), .val (.int p), .val (.int sg)]) d31_42 rfl rfl ?_
        refine N.aloadN C (pc' := 44) d31_43 rfl rfl rfl ?_
        refine N.iinc C (pc' := 47) (z := -1) (ls' := #[.val (.int q), .val (.int i), .val (.ref b), .val (.int q), .val (.int r), .val (.int (p + (-1 : Int32))), .val (.int sg)]) d31_44 rfl rfl rfl rfl ?_
        refine N.iload C (pc' := 49) d31_47 rfl rfl ?_
        have S_DigitOnes := SS.sO.ext O.2
        refine N.getS C (pc' := 52) d31_49 (C.w (i := 194) rfl) S_DigitOnes rfl ?_
        refine N.iload C (pc' := 54) d31_52 rfl rfl ?_
        refine N.baload C (pc' := 55) (i := n % 100) (v := (.int (own_dv (n % 100 % 10)))) d31_54 A_dO hr0 (own_pm (own_onesAt (own_m5 n))) rfl ?_
        refine N.bastore C (pc' := 56) (i := (B.length + 1)) d31_55 A_b hp1 (own_i1 hWl2 hul) g_b rfl (fun h55_5 W55 A_b => ?_)
        have O := O.wr W55 g_b
        have Z0 : G.n0 ≤ _ := (Wr.size W55).symm ▸ Z0
        have A_dO := A_dO.other W55 ne_dO_b
        have A_dT := A_dT.other W55 ne_dT_b
        have K0 := K0.wr W55 (Or.inl (List.mem_of_getElem? (i := 0) rfl))
        have A_b : Av G.Z h55_5 b .byte ((us.set (B.length + 1) (own_dv (n % 100 % 10))).map .int) := by have q := A_b; rw [own_nd (own_m2 n)] at q; rw [List.map_set]; exact q
        refine N.aloadN C (pc' := 57) d31_56 rfl rfl rfl ?_
        refine N.iinc C (pc' := 60) (z := -1) (ls' := #[.val (.int q), .val (.int i), .val (.ref b), .val (.int q), .val (.int r), .val (.int ((p + (-1 : Int32)) + (-1 : Int32))), .val (.int sg)]) d31_57 rfl rfl rfl rfl ?_
        refine N.iload C (pc' := 62) d31_60 rfl rfl ?_
        have S_DigitTens := SS.sT.ext O.2
        refine N.getS C (pc' := 65) d31_62 (C.w (i := 322) rfl) S_DigitTens rfl ?_
        refine N.iload C (pc' := 67) d31_65 rfl rfl ?_
        refine N.baload C (pc' := 68) (i := n % 100) (v := (.int (own_dv (n % 100 / 10)))) d31_67 A_dT hr0 (own_pm (own_tensAt (own_m5 n))) rfl ?_
        refine N.bastore C (pc' := 69) (i := B.length) d31_68 A_b hp2 (own_i1 (own_k2 hWl2) (own_ls hul)) g_b rfl (fun h68_6 W68 A_b => ?_)
        have O := O.wr W68 g_b
        have Z0 : G.n0 ≤ _ := (Wr.size W68).symm ▸ Z0
        have A_dO := A_dO.other W68 ne_dO_b
        have A_dT := A_dT.other W68 ne_dT_b
        have K0 := K0.wr W68 (Or.inl (List.mem_of_getElem? (i := 0) rfl))
        have A_b : Av G.Z h68_6 b .byte (((us.set (B.length + 1) (own_dv (n % 100 % 10))).set B.length (own_dv (n % 100 / 10))).map .int) := by have q := A_b; rw [own_nd (own_m1 n)] at q; rw [List.map_set]; exact q
        refine N.goto C (pc' := 22) d31_69 rfl ?_
        exact ih (n / 100) (own_r1 h100 hm) _ _ _ _ _ _ (n / 100) (own_dv (n % 100 / 10) :: own_dv (n % 100 % 10) :: T) _ (Nat.le_refl _) hq0 (own_r2 hn) (by rw [← hB]; exact hWB) (by rw [← hB]; exact hp2) (own_ls (own_ls hul)) (by rw [← hB]; exact g2) (Or.inr ⟨_, _, rfl, rfl⟩) hsg A_b K0 Z0 O
  refine N.iloadN C (pc' := 1) d31_0 rfl rfl ?_
  refine N.istore C (pc' := 3) (ls' := #[.val (.int x), .val (.int i), .val (.ref b), .unset, .unset, .val (.int i), .unset]) d31_1 rfl rfl ?_
  refine N.iloadN C (pc' := 4) d31_3 rfl rfl ?_
  refine N.ifc C (pt := 11) (pf := 7) d31_4 rfl rfl (fun (hc4 : 0 ≤ x.toInt) => ?_) (fun (hc4 : x.toInt < 0) => ?_)
  · refine N.iconst C (pc' := 12) (z := 0) d31_11 rfl rfl ?_
    refine N.istore C (pc' := 14) (ls' := #[.val (.int x), .val (.int i), .val (.ref b), .unset, .unset, .val (.int i), .val (.int (0 : Int32))]) d31_12 rfl rfl ?_
    refine N.iload C (pc' := 16) d31_14 rfl rfl ?_
    refine N.ifc C (pt := 22) (pf := 19) d31_16 rfl rfl (fun (q : ¬ (0 : Int32) = (0 : Int32)) => absurd q (by decide)) (fun _ => ?_)
    refine N.iloadN C (pc' := 20) d31_19 rfl rfl ?_
    refine N.ineg C (pc' := 21) d31_20 rfl ?_
    refine N.istoreN C (pc' := 22) (ls' := #[.val (.int (-x)), .val (.int i), .val (.ref b), .unset, .unset, .val (.int i), .val (.int (0 : Int32))]) d31_21 rfl rfl ?_
    have hsg : own_sg x = [] := by unfold own_sg; rw [if_neg (by omega)]
    have eW : cs ++ own_sg x ++ own_dg (own_mag x) = cs ++ own_dec x := by rw [List.append_assoc]; rfl
    exact loop _ h _ _ _ _ _ (own_mag x) [] bs (Nat.le_refl _) (by have h1 := c_ineg x; have h2 := rng32 (-x); have h3 := rng32 x; unfold own_mag; omega) (own_magB x) (by rw [eW, hW0, List.append_nil]) (by rw [eW]; exact hi) rfl (by rw [eW, hW0]; exact ⟨own_agI pf, hby⟩) (Or.inl ⟨rfl, rfl⟩) (Or.inl ⟨rfl, hsg⟩) A_b K0 Z0 O
  · refine N.iconst C (pc' := 8) (z := 1) d31_7 rfl rfl ?_
    refine N.goto C (pc' := 12) d31_8 rfl ?_
    refine N.istore C (pc' := 14) (ls' := #[.val (.int x), .val (.int i), .val (.ref b), .unset, .unset, .val (.int i), .val (.int (1 : Int32))]) d31_12 rfl rfl ?_
    refine N.iload C (pc' := 16) d31_14 rfl rfl ?_
    refine N.ifc C (pt := 22) (pf := 19) d31_16 rfl rfl (fun _ => ?_) (fun (q : (1 : Int32) = (0 : Int32)) => absurd q (by decide))
    have hsg : own_sg x = [45] := by unfold own_sg; rw [if_pos (by omega)]
    have eW : cs ++ own_sg x ++ own_dg (own_mag x) = cs ++ own_dec x := by rw [List.append_assoc]; rfl
    exact loop _ h _ _ _ _ _ (own_mag x) [] bs (Nat.le_refl _) (by unfold own_mag; omega) (own_magB x) (by rw [eW, hW0, List.append_nil]) (by rw [eW]; exact hi) rfl (by rw [eW, hW0]; exact ⟨own_agI pf, hby⟩) (Or.inl ⟨rfl, rfl⟩) (Or.inr ⟨rfl, hsg⟩) A_b K0 Z0 O
set_option maxRecDepth 65536 in
set_option maxHeartbeats 40000000 in
theorem con28 (G : Gx) (hw : ∀ d ∈ tables_1, d.before G.a0 G.Z = true) (x b : Addr) (k n : Int32) (bs cs : List Int32) (cp : Int32) (dO dT us sn : Addr) (h : Heap) (hl : cs.length + (own_dec k).length ≤ 18) (SS : Ss G cp dO dT us sn) (O : Old G.Z G.n0 h) (Z0 : G.n0 ≤ h.size) (B : Sb G h x b n bs cs) :
    Con G (⟨"java/lang/AbstractStringBuilder", "append", "(I)Ljava/lang/AbstractStringBuilder;"⟩ : MethodName) jdk_68_method_32_code 4 (some (.object "java/lang/AbstractStringBuilder")) rm28 #[(.ref x), (.int k)] h (fun v h' => v = some (.ref x) ∧ Keep h h' [x, b] ∧ ∃ (b' : Addr) (n' : Int32) (bs' : List Int32), Sb G h' x b' n' bs' (cs ++ own_dec k) ∧ (b' = b ∨ h.size ≤ b')) := by
  refine Con.of (W := tables_1) (plainFor_of_name pn28) hw (fun mm => ef28 mm x k) (fun K C => ?_)
  have C : Cx G K "java/lang/AbstractStringBuilder" "append" jdk_68_method_32_code 4 (some (.object "java/lang/AbstractStringBuilder")) tables_1 := C
  generalize hQ : (fun v h' => v = some (.ref x) ∧ Keep h h' [x, b] ∧ ∃ (b' : Addr) (n' : Int32) (bs' : List Int32), Sb G h' x b' n' bs' (cs ++ own_dec k) ∧ (b' = b ∨ h.size ≤ b') : Option Value → Heap → Prop) = Q
  have E_x := B.E
  have F_x_value := B.Fv
  have F_x_coder := B.Fc
  have F_x_count := B.Fn
  have A_b := B.A
  have E_b := B.Eb
  have ne_x_b := B.ne
  have ne_b_x := Ne.symm B.ne
  have g_x := B.gx
  have g_b := B.gb
  have hcap_b := B.cap
  have K0 : Keep h h [x, b] := Keep.refl _ _
  refine N.aloadN C (pc' := 1) d28_0 rfl rfl rfl ?_
  refine N.getF C (pc' := 4) d28_1 (C.w (i := 145) rfl) F_x_count rfl ?_
  refine N.istoreN C (pc' := 5) (ls' := #[.val (.ref x), .val (.int k), .val (.int n), .unset]) d28_4 rfl rfl ?_
  refine N.iloadN C (pc' := 6) d28_5 rfl rfl ?_
  refine N.iloadN C (pc' := 7) d28_6 rfl rfl ?_
  refine N.callS C (pc' := 10) [(.int k)] d28_7 (C.w (i := 182) rfl) (C.w (i := 183) rfl) (C.w (i := 184) rfl) (C.w (i := 185) rfl) (by decide) (con29 G hw k h) (lenOf pd__I_I rfl) rfl (by decide) (show 1 + (4 + 11) + _ ≤ _ from by decide) (by decide) (by decide) (rest := [(.int n)]) rfl rfl ?_
  rintro _ h7_1 ⟨r, rfl, rfl, hr⟩
  show N G K rm28 Q h 0 0 10 #[.val (.ref x), .val (.int k), .val (.int n), .unset] [(.int r), (.int n)]
  have hm := own_add B.cnt hr (by omega) (by omega)
  refine N.iadd C (pc' := 11) d28_10 rfl ?_
  generalize hd_m : (n + r) = m at *
  refine N.istoreN C (pc' := 12) (ls' := #[.val (.ref x), .val (.int k), .val (.int n), .val (.int m)]) d28_11 rfl rfl ?_
  refine N.aloadN C (pc' := 13) d28_12 rfl rfl rfl ?_
  refine N.iloadN C (pc' := 14) d28_13 rfl rfl ?_
  refine N.callVK C (pc' := 17) x [(.int m)] d28_14 (C.w (i := 147) rfl) (declC (C.w (i := 148) rfl) (C.w (i := 151) rfl)) (C.w (i := 150) rfl) rfl (C.w (i := 150) rfl) (C.w (i := 148) rfl) (C.w (i := 117) rfl) (C.w (i := 151) rfl) (by decide) E_x (con23 G hw x b m n (cs.length + (own_dec k).length) bs cs cp dO dT us sn h hm hl SS O Z0 B) (lenOf pd__I_V rfl) rfl (by decide) (show 0 + (3 + 11) + _ ≤ _ from by decide) (by decide) (by decide) (rest := []) rfl rfl ?_
  rintro _ h14_2 ⟨rfl, KpE, b1, bs1, B1, hcap1, hb1⟩
  have kp_b1 : b1 ∈ [x, b] ∨ h.size ≤ b1 := hb1.elim (fun q => Or.inl (by rw [q]; exact List.mem_of_getElem? (i := 1) rfl)) Or.inr
  have O := O.keep KpE (allS g_x all0)
  have Z0 := Nat.le_trans Z0 KpE.1
  have E_x := E_x.keep KpE
  have E_b := E_b.keep KpE
  have A_b := A_b.keep KpE (ninS ne_b_x nin0)
  have K0 := K0.trans KpE (allS (Or.inl (List.mem_of_getElem? (i := 0) rfl)) all0)
  have E_x := B1.E
  have F_x_value := B1.Fv
  have F_x_coder := B1.Fc
  have F_x_count := B1.Fn
  have A_b1 := B1.A
  have E_b1 := B1.Eb
  have ne_x_b1 := B1.ne
  have ne_b1_x := Ne.symm B1.ne
  have g_x := B1.gx
  have g_b1 := B1.gb
  have hcap_b1 := B1.cap
  show N G K rm28 Q h14_2 1 34 17 #[.val (.ref x), .val (.int k), .val (.int n), .val (.int m)] []
  refine N.aloadN C (pc' := 18) d28_17 rfl rfl rfl ?_
  refine N.callVK C (pc' := 21) x [] d28_18 (C.w (i := 186) rfl) (C.w (i := 187) rfl) (C.w (i := 150) rfl) rfl (C.w (i := 189) rfl) (C.w (i := 188) rfl) (C.w (i := 117) rfl) (C.w (i := 190) rfl) (by decide) E_x (con30 G hw x cp dO dT us sn h14_2 SS O F_x_coder) (lenOf pd___Z rfl) rfl (by decide) (show 0 + (1 + 11) + _ ≤ _ from by decide) (by decide) (by decide) (rest := []) rfl rfl ?_
  rintro _ h18_3 ⟨rfl, rfl⟩
  show N G K rm28 Q h14_2 1 34 21 #[.val (.ref x), .val (.int k), .val (.int n), .val (.int m)] [(.int (1 : Int32))]
  refine N.ifc C (pt := 37) (pf := 24) d28_21 rfl rfl (fun (q : (1 : Int32) = (0 : Int32)) => absurd q (by decide)) (fun _ => ?_)
  refine N.iloadN C (pc' := 25) d28_24 rfl rfl ?_
  refine N.iloadN C (pc' := 26) d28_25 rfl rfl ?_
  refine N.aloadN C (pc' := 27) d28_26 rfl rfl rfl ?_
  refine N.getF C (pc' := 30) d28_27 (C.w (i := 121) rfl) F_x_value rfl ?_
  refine N.callS C (pc' := 33) [(.int k), (.int m), (.ref b1)] d28_30 (C.w (i := 191) rfl) (C.w (i := 192) rfl) (C.w (i := 184) rfl) (C.w (i := 193) rfl) (by decide) (con31 G hw k m b1 bs1 cs cp dO dT us sn h14_2 (by rw [List.length_append]; exact hm) (by rw [List.length_append]; exact hcap1) (by omega) B1.pf B1.by' SS O Z0 g_b1 A_b1) (lenOf pd__II_B_I rfl) rfl (by decide) (show 0 + (7 + 11) + _ ≤ _ from by decide) (by decide) (by decide) (rest := []) rfl rfl ?_
  rintro _ h30_4 ⟨r2, bs2, rfl, KpN, A_b1', hl2, pf2, by2⟩
  have O := O.keep KpN (allS g_b1 all0)
  have Z0 := Nat.le_trans Z0 KpN.1
  have F_x_value := F_x_value.keep KpN (ninS ne_x_b1 nin0)
  have F_x_coder := F_x_coder.keep KpN (ninS ne_x_b1 nin0)
  have F_x_count := F_x_count.keep KpN (ninS ne_x_b1 nin0)
  have E_x := E_x.keep KpN
  have E_b1 := E_b1.keep KpN
  have K0 := K0.trans KpN (allS kp_b1 all0)
  have A_b1 := A_b1'
  show N G K rm28 Q h30_4 1 34 33 #[.val (.ref x), .val (.int k), .val (.int n), .val (.int m)] [(.int r2)]
  refine N.pop C (pc' := 34) d28_33 rfl rfl ?_
  refine N.goto C (pc' := 48) d28_34 rfl ?_
  refine N.aloadN C (pc' := 49) d28_48 rfl rfl rfl ?_
  refine N.iloadN C (pc' := 50) d28_49 rfl rfl ?_
  refine N.putF C (pc' := 53) d28_50 (C.w (i := 145) rfl) F_x_count E_x (Or.inl (C.w (i := 146) rfl)) (C.w (i := 108) rfl) (ty := .int) (by decide) rfl rfl g_x rfl (fun h50_5 W50 => ?_)
  have O := O.wr W50 g_x
  have Z0 : G.n0 ≤ _ := (Wr.size W50).symm ▸ Z0
  have F_x_value := F_x_value.other W50 (Or.inr (slot_ne (Or.inl (C.w (i := 122) rfl)) (Or.inl (C.w (i := 146) rfl)) (by decide) (t := (.array .byte)) (t' := .int) (by decide) (by decide)))
  have F_x_coder := F_x_coder.other W50 (Or.inr (slot_ne (Or.inl (C.w (i := 124) rfl)) (Or.inl (C.w (i := 146) rfl)) (by decide) (t := .byte) (t' := .int) (by decide) (by decide)))
  have F_x_count := F_x_count.same W50
  have E_x := E_x.wr W50
  have E_b1 := E_b1.wr W50
  have A_b1 := A_b1.other W50 ne_b1_x
  have K0 := K0.wr W50 (Or.inl (List.mem_of_getElem? (i := 0) rfl))
  refine N.aloadN C (pc' := 54) d28_53 rfl rfl rfl ?_
  exact N.retA C rfl rfl d28_54 (by decide) (by decide) (by subst hQ; exact ⟨rfl, K0, b1, m, bs2, ⟨E_x, F_x_value, F_x_coder, F_x_count, A_b1, E_b1, ne_x_b1, g_x, g_b1, by rw [List.length_append]; exact hm, pf2, by2, by rw [hl2]; exact B1.cap⟩, hb1⟩)
set_option maxRecDepth 65536 in
set_option maxHeartbeats 40000000 in
theorem con27 (G : Gx) (hw : ∀ d ∈ tables_1, d.before G.a0 G.Z = true) (x b : Addr) (k n : Int32) (bs cs : List Int32) (cp : Int32) (dO dT us sn : Addr) (h : Heap) (hl : cs.length + (own_dec k).length ≤ 18) (SS : Ss G cp dO dT us sn) (O : Old G.Z G.n0 h) (Z0 : G.n0 ≤ h.size) (B : Sb G h x b n bs cs) :
    Con G (⟨"java/lang/StringBuilder", "append", "(I)Ljava/lang/StringBuilder;"⟩ : MethodName) jdk_67_method_15_code 2 (some (.object "java/lang/StringBuilder")) rm27 #[(.ref x), (.int k)] h (fun v h' => v = some (.ref x) ∧ Keep h h' [x, b] ∧ ∃ (b' : Addr) (n' : Int32) (bs' : List Int32), Sb G h' x b' n' bs' (cs ++ own_dec k) ∧ (b' = b ∨ h.size ≤ b')) := by
  refine Con.of (W := tables_1) (plainFor_of_name pn27) hw (fun mm => ef27 mm x k) (fun K C => ?_)
  have C : Cx G K "java/lang/StringBuilder" "append" jdk_67_method_15_code 2 (some (.object "java/lang/StringBuilder")) tables_1 := C
  generalize hQ : (fun v h' => v = some (.ref x) ∧ Keep h h' [x, b] ∧ ∃ (b' : Addr) (n' : Int32) (bs' : List Int32), Sb G h' x b' n' bs' (cs ++ own_dec k) ∧ (b' = b ∨ h.size ≤ b') : Option Value → Heap → Prop) = Q
  have E_x := B.E
  refine N.aloadN C (pc' := 1) d27_0 rfl rfl rfl ?_
  refine N.iloadN C (pc' := 2) d27_1 rfl rfl ?_
  refine N.callU C (pc' := 5) x [(.int k)] d27_2 (by decide) (C.w (i := 178) rfl) (C.w (i := 150) rfl) rfl (C.w (i := 179) rfl) (C.w (i := 132) rfl) (C.w (i := 117) rfl) (C.w (i := 181) rfl) (by decide) E_x (con28 G hw x b k n bs cs cp dO dT us sn h hl SS O Z0 B) (lenOf pd__I_Ljava_lang_AbstractStringBuilder_ rfl) rfl (by decide) (show 0 + (4 + 11) + _ ≤ _ from by decide) (by decide) (by decide) (rest := []) rfl rfl ?_
  rintro _ h2_1 ⟨rfl, Kp, R⟩
  show N G K rm27 Q h2_1 1 34 5 #[.val (.ref x), .val (.int k)] [(.ref x)]
  refine N.pop C (pc' := 6) d27_5 rfl rfl ?_
  refine N.aloadN C (pc' := 7) d27_6 rfl rfl rfl ?_
  exact N.retA C rfl rfl d27_7 (by decide) (by decide) (by subst hQ; exact ⟨rfl, Kp, R⟩)
set_option maxRecDepth 65536 in
set_option maxHeartbeats 40000000 in
theorem con35 (G : Gx) (hw : ∀ d ∈ tables_1, d.before G.a0 G.Z = true) (x : Addr) (k : Addr) (h : Heap) (F_x_value : Fld G.Z h x "java/lang/AbstractStringBuilder" "value" "[B" (.ref k)) :
    Con G (⟨"java/lang/AbstractStringBuilder", "getValue", "()[B"⟩ : MethodName) jdk_68_method_64_code 1 (some (.array .byte)) rm35 #[(.ref x)] h (fun v h' => v = some (.ref k) ∧ h = h') := by
  refine Con.of (W := tables_1) (plainFor_of_name pn35) hw (fun mm => ef35 mm x) (fun K C => ?_)
  have C : Cx G K "java/lang/AbstractStringBuilder" "getValue" jdk_68_method_64_code 1 (some (.array .byte)) tables_1 := C
  generalize hQ : (fun v h' => v = some (.ref k) ∧ h = h' : Option Value → Heap → Prop) = Q
  refine N.aloadN C (pc' := 1) d35_0 rfl rfl rfl ?_
  refine N.getF C (pc' := 4) d35_1 (C.w (i := 121) rfl) F_x_value rfl ?_
  exact N.retA C rfl rfl d35_4 (by decide) (by decide) (by subst hQ; exact ⟨rfl, rfl⟩)
set_option maxRecDepth 65536 in
set_option maxHeartbeats 40000000 in
theorem con37 (G : Gx) (hw : ∀ d ∈ tables_1, d.before G.a0 G.Z = true) (x : Addr) (k : Int32) (h : Heap) (F_x_count : Fld G.Z h x "java/lang/AbstractStringBuilder" "count" "I" (.int k)) :
    Con G (⟨"java/lang/AbstractStringBuilder", "length", "()I"⟩ : MethodName) jdk_68_method_6_code 1 (some .int) rm37 #[(.ref x)] h (fun v h' => v = some (.int k) ∧ h = h') := by
  refine Con.of (W := tables_1) (plainFor_of_name pn37) hw (fun mm => ef37 mm x) (fun K C => ?_)
  have C : Cx G K "java/lang/AbstractStringBuilder" "length" jdk_68_method_6_code 1 (some .int) tables_1 := C
  generalize hQ : (fun v h' => v = some (.int k) ∧ h = h' : Option Value → Heap → Prop) = Q
  refine N.aloadN C (pc' := 1) d37_0 rfl rfl rfl ?_
  refine N.getF C (pc' := 4) d37_1 (C.w (i := 145) rfl) F_x_count rfl ?_
  exact N.retI C d37_4 (by decide) (by decide) (by subst hQ; exact ⟨rfl, rfl⟩)
set_option maxRecDepth 65536 in
set_option maxHeartbeats 40000000 in
theorem con36 (G : Gx) (hw : ∀ d ∈ tables_1, d.before G.a0 G.Z = true) (x : Addr) (n : Int32) (h : Heap) (E_x : Exa G.Z h x "java/lang/StringBuilder") (F_x_count : Fld G.Z h x "java/lang/AbstractStringBuilder" "count" "I" (.int n)) :
    Con G (⟨"java/lang/StringBuilder", "length", "()I"⟩ : MethodName) jdk_67_method_93_code 1 (some .int) rm36 #[(.ref x)] h (fun v h' => v = some (.int n) ∧ h = h') := by
  refine Con.of (W := tables_1) (plainFor_of_name pn36) hw (fun mm => ef36 mm x) (fun K C => ?_)
  have C : Cx G K "java/lang/StringBuilder" "length" jdk_67_method_93_code 1 (some .int) tables_1 := C
  generalize hQ : (fun v h' => v = some (.int n) ∧ h = h' : Option Value → Heap → Prop) = Q
  refine N.aloadN C (pc' := 1) d36_0 rfl rfl rfl ?_
  refine N.callU C (pc' := 4) x [] d36_1 (by decide) (C.w (i := 219) rfl) (C.w (i := 150) rfl) rfl (C.w (i := 215) rfl) (C.w (i := 132) rfl) (C.w (i := 117) rfl) (C.w (i := 220) rfl) (by decide) E_x (con37 G hw x n h F_x_count) (lenOf pd___I rfl) rfl (by decide) (show 0 + (1 + 11) + _ ≤ _ from by decide) (by decide) (by decide) (rest := []) rfl rfl ?_
  rintro _ h1_1 ⟨rfl, rfl⟩
  show N G K rm36 Q h 0 0 4 #[.val (.ref x)] [(.int n)]
  exact N.retI C d36_4 (by decide) (by decide) (by subst hQ; exact ⟨rfl, rfl⟩)
set_option maxRecDepth 65536 in
set_option maxHeartbeats 40000000 in
theorem con40 (G : Gx) (hw : ∀ d ∈ tables_1, d.before G.a0 G.Z = true) (n : Int32) (h : Heap) (hn : 0 ≤ n.toInt) :
    Con G (⟨"java/util/Arrays", "checkLength", "(II)V"⟩ : MethodName) jdk_65_method_131_code 2 none rm40 #[(.int (0 : Int32)), (.int n)] h (fun v h' => v = none ∧ h = h') := by
  refine Con.of (W := tables_1) (plainFor_of_name pn40) hw (fun mm => ef40 mm (0 : Int32) n) (fun K C => ?_)
  have C : Cx G K "java/util/Arrays" "checkLength" jdk_65_method_131_code 2 none tables_1 := C
  generalize hQ : (fun v h' => v = none ∧ h = h' : Option Value → Heap → Prop) = Q
  refine N.iloadN C (pc' := 1) d40_0 rfl rfl ?_
  refine N.iloadN C (pc' := 2) d40_1 rfl rfl ?_
  refine N.icmp C (pt := 37) (pf := 5) d40_2 rfl rfl (fun (hc2 : 0 ≤ n.toInt) => ?_) (fun (hc2 : n.toInt < 0) => absurd (show False from by omega) id)
  exact N.ret0 C rfl d40_37 (by decide) (by decide) (by subst hQ; exact ⟨rfl, rfl⟩)
set_option maxRecDepth 65536 in
set_option maxHeartbeats 40000000 in
theorem con39 (G : Gx) (hw : ∀ d ∈ tables_1, d.before G.a0 G.Z = true) (b : Addr) (n : Int32) (bs cs : List Int32) (h : Heap) (hn : n.toInt = (cs.length : Nat)) (pf : own_pf bs cs) (hby : own_by bs) (hb1 : bs.length ≤ 34) (Z0 : G.n0 ≤ h.size) (A_b : Av G.Z h b .byte (bs.map .int)) :
    Con G (⟨"java/util/Arrays", "copyOfRangeByte", "([BII)[B"⟩ : MethodName) jdk_65_method_133_code 5 (some (.array .byte)) rm39 #[(.ref b), (.int (0 : Int32)), (.int n)] h (fun v h' => ∃ d : Addr, v = some (.ref d) ∧ h.size ≤ d ∧ Keep h h' [] ∧ Av G.Z h' d .byte (cs.map .int)) := by
  refine Con.of (W := tables_1) (plainFor_of_name pn39) hw (fun mm => ef39 mm b (0 : Int32) n) (fun K C => ?_)
  have C : Cx G K "java/util/Arrays" "copyOfRangeByte" jdk_65_method_133_code 5 (some (.array .byte)) tables_1 := C
  generalize hQ : (fun v h' => ∃ d : Addr, v = some (.ref d) ∧ h.size ≤ d ∧ Keep h h' [] ∧ Av G.Z h' d .byte (cs.map .int) : Option Value → Heap → Prop) = Q
  have K0 : Keep h h [] := Keep.refl _ _
  obtain ⟨c, hcl, len_b⟩ := own_lenI (zs := bs) (by omega)
  have hle := own_pfLe pf
  have e0 : (0 : Int32).toInt = 0 := by decide
  have hc0 : (c - (0 : Int32)).toInt = c.toInt := by have h1 := c_isub c 0; have h2 := rng32 (c - 0); have h3 := rng32 c; omega
  have hn0 : (n - (0 : Int32)).toInt = n.toInt := by have h1 := c_isub n 0; have h2 := rng32 (n - 0); have h3 := rng32 n; omega
  refine N.iloadN C (pc' := 1) d39_0 rfl rfl ?_
  refine N.iloadN C (pc' := 2) d39_1 rfl rfl ?_
  refine N.callS C (pc' := 5) [(.int (0 : Int32)), (.int n)] d39_2 (C.w (i := 229) rfl) (C.w (i := 230) rfl) (C.w (i := 224) rfl) (C.w (i := 231) rfl) (by decide) (con40 G hw n h (by omega)) (lenOf pd__II_V rfl) rfl (by decide) (show 0 + (2 + 11) + _ ≤ _ from by decide) (by decide) (by decide) (rest := []) rfl rfl ?_
  rintro _ h2_1 ⟨rfl, rfl⟩
  show N G K rm39 Q h 0 0 5 #[.val (.ref b), .val (.int (0 : Int32)), .val (.int n), .unset, .unset] []
  refine N.iloadN C (pc' := 6) d39_5 rfl rfl ?_
  refine N.iloadN C (pc' := 7) d39_6 rfl rfl ?_
  refine N.isub C (pc' := 8) d39_7 rfl ?_
  generalize hd_nl : (n - (0 : Int32)) = nl at *
  refine N.istoreN C (pc' := 9) (ls' := #[.val (.ref b), .val (.int (0 : Int32)), .val (.int n), .val (.int nl), .unset]) d39_8 rfl rfl ?_
  refine N.iloadN C (pc' := 10) d39_9 rfl rfl ?_
  refine N.newP C (pc' := 12) (n := nl) 34 d39_10 (C.w (i := 19) rfl) (by omega) (by omega) (by decide) (by decide) (by decide) rfl (fun h10_2 d hx_d Ex10 A'_d => ?_)
  have ne_b_d : b ≠ d := by rw [hx_d]; exact Nat.ne_of_lt A_b.lt
  have ne_d_b := Ne.symm ne_b_d
  have g_d : G.n0 ≤ d := by rw [hx_d]; exact Z0
  have sz_d : h.size ≤ d := by rw [hx_d]; exact K0.1
  have Z0 := Nat.le_trans Z0 Ex10.1
  have A_b := A_b.ext Ex10
  have K0 := K0.ext Ex10
  have A_d : Av G.Z h10_2 d .byte (List.replicate nl.toInt.toNat (.int (0 : Int32))) := A'_d
  refine N.astore C (pc' := 14) (ls' := #[.val (.ref b), .val (.int (0 : Int32)), .val (.int n), .val (.int nl), .val (.ref d)]) d39_12 rfl rfl rfl ?_
  refine N.aloadN C (pc' := 15) d39_14 rfl rfl rfl ?_
  refine N.iloadN C (pc' := 16) d39_15 rfl rfl ?_
  refine N.aload C (pc' := 18) d39_16 rfl rfl rfl ?_
  refine N.iconst C (pc' := 19) (z := 0) d39_18 rfl rfl ?_
  refine N.aloadN C (pc' := 20) d39_19 rfl rfl rfl ?_
  refine N.alen C (pc' := 21) (n := c) d39_20 A_b len_b rfl ?_
  refine N.iloadN C (pc' := 22) d39_21 rfl rfl ?_
  refine N.isub C (pc' := 23) d39_22 rfl ?_
  refine N.iloadN C (pc' := 24) d39_23 rfl rfl ?_
  refine N.callS C (pc' := 27) [(.int (c - (0 : Int32))), (.int nl)] d39_24 (C.w (i := 232) rfl) (C.w (i := 233) rfl) (C.w (i := 234) rfl) (C.w (i := 235) rfl) (by decide) (con41 G hw (c - (0 : Int32)) nl h10_2) (lenOf pd__II_I rfl) rfl (by decide) (show 4 + (2 + 11) + _ ≤ _ from by decide) (by decide) (by decide) (rest := [(.int (0 : Int32)), (.ref d), (.int (0 : Int32)), (.ref b)]) rfl rfl ?_
  rintro _ h24_3 ⟨q, rfl, rfl, hq⟩
  show N G K rm39 Q h10_2 1 34 27 #[.val (.ref b), .val (.int (0 : Int32)), .val (.int n), .val (.int nl), .val (.ref d)] [(.int q), (.int (0 : Int32)), (.ref d), (.int (0 : Int32)), (.ref b)]
  have hed := own_z (show nl.toInt.toNat = cs.length from by omega)
  rw [hed] at A_d
  have hq16 : q.toInt = (cs.length : Nat) := by omega
  refine N.copyB C (pc' := 30) (as := bs) (bs := (List.replicate cs.length (0 : Int32))) (p0 := 0) (q0 := 0) (n := cs.length) d39_27 (C.w (i := 236) rfl) (C.w (i := 171) rfl) (C.w (i := 169) rfl) (C.w (i := 170) rfl) A_b A_d (own_fb hby) (own_fb (own_byZ _)) (by omega) (by rw [List.length_replicate]; omega) rfl rfl hq16 (by omega) (by rw [List.length_replicate]; omega) g_d rfl (by decide) (show 0 + (nativeFrameWords "java/lang/System" "arraycopy" 5 + 11) ≤ _ from by decide) rfl (fun h27_4 KC27 A_d' => ?_)
  have Z0 := Nat.le_trans Z0 KC27.1
  have A_b := A_b.keep KC27 (ninS ne_b_d nin0)
  have K0 := K0.trans KC27 (allS (Or.inr sz_d) all0)
  have A_d := A_d'
  rw [own_range pf] at A_d
  refine N.aload C (pc' := 32) d39_30 rfl rfl rfl ?_
  exact N.retA C rfl rfl d39_32 (by decide) (by decide) (by subst hQ; exact ⟨d, rfl, sz_d, K0, A_d⟩)
set_option maxRecDepth 65536 in
set_option maxHeartbeats 40000000 in
theorem con38 (G : Gx) (hw : ∀ d ∈ tables_1, d.before G.a0 G.Z = true) (b : Addr) (n : Int32) (bs cs : List Int32) (h : Heap) (hn : n.toInt = (cs.length : Nat)) (pf : own_pf bs cs) (hby : own_by bs) (hb1 : bs.length ≤ 34) (Z0 : G.n0 ≤ h.size) (A_b : Av G.Z h b .byte (bs.map .int)) (E_b : Exa G.Z h b "[B") :
    Con G (⟨"java/util/Arrays", "copyOfRange", "([BII)[B"⟩ : MethodName) jdk_65_method_132_code 3 (some (.array .byte)) rm38 #[(.ref b), (.int (0 : Int32)), (.int n)] h (fun v h' => ∃ d : Addr, v = some (.ref d) ∧ h.size ≤ d ∧ Keep h h' [] ∧ Av G.Z h' d .byte (cs.map .int)) := by
  refine Con.of (W := tables_1) (plainFor_of_name pn38) hw (fun mm => ef38 mm b (0 : Int32) n) (fun K C => ?_)
  have C : Cx G K "java/util/Arrays" "copyOfRange" jdk_65_method_132_code 3 (some (.array .byte)) tables_1 := C
  generalize hQ : (fun v h' => ∃ d : Addr, v = some (.ref d) ∧ h.size ≤ d ∧ Keep h h' [] ∧ Av G.Z h' d .byte (cs.map .int) : Option Value → Heap → Prop) = Q
  have K0 : Keep h h [] := Keep.refl _ _
  obtain ⟨c, hcl, len_b⟩ := own_lenI (zs := bs) (by omega)
  refine N.iloadN C (pc' := 1) d38_0 rfl rfl ?_
  refine N.ifc C (pt := 10) (pf := 4) d38_1 rfl rfl (fun (q : ¬ (0 : Int32) = (0 : Int32)) => absurd q (by decide)) (fun _ => ?_)
  refine N.iloadN C (pc' := 5) d38_4 rfl rfl ?_
  refine N.aloadN C (pc' := 6) d38_5 rfl rfl rfl ?_
  refine N.alen C (pc' := 7) (n := c) d38_6 A_b len_b rfl ?_
  refine N.icmp C (pt := 17) (pf := 10) d38_7 rfl rfl (fun (hc7 : n = c) => ?_) (fun (hc7 : ¬ n = c) => ?_)
  · have hi7 : n.toInt = c.toInt := eqI hc7
    refine N.aloadN C (pc' := 18) d38_17 rfl rfl rfl ?_
    refine N.cloneB C (pc' := 21) (as := bs) 34 d38_18 (C.w (i := 340) rfl) (C.w (i := 341) rfl) (C.w (i := 345) rfl) (C.w (i := 343) rfl) (C.w (i := 344) rfl) (C.w (i := 346) rfl) A_b E_b (own_fb hby) hb1 rfl (by decide) (show 0 + 14 ≤ _ from by decide) (by decide) (by decide) rfl (fun h18_1 d hx_d Ex18 A'_d E_d => ?_)
    have ne_b_d : b ≠ d := by rw [hx_d]; exact Nat.ne_of_lt E_b.lt
    have ne_d_b := Ne.symm ne_b_d
    have g_d : G.n0 ≤ d := by rw [hx_d]; exact Z0
    have sz_d : h.size ≤ d := by rw [hx_d]; exact K0.1
    have Z0 := Nat.le_trans Z0 Ex18.1
    have E_b := E_b.ext Ex18
    have A_b := A_b.ext Ex18
    have K0 := K0.ext Ex18
    have A_d := A'_d
    refine N.checkcast C (pc' := 24) d38_21 (C.w (i := 347) rfl) (Ins.self E_d) rfl ?_
    exact N.retA C rfl rfl d38_24 (by decide) (by decide) (by subst hQ; exact ⟨d, rfl, sz_d, K0, own_all pf (by have q := eqI hc7; omega) ▸ A_d⟩)
  · have hi7 : ¬ n.toInt = c.toInt := neI hc7
    refine N.aloadN C (pc' := 11) d38_10 rfl rfl rfl ?_
    refine N.iloadN C (pc' := 12) d38_11 rfl rfl ?_
    refine N.iloadN C (pc' := 13) d38_12 rfl rfl ?_
    refine N.callS C (pc' := 16) [(.ref b), (.int (0 : Int32)), (.int n)] d38_13 (C.w (i := 226) rfl) (C.w (i := 227) rfl) (C.w (i := 224) rfl) (C.w (i := 228) rfl) (by decide) (con39 G hw b n bs cs h hn pf hby hb1 Z0 A_b) (lenOf pd___BII__B rfl) rfl (by decide) (show 0 + (5 + 11) + _ ≤ _ from by decide) (by decide) (by decide) (rest := []) rfl rfl ?_
    rintro _ h13_2 ⟨d, rfl, hzd, Kp, A_d⟩
    show N G K rm38 Q h13_2 1 34 16 #[.val (.ref b), .val (.int (0 : Int32)), .val (.int n)] [(.ref d)]
    exact N.retA C rfl rfl d38_16 (by decide) (by decide) (by subst hQ; exact ⟨d, rfl, hzd, Kp, A_d⟩)
set_option maxRecDepth 65536 in
set_option maxHeartbeats 40000000 in
theorem con34 (G : Gx) (hw : ∀ d ∈ tables_1, d.before G.a0 G.Z = true) (t x b : Addr) (n : Int32) (bs cs : List Int32) (cp : Int32) (dO dT us sn : Addr) (h : Heap) (SS : Ss G cp dO dT us sn) (O : Old G.Z G.n0 h) (Z0 : G.n0 ≤ h.size) (g_t : G.n0 ≤ t) (ne_t_x : t ≠ x) (ne_t_b : t ≠ b) (E_t : Exa G.Z h t "java/lang/String") (F_t_value : Fld G.Z h t "java/lang/String" "value" "[B" .null) (F_t_coder : Fld G.Z h t "java/lang/String" "coder" "B" (.int (0 : Int32))) (B : Sb G h x b n bs cs) :
    Con G (⟨"java/lang/String", "<init>", "(Ljava/lang/AbstractStringBuilder;Ljava/lang/Void;)V"⟩ : MethodName) jdk_42_method_150_code 5 none rm34 #[(.ref t), (.ref x), .null] h (fun v h' => v = none ∧ Keep h h' [t] ∧ ∃ d : Addr, h.size ≤ d ∧ Str G h' t d cs) := by
  refine Con.of (W := tables_1) (plainFor_of_name pn34) hw (fun mm => ef34 mm t x) (fun K C => ?_)
  have C : Cx G K "java/lang/String" "<init>" jdk_42_method_150_code 5 none tables_1 := C
  generalize hQ : (fun v h' => v = none ∧ Keep h h' [t] ∧ ∃ d : Addr, h.size ≤ d ∧ Str G h' t d cs : Option Value → Heap → Prop) = Q
  have E_x := B.E
  have F_x_value := B.Fv
  have F_x_coder := B.Fc
  have F_x_count := B.Fn
  have A_b := B.A
  have E_b := B.Eb
  have ne_x_b := B.ne
  have ne_b_x := Ne.symm B.ne
  have g_x := B.gx
  have g_b := B.gb
  have hcap_b := B.cap
  have K0 : Keep h h [t] := Keep.refl _ _
  have ne_x_t := Ne.symm ne_t_x
  have ne_b_t := Ne.symm ne_t_b
  refine N.aloadN C (pc' := 1) d34_0 rfl rfl rfl ?_
  refine N.initO C (pc' := 4) d34_1 (C.w (i := 15) rfl) (C.w (i := 16) rfl) (C.w (i := 17) rfl) rfl (by decide) (show 0 + 12 ≤ _ from by decide) rfl ?_
  refine N.aloadN C (pc' := 5) d34_4 rfl rfl rfl ?_
  refine N.callVK C (pc' := 8) x [] d34_5 (C.w (i := 208) rfl) (C.w (i := 209) rfl) (C.w (i := 150) rfl) rfl (C.w (i := 211) rfl) (C.w (i := 210) rfl) (C.w (i := 117) rfl) (C.w (i := 212) rfl) (by decide) E_x (con35 G hw x b h F_x_value) (lenOf pd____B rfl) rfl (by decide) (show 0 + (1 + 11) + _ ≤ _ from by decide) (by decide) (by decide) (rest := []) rfl rfl ?_
  rintro _ h5_1 ⟨rfl, rfl⟩
  show N G K rm34 Q h 0 0 8 #[.val (.ref t), .val (.ref x), .val .null, .unset, .unset] [(.ref b)]
  refine N.astoreN C (pc' := 9) (ls' := #[.val (.ref t), .val (.ref x), .val .null, .val (.ref b), .unset]) d34_8 rfl rfl rfl ?_
  refine N.aloadN C (pc' := 10) d34_9 rfl rfl rfl ?_
  refine N.callVK C (pc' := 13) x [] d34_10 (C.w (i := 213) rfl) (C.w (i := 214) rfl) (C.w (i := 150) rfl) rfl (C.w (i := 216) rfl) (C.w (i := 217) rfl) (C.w (i := 109) rfl) (C.w (i := 218) rfl) (by decide) E_x (con36 G hw x n h E_x F_x_count) (lenOf pd___I rfl) rfl (by decide) (show 0 + (1 + 11) + _ ≤ _ from by decide) (by decide) (by decide) (rest := []) rfl rfl ?_
  rintro _ h10_2 ⟨rfl, rfl⟩
  show N G K rm34 Q h 0 0 13 #[.val (.ref t), .val (.ref x), .val .null, .val (.ref b), .unset] [(.int n)]
  refine N.istore C (pc' := 15) (ls' := #[.val (.ref t), .val (.ref x), .val .null, .val (.ref b), .val (.int n)]) d34_13 rfl rfl ?_
  refine N.aloadN C (pc' := 16) d34_15 rfl rfl rfl ?_
  refine N.callVK C (pc' := 19) x [] d34_16 (C.w (i := 221) rfl) (C.w (i := 187) rfl) (C.w (i := 150) rfl) rfl (C.w (i := 189) rfl) (C.w (i := 188) rfl) (C.w (i := 117) rfl) (C.w (i := 190) rfl) (by decide) E_x (con30 G hw x cp dO dT us sn h SS O F_x_coder) (lenOf pd___Z rfl) rfl (by decide) (show 0 + (1 + 11) + _ ≤ _ from by decide) (by decide) (by decide) (rest := []) rfl rfl ?_
  rintro _ h16_3 ⟨rfl, rfl⟩
  show N G K rm34 Q h 0 0 19 #[.val (.ref t), .val (.ref x), .val .null, .val (.ref b), .val (.int n)] [(.int (1 : Int32))]
  refine N.ifc C (pt := 41) (pf := 22) d34_19 rfl rfl (fun (q : (1 : Int32) = (0 : Int32)) => absurd q (by decide)) (fun _ => ?_)
  refine N.aloadN C (pc' := 23) d34_22 rfl rfl rfl ?_
  refine N.iconst C (pc' := 24) (z := 0) d34_23 rfl rfl ?_
  refine N.putFN C (pc' := 27) (v' := (.int (0 : Int32))) d34_24 (C.w (i := 25) rfl) F_t_coder E_t (Or.inr ⟨(C.w (i := 21) rfl), rfl, rfl⟩) (C.w (i := 5) rfl) (ty := .byte) (by decide) rfl (by decide) g_t rfl (fun h24_4 W24 => ?_)
  have O := O.wr W24 g_t
  have Z0 : G.n0 ≤ _ := (Wr.size W24).symm ▸ Z0
  have F_x_value := F_x_value.other W24 (Or.inl ne_x_t)
  have F_x_coder := F_x_coder.other W24 (Or.inl ne_x_t)
  have F_x_count := F_x_count.other W24 (Or.inl ne_x_t)
  have F_t_value := F_t_value.other W24 (Or.inr (slot_ne (Or.inr (C.w (i := 20) rfl)) (Or.inr (C.w (i := 21) rfl)) (by decide) (t := (.array .byte)) (t' := .byte) (by decide) (by decide)))
  have F_t_coder := F_t_coder.same W24
  have E_x := E_x.wr W24
  have E_b := E_b.wr W24
  have E_t := E_t.wr W24
  have A_b := A_b.other W24 ne_b_t
  have K0 := K0.wr W24 (Or.inl (List.mem_of_getElem? (i := 0) rfl))
  refine N.aloadN C (pc' := 28) d34_27 rfl rfl rfl ?_
  refine N.aloadN C (pc' := 29) d34_28 rfl rfl rfl ?_
  refine N.iconst C (pc' := 30) (z := 0) d34_29 rfl rfl ?_
  refine N.iload C (pc' := 32) d34_30 rfl rfl ?_
  refine N.callS C (pc' := 35) [(.ref b), (.int (0 : Int32)), (.int n)] d34_32 (C.w (i := 222) rfl) (C.w (i := 223) rfl) (C.w (i := 224) rfl) (C.w (i := 225) rfl) (by decide) (con38 G hw b n bs cs h24_4 B.cnt B.pf B.by' (by omega) Z0 A_b E_b) (lenOf pd___BII__B rfl) rfl (by decide) (show 1 + (3 + 11) + _ ≤ _ from by decide) (by decide) (by decide) (rest := [(.ref t)]) rfl rfl ?_
  rintro _ h32_5 ⟨d, rfl, hzd, KpR, A_d⟩
  have ne_x_d : x ≠ d := Nat.ne_of_lt (Nat.lt_of_lt_of_le F_x_value.lt hzd)
  have ne_d_x := Ne.symm ne_x_d
  have ne_b_d : b ≠ d := Nat.ne_of_lt (Nat.lt_of_lt_of_le E_b.lt hzd)
  have ne_d_b := Ne.symm ne_b_d
  have ne_t_d : t ≠ d := Nat.ne_of_lt (Nat.lt_of_lt_of_le F_t_value.lt hzd)
  have ne_d_t := Ne.symm ne_t_d
  have g_d : G.n0 ≤ d := Nat.le_trans Z0 hzd
  have sz_d : h.size ≤ d := Nat.le_trans K0.1 hzd
  have O := O.keep KpR all0
  have Z0 := Nat.le_trans Z0 KpR.1
  have F_x_value := F_x_value.keep KpR nin0
  have F_x_coder := F_x_coder.keep KpR nin0
  have F_x_count := F_x_count.keep KpR nin0
  have F_t_value := F_t_value.keep KpR nin0
  have F_t_coder := F_t_coder.keep KpR nin0
  have E_x := E_x.keep KpR
  have E_b := E_b.keep KpR
  have E_t := E_t.keep KpR
  have A_b := A_b.keep KpR nin0
  have K0 := K0.trans KpR all0
  show N G K rm34 Q h32_5 1 34 35 #[.val (.ref t), .val (.ref x), .val .null, .val (.ref b), .val (.int n)] [(.ref d), (.ref t)]
  refine N.putF C (pc' := 38) d34_35 (C.w (i := 24) rfl) F_t_value E_t (Or.inr ⟨(C.w (i := 20) rfl), rfl, rfl⟩) (C.w (i := 5) rfl) (ty := (.array .byte)) (by decide) rfl rfl g_t rfl (fun h35_6 W35 => ?_)
  have O := O.wr W35 g_t
  have Z0 : G.n0 ≤ _ := (Wr.size W35).symm ▸ Z0
  have F_x_value := F_x_value.other W35 (Or.inl ne_x_t)
  have F_x_coder := F_x_coder.other W35 (Or.inl ne_x_t)
  have F_x_count := F_x_count.other W35 (Or.inl ne_x_t)
  have F_t_value := F_t_value.same W35
  have F_t_coder := F_t_coder.other W35 (Or.inr (slot_ne (Or.inr (C.w (i := 21) rfl)) (Or.inr (C.w (i := 20) rfl)) (by decide) (t := .byte) (t' := (.array .byte)) (by decide) (by decide)))
  have E_x := E_x.wr W35
  have E_b := E_b.wr W35
  have E_t := E_t.wr W35
  have A_b := A_b.other W35 ne_b_t
  have A_d := A_d.other W35 ne_d_t
  have K0 := K0.wr W35 (Or.inl (List.mem_of_getElem? (i := 0) rfl))
  refine N.goto C (pc' := 97) d34_38 rfl ?_
  exact N.ret0 C rfl d34_97 (by decide) (by decide) (by subst hQ; exact ⟨rfl, K0, d, sz_d, ⟨E_t, F_t_coder, F_t_value, A_d⟩⟩)
set_option maxRecDepth 65536 in
set_option maxHeartbeats 40000000 in
theorem con33 (G : Gx) (hw : ∀ d ∈ tables_1, d.before G.a0 G.Z = true) (t x b : Addr) (n : Int32) (bs cs : List Int32) (cp : Int32) (dO dT us sn : Addr) (h : Heap) (SS : Ss G cp dO dT us sn) (O : Old G.Z G.n0 h) (Z0 : G.n0 ≤ h.size) (g_t : G.n0 ≤ t) (ne_t_x : t ≠ x) (ne_t_b : t ≠ b) (E_t : Exa G.Z h t "java/lang/String") (F_t_value : Fld G.Z h t "java/lang/String" "value" "[B" .null) (F_t_coder : Fld G.Z h t "java/lang/String" "coder" "B" (.int (0 : Int32))) (B : Sb G h x b n bs cs) :
    Con G (⟨"java/lang/String", "<init>", "(Ljava/lang/StringBuilder;)V"⟩ : MethodName) jdk_42_method_53_code 2 none rm33 #[(.ref t), (.ref x)] h (fun v h' => v = none ∧ Keep h h' [t] ∧ ∃ d : Addr, h.size ≤ d ∧ Str G h' t d cs) := by
  refine Con.of (W := tables_1) (plainFor_of_name pn33) hw (fun mm => ef33 mm t x) (fun K C => ?_)
  have C : Cx G K "java/lang/String" "<init>" jdk_42_method_53_code 2 none tables_1 := C
  generalize hQ : (fun v h' => v = none ∧ Keep h h' [t] ∧ ∃ d : Addr, h.size ≤ d ∧ Str G h' t d cs : Option Value → Heap → Prop) = Q
  refine N.aloadN C (pc' := 1) d33_0 rfl rfl rfl ?_
  refine N.aloadN C (pc' := 2) d33_1 rfl rfl rfl ?_
  refine N.aconst_null C (pc' := 3) d33_2 rfl ?_
  refine N.callI C (pc' := 6) t [(.ref x), .null] d33_3 rfl (C.w (i := 205) rfl) (C.w (i := 206) rfl) (C.w (i := 6) rfl) (C.w (i := 207) rfl) (by decide) (con34 G hw t x b n bs cs cp dO dT us sn h SS O Z0 g_t ne_t_x ne_t_b E_t F_t_value F_t_coder B) (lenOf pd__Ljava_lang_AbstractStringBuilder_Ljava_lang_Void__V rfl) rfl (by decide) (show 0 + (5 + 11) + _ ≤ _ from by decide) (by decide) (by decide) (rest := []) rfl rfl ?_
  rintro _ h3_1 ⟨rfl, Kp, R⟩
  show N G K rm33 Q h3_1 1 34 6 #[.val (.ref t), .val (.ref x)] []
  exact N.ret0 C rfl d33_6 (by decide) (by decide) (by subst hQ; exact ⟨rfl, Kp, R⟩)
set_option maxRecDepth 65536 in
set_option maxHeartbeats 40000000 in
theorem con32 (G : Gx) (hw : ∀ d ∈ tables_1, d.before G.a0 G.Z = true) (x b : Addr) (n : Int32) (bs cs : List Int32) (cp : Int32) (dO dT us sn : Addr) (h : Heap) (SS : Ss G cp dO dT us sn) (O : Old G.Z G.n0 h) (Z0 : G.n0 ≤ h.size) (B : Sb G h x b n bs cs) :
    Con G (⟨"java/lang/StringBuilder", "toString", "()Ljava/lang/String;"⟩ : MethodName) jdk_67_method_42_code 1 (some (.object "java/lang/String")) rm32 #[(.ref x)] h (fun v h' => ∃ t d : Addr, v = some (.ref t) ∧ h.size ≤ t ∧ h.size ≤ d ∧ Keep h h' [] ∧ Str G h' t d cs) := by
  refine Con.of (W := tables_1) (plainFor_of_name pn32) hw (fun mm => ef32 mm x) (fun K C => ?_)
  have C : Cx G K "java/lang/StringBuilder" "toString" jdk_67_method_42_code 1 (some (.object "java/lang/String")) tables_1 := C
  generalize hQ : (fun v h' => ∃ t d : Addr, v = some (.ref t) ∧ h.size ≤ t ∧ h.size ≤ d ∧ Keep h h' [] ∧ Str G h' t d cs : Option Value → Heap → Prop) = Q
  have E_x := B.E
  have F_x_value := B.Fv
  have F_x_coder := B.Fc
  have F_x_count := B.Fn
  have A_b := B.A
  have E_b := B.Eb
  have ne_x_b := B.ne
  have ne_b_x := Ne.symm B.ne
  have g_x := B.gx
  have g_b := B.gb
  have hcap_b := B.cap
  have K0 : Keep h h [] := Keep.refl _ _
  refine N.newO C (pc' := 3) d32_0 (C.w (i := 201) rfl) (C.w (i := 5) rfl) (C.w (i := 6) rfl) (by decide) (by decide) rfl (fun h0_1 t hx_t Ex0 E_t D_t => ?_)
  have ne_x_t : x ≠ t := by rw [hx_t]; exact Nat.ne_of_lt F_x_value.lt
  have ne_t_x := Ne.symm ne_x_t
  have ne_b_t : b ≠ t := by rw [hx_t]; exact Nat.ne_of_lt E_b.lt
  have ne_t_b := Ne.symm ne_b_t
  have g_t : G.n0 ≤ t := by rw [hx_t]; exact Z0
  have sz_t : h.size ≤ t := by rw [hx_t]; exact K0.1
  have Z0 := Nat.le_trans Z0 Ex0.1
  have O := O.ext Ex0
  have F_x_value := F_x_value.ext Ex0
  have F_x_coder := F_x_coder.ext Ex0
  have F_x_count := F_x_count.ext Ex0
  have E_x := E_x.ext Ex0
  have E_b := E_b.ext Ex0
  have A_b := A_b.ext Ex0
  have K0 := K0.ext Ex0
  have F_t_value : Fld G.Z h0_1 t "java/lang/String" "value" "[B" .null := D_t (Or.inr (C.w (i := 20) rfl)) (ty := (.array .byte)) (by decide)
  have F_t_coder : Fld G.Z h0_1 t "java/lang/String" "coder" "B" (.int (0 : Int32)) := D_t (Or.inr (C.w (i := 21) rfl)) (ty := .byte) (by decide)
  refine N.dup C (pc' := 4) d32_3 rfl rfl ?_
  refine N.aloadN C (pc' := 5) d32_4 rfl rfl rfl ?_
  refine N.callI C (pc' := 8) t [(.ref x)] d32_5 rfl (C.w (i := 202) rfl) (C.w (i := 203) rfl) (C.w (i := 6) rfl) (C.w (i := 204) rfl) (by decide) (con33 G hw t x b n bs cs cp dO dT us sn h0_1 SS O Z0 g_t ne_t_x ne_t_b E_t F_t_value F_t_coder ⟨E_x, F_x_value, F_x_coder, F_x_count, A_b, E_b, B.ne, B.gx, B.gb, B.cnt, B.pf, B.by', B.cap⟩) (lenOf pd__Ljava_lang_StringBuilder__V rfl) rfl (by decide) (show 1 + (2 + 11) + _ ≤ _ from by decide) (by decide) (by decide) (rest := [(.ref t)]) rfl rfl ?_
  rintro _ h5_2 ⟨rfl, KpT, d, hzd, TT⟩
  have sz_d : h.size ≤ d := Nat.le_trans K0.1 hzd
  have O := O.keep KpT (allS g_t all0)
  have Z0 := Nat.le_trans Z0 KpT.1
  have F_x_value := F_x_value.keep KpT (ninS ne_x_t nin0)
  have F_x_coder := F_x_coder.keep KpT (ninS ne_x_t nin0)
  have F_x_count := F_x_count.keep KpT (ninS ne_x_t nin0)
  have E_x := E_x.keep KpT
  have E_b := E_b.keep KpT
  have E_t := E_t.keep KpT
  have A_b := A_b.keep KpT (ninS ne_b_t nin0)
  have K0 := K0.trans KpT (allS (Or.inr sz_t) all0)
  show N G K rm32 Q h5_2 2 38 8 #[.val (.ref x)] [(.ref t)]
  exact N.retA C rfl rfl d32_8 (by decide) (by decide) (by subst hQ; exact ⟨t, d, rfl, sz_t, sz_d, K0, TT⟩)
set_option maxRecDepth 65536 in
set_option maxHeartbeats 40000000 in
theorem con43 (G : Gx) (hw : ∀ d ∈ tables_1, d.before G.a0 G.Z = true) (x m : Addr) (cp : Int32) (dO dT us sn : Addr) (h : Heap) (SS : Ss G cp dO dT us sn) (O : Old G.Z G.n0 h) (Z0 : G.n0 ≤ h.size) (g_x : G.n0 ≤ x) (E_x : Exa G.Z h x "quadrille/SyntaxException") (N_x : Unt h x) (F_x_cause : Fld G.Z h x "java/lang/Throwable" "cause" "Ljava/lang/Throwable;" .null) (F_x_stackTrace : Fld G.Z h x "java/lang/Throwable" "stackTrace" "[Ljava/lang/StackTraceElement;" .null) (F_x_suppressedExceptions : Fld G.Z h x "java/lang/Throwable" "suppressedExceptions" "Ljava/util/List;" .null) (F_x_detailMessage : Fld G.Z h x "java/lang/Throwable" "detailMessage" "Ljava/lang/String;" .null) (F_x_backtrace : Fld G.Z h x "java/lang/Throwable" "backtrace" "Ljava/lang/Object;" .null) (F_x_depth : Fld G.Z h x "java/lang/Throwable" "depth" "I" (.int (0 : Int32))) :
    ConS G own_EL [x] (⟨"java/lang/Throwable", "<init>", "(Ljava/lang/String;)V"⟩ : MethodName) jdk_78_method_2_code 2 none rm43 #[(.ref x), (.ref m)] h (fun v h' => v = none ∧ Keep h h' [x] ∧ Exa G.Z h' x "quadrille/SyntaxException" ∧ Fld G.Z h' x "java/lang/Throwable" "detailMessage" "Ljava/lang/String;" (.ref m)) := by
  refine ConS.of (W := tables_1) (plainFor_of_name pn43) hw (own_ew hw) (fun mm => ef43 mm x m) (fun K U hU C Sx => ?_)
  have C : Cx G K "java/lang/Throwable" "<init>" jdk_78_method_2_code 2 none tables_1 := C
  generalize hQ : (fun v h' => v = none ∧ Keep h h' [x] ∧ Exa G.Z h' x "quadrille/SyntaxException" ∧ Fld G.Z h' x "java/lang/Throwable" "detailMessage" "Ljava/lang/String;" (.ref m) : Option Value → Heap → Prop) = Q
  have K0 : Keep h h [x] := Keep.refl _ _
  have O0 := O
  refine N.aloadN C (pc' := 1) d43_0 rfl rfl rfl ?_
  refine N.initO C (pc' := 4) d43_1 (C.w (i := 248) rfl) (C.w (i := 16) rfl) (C.w (i := 17) rfl) rfl (by decide) (show 0 + 12 ≤ _ from by decide) rfl ?_
  refine N.aloadN C (pc' := 5) d43_4 rfl rfl rfl ?_
  refine N.aloadN C (pc' := 6) d43_5 rfl rfl rfl ?_
  refine N.putF C (pc' := 9) d43_6 (C.w (i := 249) rfl) F_x_cause E_x (Or.inl (C.w (i := 250) rfl)) (C.w (i := 92) rfl) (ty := (.object "java/lang/Throwable")) (by decide) rfl rfl g_x rfl (fun h6_1 W6 => ?_)
  have Sx := Sx.wr W6 (List.mem_of_getElem? (i := 0) rfl)
  have O := O.wr W6 g_x
  have Z0 : G.n0 ≤ _ := (Wr.size W6).symm ▸ Z0
  have F_x_cause := F_x_cause.same W6
  have F_x_stackTrace := F_x_stackTrace.other W6 (Or.inr (slot_ne (Or.inl (C.w (i := 253) rfl)) (Or.inl (C.w (i := 250) rfl)) (by decide) (t := (.array (.object "java/lang/StackTraceElement"))) (t' := (.object "java/lang/Throwable")) (by decide) (by decide)))
  have F_x_suppressedExceptions := F_x_suppressedExceptions.other W6 (Or.inr (slot_ne (Or.inl (C.w (i := 256) rfl)) (Or.inl (C.w (i := 250) rfl)) (by decide) (t := (.object "java/util/List")) (t' := (.object "java/lang/Throwable")) (by decide) (by decide)))
  have F_x_detailMessage := F_x_detailMessage.other W6 (Or.inr (slot_ne (Or.inl (C.w (i := 280) rfl)) (Or.inl (C.w (i := 250) rfl)) (by decide) (t := (.object "java/lang/String")) (t' := (.object "java/lang/Throwable")) (by decide) (by decide)))
  have F_x_backtrace := F_x_backtrace.other W6 (Or.inr (slot_ne (Or.inl (C.w (i := 281) rfl)) (Or.inl (C.w (i := 250) rfl)) (by decide) (t := (.object "java/lang/Object")) (t' := (.object "java/lang/Throwable")) (by decide) (by decide)))
  have F_x_depth := F_x_depth.other W6 (Or.inr (slot_ne (Or.inl (C.w (i := 282) rfl)) (Or.inl (C.w (i := 250) rfl)) (by decide) (t := .int) (t' := (.object "java/lang/Throwable")) (by decide) (by decide)))
  have E_x := E_x.wr W6
  have N_x := Unt.wr W6 N_x
  have K0 := K0.wr W6 (Or.inl (List.mem_of_getElem? (i := 0) rfl))
  refine N.aloadN C (pc' := 10) d43_9 rfl rfl rfl ?_
  have S_UNASSIGNED_STACK := SS.sU.ext O.2
  refine N.getS C (pc' := 13) d43_10 (C.w (i := 251) rfl) S_UNASSIGNED_STACK rfl ?_
  refine N.putF C (pc' := 16) d43_13 (C.w (i := 252) rfl) F_x_stackTrace E_x (Or.inl (C.w (i := 253) rfl)) (C.w (i := 92) rfl) (ty := (.array (.object "java/lang/StackTraceElement"))) (by decide) rfl rfl g_x rfl (fun h13_2 W13 => ?_)
  have Sx := Sx.wr W13 (List.mem_of_getElem? (i := 0) rfl)
  have O := O.wr W13 g_x
  have Z0 : G.n0 ≤ _ := (Wr.size W13).symm ▸ Z0
  have F_x_cause := F_x_cause.other W13 (Or.inr (slot_ne (Or.inl (C.w (i := 250) rfl)) (Or.inl (C.w (i := 253) rfl)) (by decide) (t := (.object "java/lang/Throwable")) (t' := (.array (.object "java/lang/StackTraceElement"))) (by decide) (by decide)))
  have F_x_stackTrace := F_x_stackTrace.same W13
  have F_x_suppressedExceptions := F_x_suppressedExceptions.other W13 (Or.inr (slot_ne (Or.inl (C.w (i := 256) rfl)) (Or.inl (C.w (i := 253) rfl)) (by decide) (t := (.object "java/util/List")) (t' := (.array (.object "java/lang/StackTraceElement"))) (by decide) (by decide)))
  have F_x_detailMessage := F_x_detailMessage.other W13 (Or.inr (slot_ne (Or.inl (C.w (i := 280) rfl)) (Or.inl (C.w (i := 253) rfl)) (by decide) (t := (.object "java/lang/String")) (t' := (.array (.object "java/lang/StackTraceElement"))) (by decide) (by decide)))
  have F_x_backtrace := F_x_backtrace.other W13 (Or.inr (slot_ne (Or.inl (C.w (i := 281) rfl)) (Or.inl (C.w (i := 253) rfl)) (by decide) (t := (.object "java/lang/Object")) (t' := (.array (.object "java/lang/StackTraceElement"))) (by decide) (by decide)))
  have F_x_depth := F_x_depth.other W13 (Or.inr (slot_ne (Or.inl (C.w (i := 282) rfl)) (Or.inl (C.w (i := 253) rfl)) (by decide) (t := .int) (t' := (.array (.object "java/lang/StackTraceElement"))) (by decide) (by decide)))
  have E_x := E_x.wr W13
  have N_x := Unt.wr W13 N_x
  have K0 := K0.wr W13 (Or.inl (List.mem_of_getElem? (i := 0) rfl))
  refine N.aloadN C (pc' := 17) d43_16 rfl rfl rfl ?_
  have S_SUPPRESSED_SENTINEL := SS.sS.ext O.2
  refine N.getS C (pc' := 20) d43_17 (C.w (i := 254) rfl) S_SUPPRESSED_SENTINEL rfl ?_
  refine N.putF C (pc' := 23) d43_20 (C.w (i := 255) rfl) F_x_suppressedExceptions E_x (Or.inl (C.w (i := 256) rfl)) (C.w (i := 92) rfl) (ty := (.object "java/util/List")) (by decide) rfl rfl g_x rfl (fun h20_3 W20 => ?_)
  have Sx := Sx.wr W20 (List.mem_of_getElem? (i := 0) rfl)
  have O := O.wr W20 g_x
  have Z0 : G.n0 ≤ _ := (Wr.size W20).symm ▸ Z0
  have F_x_cause := F_x_cause.other W20 (Or.inr (slot_ne (Or.inl (C.w (i := 250) rfl)) (Or.inl (C.w (i := 256) rfl)) (by decide) (t := (.object "java/lang/Throwable")) (t' := (.object "java/util/List")) (by decide) (by decide)))
  have F_x_stackTrace := F_x_stackTrace.other W20 (Or.inr (slot_ne (Or.inl (C.w (i := 253) rfl)) (Or.inl (C.w (i := 256) rfl)) (by decide) (t := (.array (.object "java/lang/StackTraceElement"))) (t' := (.object "java/util/List")) (by decide) (by decide)))
  have F_x_suppressedExceptions := F_x_suppressedExceptions.same W20
  have F_x_detailMessage := F_x_detailMessage.other W20 (Or.inr (slot_ne (Or.inl (C.w (i := 280) rfl)) (Or.inl (C.w (i := 256) rfl)) (by decide) (t := (.object "java/lang/String")) (t' := (.object "java/util/List")) (by decide) (by decide)))
  have F_x_backtrace := F_x_backtrace.other W20 (Or.inr (slot_ne (Or.inl (C.w (i := 281) rfl)) (Or.inl (C.w (i := 256) rfl)) (by decide) (t := (.object "java/lang/Object")) (t' := (.object "java/util/List")) (by decide) (by decide)))
  have F_x_depth := F_x_depth.other W20 (Or.inr (slot_ne (Or.inl (C.w (i := 282) rfl)) (Or.inl (C.w (i := 256) rfl)) (by decide) (t := .int) (t' := (.object "java/util/List")) (by decide) (by decide)))
  have E_x := E_x.wr W20
  have N_x := Unt.wr W20 N_x
  have K0 := K0.wr W20 (Or.inl (List.mem_of_getElem? (i := 0) rfl))
  refine N.aloadN C (pc' := 24) d43_23 rfl rfl rfl ?_
  refine N.fill C Sx SS.hl (rc := "quadrille/SyntaxException") (by decide) d43_24 (C.w (i := 257) rfl) (own_xw hw) (C.w (i := 92) rfl) (by rw [hU]; exact ThS.ext O0.2 ThS.start) E_x N_x F_x_stackTrace (SS.sU.ext O.2) F_x_backtrace F_x_detailMessage (List.mem_of_getElem? (i := 0) rfl) g_x rfl (by decide) (show 0 + 42 ≤ _ from by decide) (by decide) (by decide) rfl (fun h24_4 KpF Sx' FM => ?_)
  have O := O.keep KpF (allS g_x all0)
  have Z0 := Nat.le_trans Z0 KpF.1
  have E_x := E_x.keep KpF
  have K0 := K0.trans KpF (allS (Or.inl (List.mem_of_getElem? (i := 0) rfl)) all0)
  have Sx := Sx'
  have F_x_detailMessage := FM
  refine N.pop C (pc' := 28) d43_27 rfl rfl ?_
  refine N.aloadN C (pc' := 29) d43_28 rfl rfl rfl ?_
  refine N.aloadN C (pc' := 30) d43_29 rfl rfl rfl ?_
  refine N.putF C (pc' := 33) d43_30 (C.w (i := 284) rfl) F_x_detailMessage E_x (Or.inl (C.w (i := 280) rfl)) (C.w (i := 92) rfl) (ty := (.object "java/lang/String")) (by decide) rfl rfl g_x rfl (fun h30_5 W30 => ?_)
  have Sx := Sx.wr W30 (List.mem_of_getElem? (i := 0) rfl)
  have O := O.wr W30 g_x
  have Z0 : G.n0 ≤ _ := (Wr.size W30).symm ▸ Z0
  have F_x_detailMessage := F_x_detailMessage.same W30
  have E_x := E_x.wr W30
  have K0 := K0.wr W30 (Or.inl (List.mem_of_getElem? (i := 0) rfl))
  exact N.ret0S C Sx rfl d43_33 (by decide) (by decide) (by subst hQ; exact ⟨rfl, K0, E_x, F_x_detailMessage⟩)
set_option maxRecDepth 65536 in
set_option maxHeartbeats 40000000 in
theorem con42 (G : Gx) (hw : ∀ d ∈ tables_1, d.before G.a0 G.Z = true) (x m : Addr) (cp : Int32) (dO dT us sn : Addr) (h : Heap) (SS : Ss G cp dO dT us sn) (O : Old G.Z G.n0 h) (Z0 : G.n0 ≤ h.size) (g_x : G.n0 ≤ x) (E_x : Exa G.Z h x "quadrille/SyntaxException") (N_x : Unt h x) (F_x_cause : Fld G.Z h x "java/lang/Throwable" "cause" "Ljava/lang/Throwable;" .null) (F_x_stackTrace : Fld G.Z h x "java/lang/Throwable" "stackTrace" "[Ljava/lang/StackTraceElement;" .null) (F_x_suppressedExceptions : Fld G.Z h x "java/lang/Throwable" "suppressedExceptions" "Ljava/util/List;" .null) (F_x_detailMessage : Fld G.Z h x "java/lang/Throwable" "detailMessage" "Ljava/lang/String;" .null) (F_x_backtrace : Fld G.Z h x "java/lang/Throwable" "backtrace" "Ljava/lang/Object;" .null) (F_x_depth : Fld G.Z h x "java/lang/Throwable" "depth" "I" (.int (0 : Int32))) :
    ConS G own_EL [x] (⟨"java/lang/Exception", "<init>", "(Ljava/lang/String;)V"⟩ : MethodName) jdk_59_method_2_code 2 none rm42 #[(.ref x), (.ref m)] h (fun v h' => v = none ∧ Keep h h' [x] ∧ Exa G.Z h' x "quadrille/SyntaxException" ∧ Fld G.Z h' x "java/lang/Throwable" "detailMessage" "Ljava/lang/String;" (.ref m)) := by
  refine ConS.of (W := tables_1) (plainFor_of_name pn42) hw (own_ew hw) (fun mm => ef42 mm x m) (fun K U hU C Sx => ?_)
  have C : Cx G K "java/lang/Exception" "<init>" jdk_59_method_2_code 2 none tables_1 := C
  generalize hQ : (fun v h' => v = none ∧ Keep h h' [x] ∧ Exa G.Z h' x "quadrille/SyntaxException" ∧ Fld G.Z h' x "java/lang/Throwable" "detailMessage" "Ljava/lang/String;" (.ref m) : Option Value → Heap → Prop) = Q
  refine N.aloadN C (pc' := 1) d42_0 rfl rfl rfl ?_
  refine N.aloadN C (pc' := 2) d42_1 rfl rfl rfl ?_
  refine N.callIS C Sx (pc' := 5) x [(.ref m)] d42_2 rfl (C.w (i := 242) rfl) (C.w (i := 243) rfl) (C.w (i := 246) rfl) (C.w (i := 247) rfl) (by decide) (allS (List.mem_of_getElem? (i := 0) rfl) all0) (con43 G hw x m cp dO dT us sn h SS O Z0 g_x E_x N_x F_x_cause F_x_stackTrace F_x_suppressedExceptions F_x_detailMessage F_x_backtrace F_x_depth) (lenOf pd__Ljava_lang_String__V rfl) rfl (by decide) (show 0 + (2 + 11) + _ ≤ _ from by decide) (by decide) (by decide) (rest := []) rfl rfl ?_
  rintro K _ h2_1 C Sx ⟨rfl, Kp, R⟩
  show NS G K own_EL U rm42 Q h2_1 1 2752 5 #[.val (.ref x), .val (.ref m)] []
  exact N.ret0S C Sx rfl d42_5 (by decide) (by decide) (by subst hQ; exact ⟨rfl, Kp, R⟩)
set_option maxRecDepth 65536 in
set_option maxHeartbeats 40000000 in
theorem con16 (G : Gx) (hw : ∀ d ∈ tables_1, d.before G.a0 G.Z = true) (x s ys m ym : Addr) (l : Int32) (cp : Int32) (dO dT us sn : Addr) (h : Heap) (SS : Ss G cp dO dT us sn) (O : Old G.Z G.n0 h) (Z0 : G.n0 ≤ h.size) (g_x : G.n0 ≤ x) (E_x : Exa G.Z h x "quadrille/SyntaxException") (N_x : Unt h x) (F_x_cause : Fld G.Z h x "java/lang/Throwable" "cause" "Ljava/lang/Throwable;" .null) (F_x_stackTrace : Fld G.Z h x "java/lang/Throwable" "stackTrace" "[Ljava/lang/StackTraceElement;" .null) (F_x_suppressedExceptions : Fld G.Z h x "java/lang/Throwable" "suppressedExceptions" "Ljava/util/List;" .null) (F_x_detailMessage : Fld G.Z h x "java/lang/Throwable" "detailMessage" "Ljava/lang/String;" .null) (F_x_backtrace : Fld G.Z h x "java/lang/Throwable" "backtrace" "Ljava/lang/Object;" .null) (F_x_depth : Fld G.Z h x "java/lang/Throwable" "depth" "I" (.int (0 : Int32))) (ne_s_x : s ≠ x) (ne_ys_x : ys ≠ x) (ne_m_x : m ≠ x) (ne_ym_x : ym ≠ x) (E_s : Exa G.Z h s "java/lang/String") (F_s_coder : Fld G.Z h s "java/lang/String" "coder" "B" (.int (0 : Int32))) (F_s_value : Fld G.Z h s "java/lang/String" "value" "[B" (.ref ys)) (A_ys : Av G.Z h ys .byte (([115] : List Int32).map .int)) (E_m : Exa G.Z h m "java/lang/String") (F_m_coder : Fld G.Z h m "java/lang/String" "coder" "B" (.int (0 : Int32))) (F_m_value : Fld G.Z h m "java/lang/String" "value" "[B" (.ref ym)) (A_ym : Av G.Z h ym .byte (([112] : List Int32).map .int)) :
    ConS G own_EL [x] (⟨"quadrille/SyntaxException", "<init>", "(Ljava/lang/String;IILjava/lang/String;)V"⟩ : MethodName) prog_176_method_1_code 5 none rm16 #[(.ref x), (.ref s), (.int l), (.int (1 : Int32)), (.ref m)] h (fun v h' => v = none ∧ Keep h h' [x] ∧ Exa G.Z h' x "quadrille/SyntaxException" ∧ ∃ t d : Addr, h.size ≤ t ∧ Fld G.Z h' x "java/lang/Throwable" "detailMessage" "Ljava/lang/String;" (.ref t) ∧ Str G h' t d (own_msg l)) := by
  refine ConS.of (W := tables_1) (plainFor_of_name pn16) hw (own_ew hw) (fun mm => ef16 mm x s l (1 : Int32) m) (fun K U hU C Sx => ?_)
  have C : Cx G K "quadrille/SyntaxException" "<init>" prog_176_method_1_code 5 none tables_1 := C
  generalize hQ : (fun v h' => v = none ∧ Keep h h' [x] ∧ Exa G.Z h' x "quadrille/SyntaxException" ∧ ∃ t d : Addr, h.size ≤ t ∧ Fld G.Z h' x "java/lang/Throwable" "detailMessage" "Ljava/lang/String;" (.ref t) ∧ Str G h' t d (own_msg l) : Option Value → Heap → Prop) = Q
  have K0 : Keep h h [x] := Keep.refl _ _
  have ne_x_s := Ne.symm ne_s_x
  have ne_x_ys := Ne.symm ne_ys_x
  have ne_x_m := Ne.symm ne_m_x
  have ne_x_ym := Ne.symm ne_ym_x
  have hdl := own_decL l
  have hd1 : (own_dec 1).length = 1 := by rw [own_dec1]; rfl
  have hl1 : List.length ([] : List Int32) + List.length ([115] : List Int32) ≤ 18 := by simp only [List.length_append, List.length_cons, List.length_nil]; omega
  have hl2 : List.length (([] ++ [115]) : List Int32) + List.length ([58] : List Int32) ≤ 18 := by simp only [List.length_append, List.length_cons, List.length_nil]; omega
  have hl3 : List.length ((([] ++ [115]) ++ [58]) : List Int32) + List.length ((own_dec l) : List Int32) ≤ 18 := by simp only [List.length_append, List.length_cons, List.length_nil]; omega
  have hl4 : List.length (((([] ++ [115]) ++ [58]) ++ (own_dec l)) : List Int32) + List.length ([58] : List Int32) ≤ 18 := by simp only [List.length_append, List.length_cons, List.length_nil]; omega
  have hl5 : List.length ((((([] ++ [115]) ++ [58]) ++ (own_dec l)) ++ [58]) : List Int32) + List.length ((own_dec (1 : Int32)) : List Int32) ≤ 18 := by simp only [List.length_append, List.length_cons, List.length_nil]; omega
  have hl6 : List.length (((((([] ++ [115]) ++ [58]) ++ (own_dec l)) ++ [58]) ++ (own_dec (1 : Int32))) : List Int32) + List.length ([58, 32] : List Int32) ≤ 18 := by simp only [List.length_append, List.length_cons, List.length_nil]; omega
  have hl7 : List.length ((((((([] ++ [115]) ++ [58]) ++ (own_dec l)) ++ [58]) ++ (own_dec (1 : Int32))) ++ [58, 32]) : List Int32) + List.length ([112] : List Int32) ≤ 18 := by simp only [List.length_append, List.length_cons, List.length_nil]; omega
  refine N.aloadN C (pc' := 1) d16_0 rfl rfl rfl ?_
  refine N.newO C (pc' := 4) d16_1 (C.w (i := 107) rfl) (C.w (i := 108) rfl) (C.w (i := 109) rfl) (by decide) (by decide) rfl (fun h1_1 u hx_u Ex1 E_u D_u => ?_)
  have ne_x_u : x ≠ u := by rw [hx_u]; exact Nat.ne_of_lt F_x_cause.lt
  have ne_u_x := Ne.symm ne_x_u
  have ne_s_u : s ≠ u := by rw [hx_u]; exact Nat.ne_of_lt F_s_value.lt
  have ne_u_s := Ne.symm ne_s_u
  have ne_ys_u : ys ≠ u := by rw [hx_u]; exact Nat.ne_of_lt A_ys.lt
  have ne_u_ys := Ne.symm ne_ys_u
  have ne_m_u : m ≠ u := by rw [hx_u]; exact Nat.ne_of_lt F_m_value.lt
  have ne_u_m := Ne.symm ne_m_u
  have ne_ym_u : ym ≠ u := by rw [hx_u]; exact Nat.ne_of_lt A_ym.lt
  have ne_u_ym := Ne.symm ne_ym_u
  have g_u : G.n0 ≤ u := by rw [hx_u]; exact Z0
  have sz_u : h.size ≤ u := by rw [hx_u]; exact K0.1
  have Z0 := Nat.le_trans Z0 Ex1.1
  have O := O.ext Ex1
  have F_x_cause := F_x_cause.ext Ex1
  have F_x_stackTrace := F_x_stackTrace.ext Ex1
  have F_x_suppressedExceptions := F_x_suppressedExceptions.ext Ex1
  have F_x_detailMessage := F_x_detailMessage.ext Ex1
  have F_x_backtrace := F_x_backtrace.ext Ex1
  have F_x_depth := F_x_depth.ext Ex1
  have F_s_value := F_s_value.ext Ex1
  have F_s_coder := F_s_coder.ext Ex1
  have F_m_value := F_m_value.ext Ex1
  have F_m_coder := F_m_coder.ext Ex1
  have E_x := E_x.ext Ex1
  have E_s := E_s.ext Ex1
  have E_m := E_m.ext Ex1
  have A_ys := A_ys.ext Ex1
  have A_ym := A_ym.ext Ex1
  have N_x := Unt.ext Ex1 N_x
  have K0 := K0.ext Ex1
  have Sx := Sx.born Ex1 hx_u E_u.lt
  have F_u_value : Fld G.Z h1_1 u "java/lang/AbstractStringBuilder" "value" "[B" .null := D_u (Or.inl (C.w (i := 122) rfl)) (ty := (.array .byte)) (by decide)
  have F_u_coder : Fld G.Z h1_1 u "java/lang/AbstractStringBuilder" "coder" "B" (.int (0 : Int32)) := D_u (Or.inl (C.w (i := 124) rfl)) (ty := .byte) (by decide)
  have F_u_count : Fld G.Z h1_1 u "java/lang/AbstractStringBuilder" "count" "I" (.int (0 : Int32)) := D_u (Or.inl (C.w (i := 146) rfl)) (ty := .int) (by decide)
  refine N.dup C (pc' := 5) d16_4 rfl rfl ?_
  refine N.callI C (pc' := 8) u [] d16_5 rfl (C.w (i := 110) rfl) (C.w (i := 111) rfl) (C.w (i := 109) rfl) (C.w (i := 112) rfl) (by decide) (con17 G hw u cp dO dT us sn h1_1 SS O Z0 g_u E_u F_u_value F_u_coder F_u_count) (lenOf pd___V rfl) rfl (by decide) (show 2 + (1 + 11) + _ ≤ _ from by decide) (by decide) (by decide) (rest := [(.ref u), (.ref x)]) rfl rfl ?_
  rintro _ h5_2 ⟨rfl, KpI, b0, hz0, B0⟩
  have ne_x_b0 : x ≠ b0 := Nat.ne_of_lt (Nat.lt_of_lt_of_le F_x_cause.lt hz0)
  have ne_b0_x := Ne.symm ne_x_b0
  have ne_s_b0 : s ≠ b0 := Nat.ne_of_lt (Nat.lt_of_lt_of_le F_s_value.lt hz0)
  have ne_b0_s := Ne.symm ne_s_b0
  have ne_ys_b0 : ys ≠ b0 := Nat.ne_of_lt (Nat.lt_of_lt_of_le A_ys.lt hz0)
  have ne_b0_ys := Ne.symm ne_ys_b0
  have ne_m_b0 : m ≠ b0 := Nat.ne_of_lt (Nat.lt_of_lt_of_le F_m_value.lt hz0)
  have ne_b0_m := Ne.symm ne_m_b0
  have ne_ym_b0 : ym ≠ b0 := Nat.ne_of_lt (Nat.lt_of_lt_of_le A_ym.lt hz0)
  have ne_b0_ym := Ne.symm ne_ym_b0
  have ne_u_b0 : u ≠ b0 := Nat.ne_of_lt (Nat.lt_of_lt_of_le F_u_value.lt hz0)
  have ne_b0_u := Ne.symm ne_u_b0
  have g_b0 : G.n0 ≤ b0 := Nat.le_trans Z0 hz0
  have sz_b0 : h.size ≤ b0 := Nat.le_trans K0.1 hz0
  have Sx := Sx.keepNew KpI (allS (List.mem_of_getElem? (i := 0) rfl) all0) hz0 B0.A.lt
  have O := O.keep KpI (allS g_u all0)
  have Z0 := Nat.le_trans Z0 KpI.1
  have F_x_cause := F_x_cause.keep KpI (ninS ne_x_u nin0)
  have F_x_stackTrace := F_x_stackTrace.keep KpI (ninS ne_x_u nin0)
  have F_x_suppressedExceptions := F_x_suppressedExceptions.keep KpI (ninS ne_x_u nin0)
  have F_x_detailMessage := F_x_detailMessage.keep KpI (ninS ne_x_u nin0)
  have F_x_backtrace := F_x_backtrace.keep KpI (ninS ne_x_u nin0)
  have F_x_depth := F_x_depth.keep KpI (ninS ne_x_u nin0)
  have F_s_value := F_s_value.keep KpI (ninS ne_s_u nin0)
  have F_s_coder := F_s_coder.keep KpI (ninS ne_s_u nin0)
  have F_m_value := F_m_value.keep KpI (ninS ne_m_u nin0)
  have F_m_coder := F_m_coder.keep KpI (ninS ne_m_u nin0)
  have E_x := E_x.keep KpI
  have E_s := E_s.keep KpI
  have E_m := E_m.keep KpI
  have E_u := E_u.keep KpI
  have N_x := Unt.keep KpI (ninS ne_x_u nin0) N_x
  have A_ys := A_ys.keep KpI (ninS ne_ys_u nin0)
  have A_ym := A_ym.keep KpI (ninS ne_ym_u nin0)
  have K0 := K0.trans KpI (allS (Or.inr sz_u) all0)
  have E_u := B0.E
  have F_u_value := B0.Fv
  have F_u_coder := B0.Fc
  have F_u_count := B0.Fn
  have A_b0 := B0.A
  have E_b0 := B0.Eb
  have ne_u_b0 := B0.ne
  have ne_b0_u := Ne.symm B0.ne
  have g_u := B0.gx
  have g_b0 := B0.gb
  have hcap_b0 := B0.cap
  show NS G K own_EL U rm16 Q h5_2 2 20 8 #[.val (.ref x), .val (.ref s), .val (.int l), .val (.int (1 : Int32)), .val (.ref m)] [(.ref u), (.ref x)]
  have kp_b0 : b0 ∈ [x] ∨ h.size ≤ b0 := Or.inr sz_b0
  refine N.aloadN C (pc' := 9) d16_8 rfl rfl rfl ?_
  refine N.callV C (pc' := 12) u [(.ref s)] d16_9 (C.w (i := 125) rfl) (C.w (i := 126) rfl) (C.w (i := 128) rfl) (C.w (i := 127) rfl) (C.w (i := 109) rfl) (C.w (i := 129) rfl) (by decide) E_u (con19 G hw u b0 s ys (0 : Int32) (List.replicate 16 0) [] [115] cp dO dT us sn h5_2 hl1 own_l115 SS O Z0 ne_s_u ne_ys_u ne_s_b0 ne_ys_b0 ⟨E_u, F_u_value, F_u_coder, F_u_count, A_b0, E_b0, ne_u_b0, g_u, g_b0, B0.cnt, B0.pf, B0.by', B0.cap⟩ E_s F_s_coder F_s_value A_ys) (lenOf pd__Ljava_lang_String__Ljava_lang_StringBuilder_ rfl) rfl (by decide) (show 1 + (2 + 11) + _ ≤ _ from by decide) (by decide) (by decide) (rest := [(.ref x)]) rfl rfl ?_
  rintro _ h9_3 ⟨rfl, Kp1, b1, n1, bs1, B1, hb1⟩
  have ne_x_b1 : x ≠ b1 := own_ne hb1 ne_x_b0 F_x_cause.lt
  have ne_b1_x := Ne.symm ne_x_b1
  have ne_s_b1 : s ≠ b1 := own_ne hb1 ne_s_b0 F_s_value.lt
  have ne_b1_s := Ne.symm ne_s_b1
  have ne_ys_b1 : ys ≠ b1 := own_ne hb1 ne_ys_b0 A_ys.lt
  have ne_b1_ys := Ne.symm ne_ys_b1
  have ne_m_b1 : m ≠ b1 := own_ne hb1 ne_m_b0 F_m_value.lt
  have ne_b1_m := Ne.symm ne_m_b1
  have ne_ym_b1 : ym ≠ b1 := own_ne hb1 ne_ym_b0 A_ym.lt
  have ne_b1_ym := Ne.symm ne_ym_b1
  have ne_u_b1 : u ≠ b1 := own_ne hb1 ne_u_b0 F_u_value.lt
  have ne_b1_u := Ne.symm ne_u_b1
  have kp_b1 : b1 ∈ [x] ∨ h.size ≤ b1 := hb1.elim (fun q => by rw [q]; exact kp_b0) (fun q => Or.inr (Nat.le_trans K0.1 q))
  have Sx : SX G K own_EL U h9_3 (b1 :: [b0, u, x]) := hb1.elim (fun q => by rw [q]; exact (Sx.keep Kp1 (allS (List.mem_of_getElem? (i := 1) rfl) (allS (List.mem_of_getElem? (i := 0) rfl) all0))).drop (fun z hz => (List.mem_cons.mp hz).elim (fun e => by rw [e]; exact (List.mem_of_getElem? (i := 0) rfl)) id)) (fun q => Sx.keepNew Kp1 (allS (List.mem_of_getElem? (i := 1) rfl) (allS (List.mem_of_getElem? (i := 0) rfl) all0)) q B1.A.lt)
  have O := O.keep Kp1 (allS g_u (allS g_b0 all0))
  have Z0 := Nat.le_trans Z0 Kp1.1
  have F_x_cause := F_x_cause.keep Kp1 (ninS ne_x_u (ninS ne_x_b0 nin0))
  have F_x_stackTrace := F_x_stackTrace.keep Kp1 (ninS ne_x_u (ninS ne_x_b0 nin0))
  have F_x_suppressedExceptions := F_x_suppressedExceptions.keep Kp1 (ninS ne_x_u (ninS ne_x_b0 nin0))
  have F_x_detailMessage := F_x_detailMessage.keep Kp1 (ninS ne_x_u (ninS ne_x_b0 nin0))
  have F_x_backtrace := F_x_backtrace.keep Kp1 (ninS ne_x_u (ninS ne_x_b0 nin0))
  have F_x_depth := F_x_depth.keep Kp1 (ninS ne_x_u (ninS ne_x_b0 nin0))
  have F_m_value := F_m_value.keep Kp1 (ninS ne_m_u (ninS ne_m_b0 nin0))
  have F_m_coder := F_m_coder.keep Kp1 (ninS ne_m_u (ninS ne_m_b0 nin0))
  have E_x := E_x.keep Kp1
  have E_m := E_m.keep Kp1
  have E_u := E_u.keep Kp1
  have E_b0 := E_b0.keep Kp1
  have N_x := Unt.keep Kp1 (ninS ne_x_u (ninS ne_x_b0 nin0)) N_x
  have A_ym := A_ym.keep Kp1 (ninS ne_ym_u (ninS ne_ym_b0 nin0))
  have K0 := K0.trans Kp1 (allS (Or.inr sz_u) (allS kp_b0 all0))
  have E_u := B1.E
  have F_u_value := B1.Fv
  have F_u_coder := B1.Fc
  have F_u_count := B1.Fn
  have A_b1 := B1.A
  have E_b1 := B1.Eb
  have ne_u_b1 := B1.ne
  have ne_b1_u := Ne.symm B1.ne
  have g_u := B1.gx
  have g_b1 := B1.gb
  have hcap_b1 := B1.cap
  show NS G K own_EL U rm16 Q h9_3 3 54 12 #[.val (.ref x), .val (.ref s), .val (.int l), .val (.int (1 : Int32)), .val (.ref m)] [(.ref u), (.ref x)]
  refine N.ldcS C Sx (vs := [.int 58]) 4 d16_12 (C.w (i := 172) rfl) (own_SA hw) (by decide) ⟨by decide, rfl⟩ (z := 1) (by decide) (by decide) (by decide) (by decide) (by decide) (by decide) rfl (fun K h12_4 c1 yc1 C Sx Ex12 E_c1 F_c1_coder F_c1_value A_yc1 ne_c1 => ?_)
  have Z0 := Nat.le_trans Z0 Ex12.1
  have O := O.ext Ex12
  have F_x_cause := F_x_cause.ext Ex12
  have F_x_stackTrace := F_x_stackTrace.ext Ex12
  have F_x_suppressedExceptions := F_x_suppressedExceptions.ext Ex12
  have F_x_detailMessage := F_x_detailMessage.ext Ex12
  have F_x_backtrace := F_x_backtrace.ext Ex12
  have F_x_depth := F_x_depth.ext Ex12
  have F_m_value := F_m_value.ext Ex12
  have F_m_coder := F_m_coder.ext Ex12
  have F_u_value := F_u_value.ext Ex12
  have F_u_coder := F_u_coder.ext Ex12
  have F_u_count := F_u_count.ext Ex12
  have E_x := E_x.ext Ex12
  have E_m := E_m.ext Ex12
  have E_u := E_u.ext Ex12
  have E_b1 := E_b1.ext Ex12
  have A_ym := A_ym.ext Ex12
  have A_b1 := A_b1.ext Ex12
  have N_x := Unt.ext Ex12 N_x
  have K0 := K0.ext Ex12
  have ne_b1_c1 := (ne_c1 b1 (List.mem_of_getElem? (i := 0) rfl)).1
  have ne_b1_yc1 := (ne_c1 b1 (List.mem_of_getElem? (i := 0) rfl)).2
  have ne_c1_b1 := Ne.symm ne_b1_c1
  have ne_yc1_b1 := Ne.symm ne_b1_yc1
  have ne_b0_c1 := (ne_c1 b0 (List.mem_of_getElem? (i := 1) rfl)).1
  have ne_b0_yc1 := (ne_c1 b0 (List.mem_of_getElem? (i := 1) rfl)).2
  have ne_c1_b0 := Ne.symm ne_b0_c1
  have ne_yc1_b0 := Ne.symm ne_b0_yc1
  have ne_u_c1 := (ne_c1 u (List.mem_of_getElem? (i := 2) rfl)).1
  have ne_u_yc1 := (ne_c1 u (List.mem_of_getElem? (i := 2) rfl)).2
  have ne_c1_u := Ne.symm ne_u_c1
  have ne_yc1_u := Ne.symm ne_u_yc1
  have ne_x_c1 := (ne_c1 x (List.mem_of_getElem? (i := 3) rfl)).1
  have ne_x_yc1 := (ne_c1 x (List.mem_of_getElem? (i := 3) rfl)).2
  have ne_c1_x := Ne.symm ne_x_c1
  have ne_yc1_x := Ne.symm ne_x_yc1
  show NS G K own_EL U rm16 Q h12_4 5 62 14 #[.val (.ref x), .val (.ref s), .val (.int l), .val (.int (1 : Int32)), .val (.ref m)] [(.ref c1), (.ref u), (.ref x)]
  refine N.callV C (pc' := 17) u [(.ref c1)] d16_14 (C.w (i := 125) rfl) (C.w (i := 126) rfl) (C.w (i := 128) rfl) (C.w (i := 127) rfl) (C.w (i := 109) rfl) (C.w (i := 129) rfl) (by decide) E_u (con19 G hw u b1 c1 yc1 n1 bs1 ([] ++ [115]) [58] cp dO dT us sn h12_4 hl2 own_l58 SS O Z0 ne_c1_u ne_yc1_u ne_c1_b1 ne_yc1_b1 ⟨E_u, F_u_value, F_u_coder, F_u_count, A_b1, E_b1, ne_u_b1, g_u, g_b1, B1.cnt, B1.pf, B1.by', B1.cap⟩ E_c1 F_c1_coder F_c1_value A_yc1) (lenOf pd__Ljava_lang_String__Ljava_lang_StringBuilder_ rfl) rfl (by decide) (show 1 + (2 + 11) + _ ≤ _ from by decide) (by decide) (by decide) (rest := [(.ref x)]) rfl rfl ?_
  rintro _ h14_5 ⟨rfl, Kp2, b2, n2, bs2, B2, hb2⟩
  have ne_x_b2 : x ≠ b2 := own_ne hb2 ne_x_b1 F_x_cause.lt
  have ne_b2_x := Ne.symm ne_x_b2
  have ne_m_b2 : m ≠ b2 := own_ne hb2 ne_m_b1 F_m_value.lt
  have ne_b2_m := Ne.symm ne_m_b2
  have ne_ym_b2 : ym ≠ b2 := own_ne hb2 ne_ym_b1 A_ym.lt
  have ne_b2_ym := Ne.symm ne_ym_b2
  have ne_c1_b2 : c1 ≠ b2 := own_ne hb2 ne_c1_b1 F_c1_coder.lt
  have ne_b2_c1 := Ne.symm ne_c1_b2
  have ne_yc1_b2 : yc1 ≠ b2 := own_ne hb2 ne_yc1_b1 A_yc1.lt
  have ne_b2_yc1 := Ne.symm ne_yc1_b2
  have ne_u_b2 : u ≠ b2 := own_ne hb2 ne_u_b1 F_u_value.lt
  have ne_b2_u := Ne.symm ne_u_b2
  have kp_b2 : b2 ∈ [x] ∨ h.size ≤ b2 := hb2.elim (fun q => by rw [q]; exact kp_b1) (fun q => Or.inr (Nat.le_trans K0.1 q))
  have Sx : SX G K own_EL U h14_5 (b2 :: [b1, b0, u, x]) := hb2.elim (fun q => by rw [q]; exact (Sx.keep Kp2 (allS (List.mem_of_getElem? (i := 2) rfl) (allS (List.mem_of_getElem? (i := 0) rfl) all0))).drop (fun z hz => (List.mem_cons.mp hz).elim (fun e => by rw [e]; exact (List.mem_of_getElem? (i := 0) rfl)) id)) (fun q => Sx.keepNew Kp2 (allS (List.mem_of_getElem? (i := 2) rfl) (allS (List.mem_of_getElem? (i := 0) rfl) all0)) q B2.A.lt)
  have O := O.keep Kp2 (allS g_u (allS g_b1 all0))
  have Z0 := Nat.le_trans Z0 Kp2.1
  have F_x_cause := F_x_cause.keep Kp2 (ninS ne_x_u (ninS ne_x_b1 nin0))
  have F_x_stackTrace := F_x_stackTrace.keep Kp2 (ninS ne_x_u (ninS ne_x_b1 nin0))
  have F_x_suppressedExceptions := F_x_suppressedExceptions.keep Kp2 (ninS ne_x_u (ninS ne_x_b1 nin0))
  have F_x_detailMessage := F_x_detailMessage.keep Kp2 (ninS ne_x_u (ninS ne_x_b1 nin0))
  have F_x_backtrace := F_x_backtrace.keep Kp2 (ninS ne_x_u (ninS ne_x_b1 nin0))
  have F_x_depth := F_x_depth.keep Kp2 (ninS ne_x_u (ninS ne_x_b1 nin0))
  have F_m_value := F_m_value.keep Kp2 (ninS ne_m_u (ninS ne_m_b1 nin0))
  have F_m_coder := F_m_coder.keep Kp2 (ninS ne_m_u (ninS ne_m_b1 nin0))
  have E_x := E_x.keep Kp2
  have E_m := E_m.keep Kp2
  have E_u := E_u.keep Kp2
  have E_b1 := E_b1.keep Kp2
  have N_x := Unt.keep Kp2 (ninS ne_x_u (ninS ne_x_b1 nin0)) N_x
  have A_ym := A_ym.keep Kp2 (ninS ne_ym_u (ninS ne_ym_b1 nin0))
  have K0 := K0.trans Kp2 (allS (Or.inr sz_u) (allS kp_b1 all0))
  have E_u := B2.E
  have F_u_value := B2.Fv
  have F_u_coder := B2.Fc
  have F_u_count := B2.Fn
  have A_b2 := B2.A
  have E_b2 := B2.Eb
  have ne_u_b2 := B2.ne
  have ne_b2_u := Ne.symm B2.ne
  have g_u := B2.gx
  have g_b2 := B2.gb
  have hcap_b2 := B2.cap
  show NS G K own_EL U rm16 Q h14_5 6 96 17 #[.val (.ref x), .val (.ref s), .val (.int l), .val (.int (1 : Int32)), .val (.ref m)] [(.ref u), (.ref x)]
  refine N.iloadN C (pc' := 18) d16_17 rfl rfl ?_
  refine N.callV C (pc' := 21) u [(.int l)] d16_18 (C.w (i := 173) rfl) (C.w (i := 174) rfl) (C.w (i := 176) rfl) (C.w (i := 175) rfl) (C.w (i := 109) rfl) (C.w (i := 177) rfl) (by decide) E_u (con27 G hw u b2 l n2 bs2 (([] ++ [115]) ++ [58]) cp dO dT us sn h14_5 hl3 SS O Z0 ⟨E_u, F_u_value, F_u_coder, F_u_count, A_b2, E_b2, ne_u_b2, g_u, g_b2, B2.cnt, B2.pf, B2.by', B2.cap⟩) (lenOf pd__I_Ljava_lang_StringBuilder_ rfl) rfl (by decide) (show 1 + (2 + 11) + _ ≤ _ from by decide) (by decide) (by decide) (rest := [(.ref x)]) rfl rfl ?_
  rintro _ h18_6 ⟨rfl, Kp3, b3, n3, bs3, B3, hb3⟩
  have ne_x_b3 : x ≠ b3 := own_ne hb3 ne_x_b2 F_x_cause.lt
  have ne_b3_x := Ne.symm ne_x_b3
  have ne_m_b3 : m ≠ b3 := own_ne hb3 ne_m_b2 F_m_value.lt
  have ne_b3_m := Ne.symm ne_m_b3
  have ne_ym_b3 : ym ≠ b3 := own_ne hb3 ne_ym_b2 A_ym.lt
  have ne_b3_ym := Ne.symm ne_ym_b3
  have ne_u_b3 : u ≠ b3 := own_ne hb3 ne_u_b2 F_u_value.lt
  have ne_b3_u := Ne.symm ne_u_b3
  have kp_b3 : b3 ∈ [x] ∨ h.size ≤ b3 := hb3.elim (fun q => by rw [q]; exact kp_b2) (fun q => Or.inr (Nat.le_trans K0.1 q))
  have Sx : SX G K own_EL U h18_6 (b3 :: [b2, b1, b0, u, x]) := hb3.elim (fun q => by rw [q]; exact (Sx.keep Kp3 (allS (List.mem_of_getElem? (i := 3) rfl) (allS (List.mem_of_getElem? (i := 0) rfl) all0))).drop (fun z hz => (List.mem_cons.mp hz).elim (fun e => by rw [e]; exact (List.mem_of_getElem? (i := 0) rfl)) id)) (fun q => Sx.keepNew Kp3 (allS (List.mem_of_getElem? (i := 3) rfl) (allS (List.mem_of_getElem? (i := 0) rfl) all0)) q B3.A.lt)
  have O := O.keep Kp3 (allS g_u (allS g_b2 all0))
  have Z0 := Nat.le_trans Z0 Kp3.1
  have F_x_cause := F_x_cause.keep Kp3 (ninS ne_x_u (ninS ne_x_b2 nin0))
  have F_x_stackTrace := F_x_stackTrace.keep Kp3 (ninS ne_x_u (ninS ne_x_b2 nin0))
  have F_x_suppressedExceptions := F_x_suppressedExceptions.keep Kp3 (ninS ne_x_u (ninS ne_x_b2 nin0))
  have F_x_detailMessage := F_x_detailMessage.keep Kp3 (ninS ne_x_u (ninS ne_x_b2 nin0))
  have F_x_backtrace := F_x_backtrace.keep Kp3 (ninS ne_x_u (ninS ne_x_b2 nin0))
  have F_x_depth := F_x_depth.keep Kp3 (ninS ne_x_u (ninS ne_x_b2 nin0))
  have F_m_value := F_m_value.keep Kp3 (ninS ne_m_u (ninS ne_m_b2 nin0))
  have F_m_coder := F_m_coder.keep Kp3 (ninS ne_m_u (ninS ne_m_b2 nin0))
  have E_x := E_x.keep Kp3
  have E_m := E_m.keep Kp3
  have E_u := E_u.keep Kp3
  have E_b2 := E_b2.keep Kp3
  have N_x := Unt.keep Kp3 (ninS ne_x_u (ninS ne_x_b2 nin0)) N_x
  have A_ym := A_ym.keep Kp3 (ninS ne_ym_u (ninS ne_ym_b2 nin0))
  have K0 := K0.trans Kp3 (allS (Or.inr sz_u) (allS kp_b2 all0))
  have E_u := B3.E
  have F_u_value := B3.Fv
  have F_u_coder := B3.Fc
  have F_u_count := B3.Fn
  have A_b3 := B3.A
  have E_b3 := B3.Eb
  have ne_u_b3 := B3.ne
  have ne_b3_u := Ne.symm B3.ne
  have g_u := B3.gx
  have g_b3 := B3.gb
  have hcap_b3 := B3.cap
  show NS G K own_EL U rm16 Q h18_6 7 130 21 #[.val (.ref x), .val (.ref s), .val (.int l), .val (.int (1 : Int32)), .val (.ref m)] [(.ref u), (.ref x)]
  refine N.ldcS C Sx (vs := [.int 58]) 4 d16_21 (C.w (i := 172) rfl) (own_SA hw) (by decide) ⟨by decide, rfl⟩ (z := 1) (by decide) (by decide) (by decide) (by decide) (by decide) (by decide) rfl (fun K h21_7 c2 yc2 C Sx Ex21 E_c2 F_c2_coder F_c2_value A_yc2 ne_c2 => ?_)
  have Z0 := Nat.le_trans Z0 Ex21.1
  have O := O.ext Ex21
  have F_x_cause := F_x_cause.ext Ex21
  have F_x_stackTrace := F_x_stackTrace.ext Ex21
  have F_x_suppressedExceptions := F_x_suppressedExceptions.ext Ex21
  have F_x_detailMessage := F_x_detailMessage.ext Ex21
  have F_x_backtrace := F_x_backtrace.ext Ex21
  have F_x_depth := F_x_depth.ext Ex21
  have F_m_value := F_m_value.ext Ex21
  have F_m_coder := F_m_coder.ext Ex21
  have F_u_value := F_u_value.ext Ex21
  have F_u_coder := F_u_coder.ext Ex21
  have F_u_count := F_u_count.ext Ex21
  have E_x := E_x.ext Ex21
  have E_m := E_m.ext Ex21
  have E_u := E_u.ext Ex21
  have E_b3 := E_b3.ext Ex21
  have A_ym := A_ym.ext Ex21
  have A_b3 := A_b3.ext Ex21
  have N_x := Unt.ext Ex21 N_x
  have K0 := K0.ext Ex21
  have ne_b3_c2 := (ne_c2 b3 (List.mem_of_getElem? (i := 0) rfl)).1
  have ne_b3_yc2 := (ne_c2 b3 (List.mem_of_getElem? (i := 0) rfl)).2
  have ne_c2_b3 := Ne.symm ne_b3_c2
  have ne_yc2_b3 := Ne.symm ne_b3_yc2
  have ne_b2_c2 := (ne_c2 b2 (List.mem_of_getElem? (i := 1) rfl)).1
  have ne_b2_yc2 := (ne_c2 b2 (List.mem_of_getElem? (i := 1) rfl)).2
  have ne_c2_b2 := Ne.symm ne_b2_c2
  have ne_yc2_b2 := Ne.symm ne_b2_yc2
  have ne_b1_c2 := (ne_c2 b1 (List.mem_of_getElem? (i := 2) rfl)).1
  have ne_b1_yc2 := (ne_c2 b1 (List.mem_of_getElem? (i := 2) rfl)).2
  have ne_c2_b1 := Ne.symm ne_b1_c2
  have ne_yc2_b1 := Ne.symm ne_b1_yc2
  have ne_b0_c2 := (ne_c2 b0 (List.mem_of_getElem? (i := 3) rfl)).1
  have ne_b0_yc2 := (ne_c2 b0 (List.mem_of_getElem? (i := 3) rfl)).2
  have ne_c2_b0 := Ne.symm ne_b0_c2
  have ne_yc2_b0 := Ne.symm ne_b0_yc2
  have ne_u_c2 := (ne_c2 u (List.mem_of_getElem? (i := 4) rfl)).1
  have ne_u_yc2 := (ne_c2 u (List.mem_of_getElem? (i := 4) rfl)).2
  have ne_c2_u := Ne.symm ne_u_c2
  have ne_yc2_u := Ne.symm ne_u_yc2
  have ne_x_c2 := (ne_c2 x (List.mem_of_getElem? (i := 5) rfl)).1
  have ne_x_yc2 := (ne_c2 x (List.mem_of_getElem? (i := 5) rfl)).2
  have ne_c2_x := Ne.symm ne_x_c2
  have ne_yc2_x := Ne.symm ne_x_yc2
  show NS G K own_EL U rm16 Q h21_7 9 138 23 #[.val (.ref x), .val (.ref s), .val (.int l), .val (.int (1 : Int32)), .val (.ref m)] [(.ref c2), (.ref u), (.ref x)]
  refine N.callV C (pc' := 26) u [(.ref c2)] d16_23 (C.w (i := 125) rfl) (C.w (i := 126) rfl) (C.w (i := 128) rfl) (C.w (i := 127) rfl) (C.w (i := 109) rfl) (C.w (i := 129) rfl) (by decide) E_u (con19 G hw u b3 c2 yc2 n3 bs3 ((([] ++ [115]) ++ [58]) ++ (own_dec l)) [58] cp dO dT us sn h21_7 hl4 own_l58 SS O Z0 ne_c2_u ne_yc2_u ne_c2_b3 ne_yc2_b3 ⟨E_u, F_u_value, F_u_coder, F_u_count, A_b3, E_b3, ne_u_b3, g_u, g_b3, B3.cnt, B3.pf, B3.by', B3.cap⟩ E_c2 F_c2_coder F_c2_value A_yc2) (lenOf pd__Ljava_lang_String__Ljava_lang_StringBuilder_ rfl) rfl (by decide) (show 1 + (2 + 11) + _ ≤ _ from by decide) (by decide) (by decide) (rest := [(.ref x)]) rfl rfl ?_
  rintro _ h23_8 ⟨rfl, Kp4, b4, n4, bs4, B4, hb4⟩
  have ne_x_b4 : x ≠ b4 := own_ne hb4 ne_x_b3 F_x_cause.lt
  have ne_b4_x := Ne.symm ne_x_b4
  have ne_m_b4 : m ≠ b4 := own_ne hb4 ne_m_b3 F_m_value.lt
  have ne_b4_m := Ne.symm ne_m_b4
  have ne_ym_b4 : ym ≠ b4 := own_ne hb4 ne_ym_b3 A_ym.lt
  have ne_b4_ym := Ne.symm ne_ym_b4
  have ne_c2_b4 : c2 ≠ b4 := own_ne hb4 ne_c2_b3 F_c2_coder.lt
  have ne_b4_c2 := Ne.symm ne_c2_b4
  have ne_yc2_b4 : yc2 ≠ b4 := own_ne hb4 ne_yc2_b3 A_yc2.lt
  have ne_b4_yc2 := Ne.symm ne_yc2_b4
  have ne_u_b4 : u ≠ b4 := own_ne hb4 ne_u_b3 F_u_value.lt
  have ne_b4_u := Ne.symm ne_u_b4
  have kp_b4 : b4 ∈ [x] ∨ h.size ≤ b4 := hb4.elim (fun q => by rw [q]; exact kp_b3) (fun q => Or.inr (Nat.le_trans K0.1 q))
  have Sx : SX G K own_EL U h23_8 (b4 :: [b3, b2, b1, b0, u, x]) := hb4.elim (fun q => by rw [q]; exact (Sx.keep Kp4 (allS (List.mem_of_getElem? (i := 4) rfl) (allS (List.mem_of_getElem? (i := 0) rfl) all0))).drop (fun z hz => (List.mem_cons.mp hz).elim (fun e => by rw [e]; exact (List.mem_of_getElem? (i := 0) rfl)) id)) (fun q => Sx.keepNew Kp4 (allS (List.mem_of_getElem? (i := 4) rfl) (allS (List.mem_of_getElem? (i := 0) rfl) all0)) q B4.A.lt)
  have O := O.keep Kp4 (allS g_u (allS g_b3 all0))
  have Z0 := Nat.le_trans Z0 Kp4.1
  have F_x_cause := F_x_cause.keep Kp4 (ninS ne_x_u (ninS ne_x_b3 nin0))
  have F_x_stackTrace := F_x_stackTrace.keep Kp4 (ninS ne_x_u (ninS ne_x_b3 nin0))
  have F_x_suppressedExceptions := F_x_suppressedExceptions.keep Kp4 (ninS ne_x_u (ninS ne_x_b3 nin0))
  have F_x_detailMessage := F_x_detailMessage.keep Kp4 (ninS ne_x_u (ninS ne_x_b3 nin0))
  have F_x_backtrace := F_x_backtrace.keep Kp4 (ninS ne_x_u (ninS ne_x_b3 nin0))
  have F_x_depth := F_x_depth.keep Kp4 (ninS ne_x_u (ninS ne_x_b3 nin0))
  have F_m_value := F_m_value.keep Kp4 (ninS ne_m_u (ninS ne_m_b3 nin0))
  have F_m_coder := F_m_coder.keep Kp4 (ninS ne_m_u (ninS ne_m_b3 nin0))
  have E_x := E_x.keep Kp4
  have E_m := E_m.keep Kp4
  have E_u := E_u.keep Kp4
  have E_b3 := E_b3.keep Kp4
  have N_x := Unt.keep Kp4 (ninS ne_x_u (ninS ne_x_b3 nin0)) N_x
  have A_ym := A_ym.keep Kp4 (ninS ne_ym_u (ninS ne_ym_b3 nin0))
  have K0 := K0.trans Kp4 (allS (Or.inr sz_u) (allS kp_b3 all0))
  have E_u := B4.E
  have F_u_value := B4.Fv
  have F_u_coder := B4.Fc
  have F_u_count := B4.Fn
  have A_b4 := B4.A
  have E_b4 := B4.Eb
  have ne_u_b4 := B4.ne
  have ne_b4_u := Ne.symm B4.ne
  have g_u := B4.gx
  have g_b4 := B4.gb
  have hcap_b4 := B4.cap
  show NS G K own_EL U rm16 Q h23_8 10 172 26 #[.val (.ref x), .val (.ref s), .val (.int l), .val (.int (1 : Int32)), .val (.ref m)] [(.ref u), (.ref x)]
  refine N.iloadN C (pc' := 27) d16_26 rfl rfl ?_
  refine N.callV C (pc' := 30) u [(.int (1 : Int32))] d16_27 (C.w (i := 173) rfl) (C.w (i := 174) rfl) (C.w (i := 176) rfl) (C.w (i := 175) rfl) (C.w (i := 109) rfl) (C.w (i := 177) rfl) (by decide) E_u (con27 G hw u b4 (1 : Int32) n4 bs4 (((([] ++ [115]) ++ [58]) ++ (own_dec l)) ++ [58]) cp dO dT us sn h23_8 hl5 SS O Z0 ⟨E_u, F_u_value, F_u_coder, F_u_count, A_b4, E_b4, ne_u_b4, g_u, g_b4, B4.cnt, B4.pf, B4.by', B4.cap⟩) (lenOf pd__I_Ljava_lang_StringBuilder_ rfl) rfl (by decide) (show 1 + (2 + 11) + _ ≤ _ from by decide) (by decide) (by decide) (rest := [(.ref x)]) rfl rfl ?_
  rintro _ h27_9 ⟨rfl, Kp5, b5, n5, bs5, B5, hb5⟩
  have ne_x_b5 : x ≠ b5 := own_ne hb5 ne_x_b4 F_x_cause.lt
  have ne_b5_x := Ne.symm ne_x_b5
  have ne_m_b5 : m ≠ b5 := own_ne hb5 ne_m_b4 F_m_value.lt
  have ne_b5_m := Ne.symm ne_m_b5
  have ne_ym_b5 : ym ≠ b5 := own_ne hb5 ne_ym_b4 A_ym.lt
  have ne_b5_ym := Ne.symm ne_ym_b5
  have ne_u_b5 : u ≠ b5 := own_ne hb5 ne_u_b4 F_u_value.lt
  have ne_b5_u := Ne.symm ne_u_b5
  have kp_b5 : b5 ∈ [x] ∨ h.size ≤ b5 := hb5.elim (fun q => by rw [q]; exact kp_b4) (fun q => Or.inr (Nat.le_trans K0.1 q))
  have Sx : SX G K own_EL U h27_9 (b5 :: [b4, b3, b2, b1, b0, u, x]) := hb5.elim (fun q => by rw [q]; exact (Sx.keep Kp5 (allS (List.mem_of_getElem? (i := 5) rfl) (allS (List.mem_of_getElem? (i := 0) rfl) all0))).drop (fun z hz => (List.mem_cons.mp hz).elim (fun e => by rw [e]; exact (List.mem_of_getElem? (i := 0) rfl)) id)) (fun q => Sx.keepNew Kp5 (allS (List.mem_of_getElem? (i := 5) rfl) (allS (List.mem_of_getElem? (i := 0) rfl) all0)) q B5.A.lt)
  have O := O.keep Kp5 (allS g_u (allS g_b4 all0))
  have Z0 := Nat.le_trans Z0 Kp5.1
  have F_x_cause := F_x_cause.keep Kp5 (ninS ne_x_u (ninS ne_x_b4 nin0))
  have F_x_stackTrace := F_x_stackTrace.keep Kp5 (ninS ne_x_u (ninS ne_x_b4 nin0))
  have F_x_suppressedExceptions := F_x_suppressedExceptions.keep Kp5 (ninS ne_x_u (ninS ne_x_b4 nin0))
  have F_x_detailMessage := F_x_detailMessage.keep Kp5 (ninS ne_x_u (ninS ne_x_b4 nin0))
  have F_x_backtrace := F_x_backtrace.keep Kp5 (ninS ne_x_u (ninS ne_x_b4 nin0))
  have F_x_depth := F_x_depth.keep Kp5 (ninS ne_x_u (ninS ne_x_b4 nin0))
  have F_m_value := F_m_value.keep Kp5 (ninS ne_m_u (ninS ne_m_b4 nin0))
  have F_m_coder := F_m_coder.keep Kp5 (ninS ne_m_u (ninS ne_m_b4 nin0))
  have E_x := E_x.keep Kp5
  have E_m := E_m.keep Kp5
  have E_u := E_u.keep Kp5
  have E_b4 := E_b4.keep Kp5
  have N_x := Unt.keep Kp5 (ninS ne_x_u (ninS ne_x_b4 nin0)) N_x
  have A_ym := A_ym.keep Kp5 (ninS ne_ym_u (ninS ne_ym_b4 nin0))
  have K0 := K0.trans Kp5 (allS (Or.inr sz_u) (allS kp_b4 all0))
  have E_u := B5.E
  have F_u_value := B5.Fv
  have F_u_coder := B5.Fc
  have F_u_count := B5.Fn
  have A_b5 := B5.A
  have E_b5 := B5.Eb
  have ne_u_b5 := B5.ne
  have ne_b5_u := Ne.symm B5.ne
  have g_u := B5.gx
  have g_b5 := B5.gb
  have hcap_b5 := B5.cap
  show NS G K own_EL U rm16 Q h27_9 11 206 30 #[.val (.ref x), .val (.ref s), .val (.int l), .val (.int (1 : Int32)), .val (.ref m)] [(.ref u), (.ref x)]
  refine N.ldcS C Sx (vs := [.int 58, .int 32]) 8 d16_30 (C.w (i := 195) rfl) (own_SA hw) (by decide) ⟨by decide, rfl⟩ (z := 2) (by decide) (by decide) (by decide) (by decide) (by decide) (by decide) rfl (fun K h30_10 c3 yc3 C Sx Ex30 E_c3 F_c3_coder F_c3_value A_yc3 ne_c3 => ?_)
  have Z0 := Nat.le_trans Z0 Ex30.1
  have O := O.ext Ex30
  have F_x_cause := F_x_cause.ext Ex30
  have F_x_stackTrace := F_x_stackTrace.ext Ex30
  have F_x_suppressedExceptions := F_x_suppressedExceptions.ext Ex30
  have F_x_detailMessage := F_x_detailMessage.ext Ex30
  have F_x_backtrace := F_x_backtrace.ext Ex30
  have F_x_depth := F_x_depth.ext Ex30
  have F_m_value := F_m_value.ext Ex30
  have F_m_coder := F_m_coder.ext Ex30
  have F_u_value := F_u_value.ext Ex30
  have F_u_coder := F_u_coder.ext Ex30
  have F_u_count := F_u_count.ext Ex30
  have E_x := E_x.ext Ex30
  have E_m := E_m.ext Ex30
  have E_u := E_u.ext Ex30
  have E_b5 := E_b5.ext Ex30
  have A_ym := A_ym.ext Ex30
  have A_b5 := A_b5.ext Ex30
  have N_x := Unt.ext Ex30 N_x
  have K0 := K0.ext Ex30
  have ne_b5_c3 := (ne_c3 b5 (List.mem_of_getElem? (i := 0) rfl)).1
  have ne_b5_yc3 := (ne_c3 b5 (List.mem_of_getElem? (i := 0) rfl)).2
  have ne_c3_b5 := Ne.symm ne_b5_c3
  have ne_yc3_b5 := Ne.symm ne_b5_yc3
  have ne_b4_c3 := (ne_c3 b4 (List.mem_of_getElem? (i := 1) rfl)).1
  have ne_b4_yc3 := (ne_c3 b4 (List.mem_of_getElem? (i := 1) rfl)).2
  have ne_c3_b4 := Ne.symm ne_b4_c3
  have ne_yc3_b4 := Ne.symm ne_b4_yc3
  have ne_b3_c3 := (ne_c3 b3 (List.mem_of_getElem? (i := 2) rfl)).1
  have ne_b3_yc3 := (ne_c3 b3 (List.mem_of_getElem? (i := 2) rfl)).2
  have ne_c3_b3 := Ne.symm ne_b3_c3
  have ne_yc3_b3 := Ne.symm ne_b3_yc3
  have ne_b2_c3 := (ne_c3 b2 (List.mem_of_getElem? (i := 3) rfl)).1
  have ne_b2_yc3 := (ne_c3 b2 (List.mem_of_getElem? (i := 3) rfl)).2
  have ne_c3_b2 := Ne.symm ne_b2_c3
  have ne_yc3_b2 := Ne.symm ne_b2_yc3
  have ne_b1_c3 := (ne_c3 b1 (List.mem_of_getElem? (i := 4) rfl)).1
  have ne_b1_yc3 := (ne_c3 b1 (List.mem_of_getElem? (i := 4) rfl)).2
  have ne_c3_b1 := Ne.symm ne_b1_c3
  have ne_yc3_b1 := Ne.symm ne_b1_yc3
  have ne_b0_c3 := (ne_c3 b0 (List.mem_of_getElem? (i := 5) rfl)).1
  have ne_b0_yc3 := (ne_c3 b0 (List.mem_of_getElem? (i := 5) rfl)).2
  have ne_c3_b0 := Ne.symm ne_b0_c3
  have ne_yc3_b0 := Ne.symm ne_b0_yc3
  have ne_u_c3 := (ne_c3 u (List.mem_of_getElem? (i := 6) rfl)).1
  have ne_u_yc3 := (ne_c3 u (List.mem_of_getElem? (i := 6) rfl)).2
  have ne_c3_u := Ne.symm ne_u_c3
  have ne_yc3_u := Ne.symm ne_u_yc3
  have ne_x_c3 := (ne_c3 x (List.mem_of_getElem? (i := 7) rfl)).1
  have ne_x_yc3 := (ne_c3 x (List.mem_of_getElem? (i := 7) rfl)).2
  have ne_c3_x := Ne.symm ne_x_c3
  have ne_yc3_x := Ne.symm ne_x_yc3
  show NS G K own_EL U rm16 Q h30_10 13 218 32 #[.val (.ref x), .val (.ref s), .val (.int l), .val (.int (1 : Int32)), .val (.ref m)] [(.ref c3), (.ref u), (.ref x)]
  refine N.callV C (pc' := 35) u [(.ref c3)] d16_32 (C.w (i := 125) rfl) (C.w (i := 126) rfl) (C.w (i := 128) rfl) (C.w (i := 127) rfl) (C.w (i := 109) rfl) (C.w (i := 129) rfl) (by decide) E_u (con19 G hw u b5 c3 yc3 n5 bs5 ((((([] ++ [115]) ++ [58]) ++ (own_dec l)) ++ [58]) ++ (own_dec (1 : Int32))) [58, 32] cp dO dT us sn h30_10 hl6 own_l582 SS O Z0 ne_c3_u ne_yc3_u ne_c3_b5 ne_yc3_b5 ⟨E_u, F_u_value, F_u_coder, F_u_count, A_b5, E_b5, ne_u_b5, g_u, g_b5, B5.cnt, B5.pf, B5.by', B5.cap⟩ E_c3 F_c3_coder F_c3_value A_yc3) (lenOf pd__Ljava_lang_String__Ljava_lang_StringBuilder_ rfl) rfl (by decide) (show 1 + (2 + 11) + _ ≤ _ from by decide) (by decide) (by decide) (rest := [(.ref x)]) rfl rfl ?_
  rintro _ h32_11 ⟨rfl, Kp6, b6, n6, bs6, B6, hb6⟩
  have ne_x_b6 : x ≠ b6 := own_ne hb6 ne_x_b5 F_x_cause.lt
  have ne_b6_x := Ne.symm ne_x_b6
  have ne_m_b6 : m ≠ b6 := own_ne hb6 ne_m_b5 F_m_value.lt
  have ne_b6_m := Ne.symm ne_m_b6
  have ne_ym_b6 : ym ≠ b6 := own_ne hb6 ne_ym_b5 A_ym.lt
  have ne_b6_ym := Ne.symm ne_ym_b6
  have ne_c3_b6 : c3 ≠ b6 := own_ne hb6 ne_c3_b5 F_c3_coder.lt
  have ne_b6_c3 := Ne.symm ne_c3_b6
  have ne_yc3_b6 : yc3 ≠ b6 := own_ne hb6 ne_yc3_b5 A_yc3.lt
  have ne_b6_yc3 := Ne.symm ne_yc3_b6
  have ne_u_b6 : u ≠ b6 := own_ne hb6 ne_u_b5 F_u_value.lt
  have ne_b6_u := Ne.symm ne_u_b6
  have kp_b6 : b6 ∈ [x] ∨ h.size ≤ b6 := hb6.elim (fun q => by rw [q]; exact kp_b5) (fun q => Or.inr (Nat.le_trans K0.1 q))
  have Sx : SX G K own_EL U h32_11 (b6 :: [b5, b4, b3, b2, b1, b0, u, x]) := hb6.elim (fun q => by rw [q]; exact (Sx.keep Kp6 (allS (List.mem_of_getElem? (i := 6) rfl) (allS (List.mem_of_getElem? (i := 0) rfl) all0))).drop (fun z hz => (List.mem_cons.mp hz).elim (fun e => by rw [e]; exact (List.mem_of_getElem? (i := 0) rfl)) id)) (fun q => Sx.keepNew Kp6 (allS (List.mem_of_getElem? (i := 6) rfl) (allS (List.mem_of_getElem? (i := 0) rfl) all0)) q B6.A.lt)
  have O := O.keep Kp6 (allS g_u (allS g_b5 all0))
  have Z0 := Nat.le_trans Z0 Kp6.1
  have F_x_cause := F_x_cause.keep Kp6 (ninS ne_x_u (ninS ne_x_b5 nin0))
  have F_x_stackTrace := F_x_stackTrace.keep Kp6 (ninS ne_x_u (ninS ne_x_b5 nin0))
  have F_x_suppressedExceptions := F_x_suppressedExceptions.keep Kp6 (ninS ne_x_u (ninS ne_x_b5 nin0))
  have F_x_detailMessage := F_x_detailMessage.keep Kp6 (ninS ne_x_u (ninS ne_x_b5 nin0))
  have F_x_backtrace := F_x_backtrace.keep Kp6 (ninS ne_x_u (ninS ne_x_b5 nin0))
  have F_x_depth := F_x_depth.keep Kp6 (ninS ne_x_u (ninS ne_x_b5 nin0))
  have F_m_value := F_m_value.keep Kp6 (ninS ne_m_u (ninS ne_m_b5 nin0))
  have F_m_coder := F_m_coder.keep Kp6 (ninS ne_m_u (ninS ne_m_b5 nin0))
  have E_x := E_x.keep Kp6
  have E_m := E_m.keep Kp6
  have E_u := E_u.keep Kp6
  have E_b5 := E_b5.keep Kp6
  have N_x := Unt.keep Kp6 (ninS ne_x_u (ninS ne_x_b5 nin0)) N_x
  have A_ym := A_ym.keep Kp6 (ninS ne_ym_u (ninS ne_ym_b5 nin0))
  have K0 := K0.trans Kp6 (allS (Or.inr sz_u) (allS kp_b5 all0))
  have E_u := B6.E
  have F_u_value := B6.Fv
  have F_u_coder := B6.Fc
  have F_u_count := B6.Fn
  have A_b6 := B6.A
  have E_b6 := B6.Eb
  have ne_u_b6 := B6.ne
  have ne_b6_u := Ne.symm B6.ne
  have g_u := B6.gx
  have g_b6 := B6.gb
  have hcap_b6 := B6.cap
  show NS G K own_EL U rm16 Q h32_11 14 252 35 #[.val (.ref x), .val (.ref s), .val (.int l), .val (.int (1 : Int32)), .val (.ref m)] [(.ref u), (.ref x)]
  refine N.aload C (pc' := 37) d16_35 rfl rfl rfl ?_
  refine N.callV C (pc' := 40) u [(.ref m)] d16_37 (C.w (i := 125) rfl) (C.w (i := 126) rfl) (C.w (i := 128) rfl) (C.w (i := 127) rfl) (C.w (i := 109) rfl) (C.w (i := 129) rfl) (by decide) E_u (con19 G hw u b6 m ym n6 bs6 (((((([] ++ [115]) ++ [58]) ++ (own_dec l)) ++ [58]) ++ (own_dec (1 : Int32))) ++ [58, 32]) [112] cp dO dT us sn h32_11 hl7 own_l112 SS O Z0 ne_m_u ne_ym_u ne_m_b6 ne_ym_b6 ⟨E_u, F_u_value, F_u_coder, F_u_count, A_b6, E_b6, ne_u_b6, g_u, g_b6, B6.cnt, B6.pf, B6.by', B6.cap⟩ E_m F_m_coder F_m_value A_ym) (lenOf pd__Ljava_lang_String__Ljava_lang_StringBuilder_ rfl) rfl (by decide) (show 1 + (2 + 11) + _ ≤ _ from by decide) (by decide) (by decide) (rest := [(.ref x)]) rfl rfl ?_
  rintro _ h37_12 ⟨rfl, Kp7, b7, n7, bs7, B7, hb7⟩
  have ne_x_b7 : x ≠ b7 := own_ne hb7 ne_x_b6 F_x_cause.lt
  have ne_b7_x := Ne.symm ne_x_b7
  have ne_m_b7 : m ≠ b7 := own_ne hb7 ne_m_b6 F_m_value.lt
  have ne_b7_m := Ne.symm ne_m_b7
  have ne_ym_b7 : ym ≠ b7 := own_ne hb7 ne_ym_b6 A_ym.lt
  have ne_b7_ym := Ne.symm ne_ym_b7
  have ne_u_b7 : u ≠ b7 := own_ne hb7 ne_u_b6 F_u_value.lt
  have ne_b7_u := Ne.symm ne_u_b7
  have kp_b7 : b7 ∈ [x] ∨ h.size ≤ b7 := hb7.elim (fun q => by rw [q]; exact kp_b6) (fun q => Or.inr (Nat.le_trans K0.1 q))
  have Sx : SX G K own_EL U h37_12 (b7 :: [b6, b5, b4, b3, b2, b1, b0, u, x]) := hb7.elim (fun q => by rw [q]; exact (Sx.keep Kp7 (allS (List.mem_of_getElem? (i := 7) rfl) (allS (List.mem_of_getElem? (i := 0) rfl) all0))).drop (fun z hz => (List.mem_cons.mp hz).elim (fun e => by rw [e]; exact (List.mem_of_getElem? (i := 0) rfl)) id)) (fun q => Sx.keepNew Kp7 (allS (List.mem_of_getElem? (i := 7) rfl) (allS (List.mem_of_getElem? (i := 0) rfl) all0)) q B7.A.lt)
  have O := O.keep Kp7 (allS g_u (allS g_b6 all0))
  have Z0 := Nat.le_trans Z0 Kp7.1
  have F_x_cause := F_x_cause.keep Kp7 (ninS ne_x_u (ninS ne_x_b6 nin0))
  have F_x_stackTrace := F_x_stackTrace.keep Kp7 (ninS ne_x_u (ninS ne_x_b6 nin0))
  have F_x_suppressedExceptions := F_x_suppressedExceptions.keep Kp7 (ninS ne_x_u (ninS ne_x_b6 nin0))
  have F_x_detailMessage := F_x_detailMessage.keep Kp7 (ninS ne_x_u (ninS ne_x_b6 nin0))
  have F_x_backtrace := F_x_backtrace.keep Kp7 (ninS ne_x_u (ninS ne_x_b6 nin0))
  have F_x_depth := F_x_depth.keep Kp7 (ninS ne_x_u (ninS ne_x_b6 nin0))
  have E_x := E_x.keep Kp7
  have E_u := E_u.keep Kp7
  have E_b6 := E_b6.keep Kp7
  have N_x := Unt.keep Kp7 (ninS ne_x_u (ninS ne_x_b6 nin0)) N_x
  have K0 := K0.trans Kp7 (allS (Or.inr sz_u) (allS kp_b6 all0))
  have E_u := B7.E
  have F_u_value := B7.Fv
  have F_u_coder := B7.Fc
  have F_u_count := B7.Fn
  have A_b7 := B7.A
  have E_b7 := B7.Eb
  have ne_u_b7 := B7.ne
  have ne_b7_u := Ne.symm B7.ne
  have g_u := B7.gx
  have g_b7 := B7.gb
  have hcap_b7 := B7.cap
  show NS G K own_EL U rm16 Q h37_12 15 286 40 #[.val (.ref x), .val (.ref s), .val (.int l), .val (.int (1 : Int32)), .val (.ref m)] [(.ref u), (.ref x)]
  have xlt := E_x.lt
  have KT0 := K0
  refine N.callV C (pc' := 43) u [] d16_40 (C.w (i := 196) rfl) (C.w (i := 197) rfl) (C.w (i := 199) rfl) (C.w (i := 198) rfl) (C.w (i := 109) rfl) (C.w (i := 200) rfl) (by decide) E_u (con32 G hw u b7 n7 bs7 ((((((([] ++ [115]) ++ [58]) ++ (own_dec l)) ++ [58]) ++ (own_dec (1 : Int32))) ++ [58, 32]) ++ [112]) cp dO dT us sn h37_12 SS O Z0 ⟨E_u, F_u_value, F_u_coder, F_u_count, A_b7, E_b7, ne_u_b7, g_u, g_b7, B7.cnt, B7.pf, B7.by', B7.cap⟩) (lenOf pd___Ljava_lang_String_ rfl) rfl (by decide) (show 1 + (1 + 11) + _ ≤ _ from by decide) (by decide) (by decide) (rest := [(.ref x)]) rfl rfl ?_
  rintro _ h40_13 ⟨t, d, rfl, hzt, hzd, KpT, TT⟩
  have Sx := Sx.keep KpT all0
  have O := O.keep KpT all0
  have Z0 := Nat.le_trans Z0 KpT.1
  have F_x_cause := F_x_cause.keep KpT nin0
  have F_x_stackTrace := F_x_stackTrace.keep KpT nin0
  have F_x_suppressedExceptions := F_x_suppressedExceptions.keep KpT nin0
  have F_x_detailMessage := F_x_detailMessage.keep KpT nin0
  have F_x_backtrace := F_x_backtrace.keep KpT nin0
  have F_x_depth := F_x_depth.keep KpT nin0
  have F_u_value := F_u_value.keep KpT nin0
  have F_u_coder := F_u_coder.keep KpT nin0
  have F_u_count := F_u_count.keep KpT nin0
  have E_x := E_x.keep KpT
  have E_u := E_u.keep KpT
  have E_b7 := E_b7.keep KpT
  have N_x := Unt.keep KpT nin0 N_x
  have A_b7 := A_b7.keep KpT nin0
  have K0 := K0.trans KpT all0
  show NS G K own_EL U rm16 Q h40_13 17 324 43 #[.val (.ref x), .val (.ref s), .val (.int l), .val (.int (1 : Int32)), .val (.ref m)] [(.ref t), (.ref x)]
  have tlt : t < Array.size h40_13 := TT.1.lt
  have dlt : d < Array.size h40_13 := TT.2.2.2.lt
  have ne_t_x : t ≠ x := Ne.symm (Nat.ne_of_lt (Nat.lt_of_lt_of_le xlt hzt))
  have ne_d_x : d ≠ x := Ne.symm (Nat.ne_of_lt (Nat.lt_of_lt_of_le xlt hzd))
  refine N.callIS C Sx (pc' := 46) x [(.ref t)] d16_43 rfl (C.w (i := 237) rfl) (C.w (i := 238) rfl) (C.w (i := 240) rfl) (C.w (i := 241) rfl) (by decide) (allS (List.mem_of_getElem? (i := 9) rfl) all0) (con42 G hw x t cp dO dT us sn h40_13 SS O Z0 g_x E_x N_x F_x_cause F_x_stackTrace F_x_suppressedExceptions F_x_detailMessage F_x_backtrace F_x_depth) (lenOf pd__Ljava_lang_String__V rfl) rfl (by decide) (show 0 + (2 + 11) + _ ≤ _ from by decide) (by decide) (by decide) (rest := []) rfl rfl ?_
  rintro K _ h43_14 C Sx ⟨rfl, KpX, E_x', FM⟩
  have O := O.keep KpX (allS g_x all0)
  have Z0 := Nat.le_trans Z0 KpX.1
  have F_u_value := F_u_value.keep KpX (ninS ne_u_x nin0)
  have F_u_coder := F_u_coder.keep KpX (ninS ne_u_x nin0)
  have F_u_count := F_u_count.keep KpX (ninS ne_u_x nin0)
  have E_x := E_x.keep KpX
  have E_u := E_u.keep KpX
  have E_b7 := E_b7.keep KpX
  have A_b7 := A_b7.keep KpX (ninS ne_b7_x nin0)
  have K0 := K0.trans KpX (allS (Or.inl (List.mem_of_getElem? (i := 0) rfl)) all0)
  show NS G K own_EL U rm16 Q h43_14 18 3076 46 #[.val (.ref x), .val (.ref s), .val (.int l), .val (.int (1 : Int32)), .val (.ref m)] []
  exact N.ret0S C Sx rfl d16_46 (by decide) (by decide) (by subst hQ; exact ⟨rfl, K0, E_x, t, d, Nat.le_trans KT0.1 hzt, FM, ⟨TT.1.keep KpX, TT.2.1.keep KpX (ninS ne_t_x nin0), TT.2.2.1.keep KpX (ninS ne_t_x nin0), TT.2.2.2.keep KpX (ninS ne_d_x nin0)⟩⟩)
set_option maxRecDepth 65536 in
set_option maxHeartbeats 40000000 in
theorem con12 (G : Gx) (hw : ∀ d ∈ tables_1, d.before G.a0 G.Z = true) (x s ys m ym : Addr) (l : Int32) (cp : Int32) (dO dT us sn : Addr) (h : Heap) (SS : Ss G cp dO dT us sn) (O : Old G.Z G.n0 h) (Z0 : G.n0 ≤ h.size) (E_x : Exa G.Z h x "quadrille/Lexer") (F_x_firstLine : Fld G.Z h x "quadrille/Lexer" "firstLine" "I" (.int l)) (F_x_source : Fld G.Z h x "quadrille/Lexer" "source" "Ljava/lang/String;" (.ref s)) (E_s : Exa G.Z h s "java/lang/String") (F_s_coder : Fld G.Z h s "java/lang/String" "coder" "B" (.int (0 : Int32))) (F_s_value : Fld G.Z h s "java/lang/String" "value" "[B" (.ref ys)) (A_ys : Av G.Z h ys .byte (([115] : List Int32).map .int)) (E_m : Exa G.Z h m "java/lang/String") (F_m_coder : Fld G.Z h m "java/lang/String" "coder" "B" (.int (0 : Int32))) (F_m_value : Fld G.Z h m "java/lang/String" "value" "[B" (.ref ym)) (A_ym : Av G.Z h ym .byte (([112] : List Int32).map .int)) :
    ConS G own_EL [] (⟨"quadrille/Lexer", "error", "(ILjava/lang/String;)Lquadrille/SyntaxException;"⟩ : MethodName) prog_70_method_19_code 5 (some (.object "quadrille/SyntaxException")) rm12 #[(.ref x), (.int (0 : Int32)), (.ref m)] h (fun v h' => ∃ e t d : Addr, v = some (.ref e) ∧ h.size ≤ e ∧ h.size ≤ t ∧ Keep h h' [] ∧ Exa G.Z h' e "quadrille/SyntaxException" ∧ Fld G.Z h' e "java/lang/Throwable" "detailMessage" "Ljava/lang/String;" (.ref t) ∧ Str G h' t d (own_msg l)) := by
  refine ConS.of (W := tables_1) (plainFor_of_name pn12) hw (own_ew hw) (fun mm => ef12 mm x (0 : Int32) m) (fun K U hU C Sx => ?_)
  have C : Cx G K "quadrille/Lexer" "error" prog_70_method_19_code 5 (some (.object "quadrille/SyntaxException")) tables_1 := C
  generalize hQ : (fun v h' => ∃ e t d : Addr, v = some (.ref e) ∧ h.size ≤ e ∧ h.size ≤ t ∧ Keep h h' [] ∧ Exa G.Z h' e "quadrille/SyntaxException" ∧ Fld G.Z h' e "java/lang/Throwable" "detailMessage" "Ljava/lang/String;" (.ref t) ∧ Str G h' t d (own_msg l) : Option Value → Heap → Prop) = Q
  have K0 : Keep h h [] := Keep.refl _ _
  refine N.newO C (pc' := 3) d12_0 (C.w (i := 80) rfl) (C.w (i := 81) rfl) (C.w (i := 82) rfl) (by decide) (by decide) rfl (fun h0_1 lc hx_lc Ex0 E_lc D_lc => ?_)
  have ne_x_lc : x ≠ lc := by rw [hx_lc]; exact Nat.ne_of_lt F_x_firstLine.lt
  have ne_lc_x := Ne.symm ne_x_lc
  have ne_s_lc : s ≠ lc := by rw [hx_lc]; exact Nat.ne_of_lt F_s_value.lt
  have ne_lc_s := Ne.symm ne_s_lc
  have ne_ys_lc : ys ≠ lc := by rw [hx_lc]; exact Nat.ne_of_lt A_ys.lt
  have ne_lc_ys := Ne.symm ne_ys_lc
  have ne_m_lc : m ≠ lc := by rw [hx_lc]; exact Nat.ne_of_lt F_m_value.lt
  have ne_lc_m := Ne.symm ne_m_lc
  have ne_ym_lc : ym ≠ lc := by rw [hx_lc]; exact Nat.ne_of_lt A_ym.lt
  have ne_lc_ym := Ne.symm ne_ym_lc
  have g_lc : G.n0 ≤ lc := by rw [hx_lc]; exact Z0
  have sz_lc : h.size ≤ lc := by rw [hx_lc]; exact K0.1
  have Z0 := Nat.le_trans Z0 Ex0.1
  have O := O.ext Ex0
  have F_x_firstLine := F_x_firstLine.ext Ex0
  have F_x_source := F_x_source.ext Ex0
  have F_s_value := F_s_value.ext Ex0
  have F_s_coder := F_s_coder.ext Ex0
  have F_m_value := F_m_value.ext Ex0
  have F_m_coder := F_m_coder.ext Ex0
  have E_x := E_x.ext Ex0
  have E_s := E_s.ext Ex0
  have E_m := E_m.ext Ex0
  have A_ys := A_ys.ext Ex0
  have A_ym := A_ym.ext Ex0
  have K0 := K0.ext Ex0
  have Sx := Sx.born Ex0 hx_lc E_lc.lt
  have F_lc_column : Fld G.Z h0_1 lc "quadrille/LineColumn" "column" "I" (.int (0 : Int32)) := D_lc (Or.inl (C.w (i := 88) rfl)) (ty := .int) (by decide)
  have F_lc_line : Fld G.Z h0_1 lc "quadrille/LineColumn" "line" "I" (.int (0 : Int32)) := D_lc (Or.inl (C.w (i := 90) rfl)) (ty := .int) (by decide)
  refine N.dup C (pc' := 4) d12_3 rfl rfl ?_
  refine N.aloadN C (pc' := 5) d12_4 rfl rfl rfl ?_
  refine N.getF C (pc' := 8) d12_5 (C.w (i := 49) rfl) F_x_firstLine rfl ?_
  refine N.callI C (pc' := 11) lc [(.int l)] d12_8 rfl (C.w (i := 83) rfl) (C.w (i := 84) rfl) (C.w (i := 82) rfl) (C.w (i := 85) rfl) (by decide) (con13 G hw lc l h0_1 Z0 g_lc E_lc F_lc_line F_lc_column) (lenOf pd__I_V rfl) rfl (by decide) (show 1 + (2 + 11) + _ ≤ _ from by decide) (by decide) (by decide) (rest := [(.ref lc)]) rfl rfl ?_
  rintro _ h8_2 ⟨rfl, KpC, FL, FC⟩
  have Sx := Sx.keep KpC (allS (List.mem_of_getElem? (i := 0) rfl) all0)
  have O := O.keep KpC (allS g_lc all0)
  have Z0 := Nat.le_trans Z0 KpC.1
  have F_x_firstLine := F_x_firstLine.keep KpC (ninS ne_x_lc nin0)
  have F_x_source := F_x_source.keep KpC (ninS ne_x_lc nin0)
  have F_s_value := F_s_value.keep KpC (ninS ne_s_lc nin0)
  have F_s_coder := F_s_coder.keep KpC (ninS ne_s_lc nin0)
  have F_m_value := F_m_value.keep KpC (ninS ne_m_lc nin0)
  have F_m_coder := F_m_coder.keep KpC (ninS ne_m_lc nin0)
  have E_x := E_x.keep KpC
  have E_s := E_s.keep KpC
  have E_m := E_m.keep KpC
  have E_lc := E_lc.keep KpC
  have A_ys := A_ys.keep KpC (ninS ne_ys_lc nin0)
  have A_ym := A_ym.keep KpC (ninS ne_ym_lc nin0)
  have K0 := K0.trans KpC (allS (Or.inr sz_lc) all0)
  have F_lc_line := FL
  have F_lc_column := FC
  show NS G K own_EL U rm12 Q h8_2 1 3 11 #[.val (.ref x), .val (.int (0 : Int32)), .val (.ref m), .unset, .unset] [(.ref lc)]
  refine N.astoreN C (pc' := 12) (ls' := #[.val (.ref x), .val (.int (0 : Int32)), .val (.ref m), .val (.ref lc), .unset]) d12_11 rfl rfl rfl ?_
  refine N.iconst C (pc' := 13) (z := 0) d12_12 rfl rfl ?_
  refine N.istore C (pc' := 15) (ls' := #[.val (.ref x), .val (.int (0 : Int32)), .val (.ref m), .val (.ref lc), .val (.int (0 : Int32))]) d12_13 rfl rfl ?_
  refine N.iload C (pc' := 17) d12_15 rfl rfl ?_
  refine N.iloadN C (pc' := 18) d12_17 rfl rfl ?_
  refine N.icmp C (pt := 40) (pf := 21) d12_18 rfl rfl (fun _ => ?_) (fun (q : 0 < 0) => absurd q (by decide))
  refine N.newOU C (pc' := 43) d12_40 (C.w (i := 91) rfl) (C.w (i := 92) rfl) (C.w (i := 93) rfl) (by decide) (by decide) rfl (fun h40_3 e hx_e Ex40 E_e D_e N_e => ?_)
  have ne_x_e : x ≠ e := by rw [hx_e]; exact Nat.ne_of_lt F_x_firstLine.lt
  have ne_e_x := Ne.symm ne_x_e
  have ne_s_e : s ≠ e := by rw [hx_e]; exact Nat.ne_of_lt F_s_value.lt
  have ne_e_s := Ne.symm ne_s_e
  have ne_ys_e : ys ≠ e := by rw [hx_e]; exact Nat.ne_of_lt A_ys.lt
  have ne_e_ys := Ne.symm ne_ys_e
  have ne_m_e : m ≠ e := by rw [hx_e]; exact Nat.ne_of_lt F_m_value.lt
  have ne_e_m := Ne.symm ne_m_e
  have ne_ym_e : ym ≠ e := by rw [hx_e]; exact Nat.ne_of_lt A_ym.lt
  have ne_e_ym := Ne.symm ne_ym_e
  have ne_lc_e : lc ≠ e := by rw [hx_e]; exact Nat.ne_of_lt F_lc_line.lt
  have ne_e_lc := Ne.symm ne_lc_e
  have g_e : G.n0 ≤ e := by rw [hx_e]; exact Z0
  have sz_e : h.size ≤ e := by rw [hx_e]; exact K0.1
  have Z0 := Nat.le_trans Z0 Ex40.1
  have O := O.ext Ex40
  have F_x_firstLine := F_x_firstLine.ext Ex40
  have F_x_source := F_x_source.ext Ex40
  have F_s_value := F_s_value.ext Ex40
  have F_s_coder := F_s_coder.ext Ex40
  have F_m_value := F_m_value.ext Ex40
  have F_m_coder := F_m_coder.ext Ex40
  have F_lc_line := F_lc_line.ext Ex40
  have F_lc_column := F_lc_column.ext Ex40
  have E_x := E_x.ext Ex40
  have E_s := E_s.ext Ex40
  have E_m := E_m.ext Ex40
  have E_lc := E_lc.ext Ex40
  have A_ys := A_ys.ext Ex40
  have A_ym := A_ym.ext Ex40
  have K0 := K0.ext Ex40
  have Sx := Sx.born Ex40 hx_e E_e.lt
  have F_e_cause : Fld G.Z h40_3 e "java/lang/Throwable" "cause" "Ljava/lang/Throwable;" .null := D_e (Or.inl (C.w (i := 250) rfl)) (ty := (.object "java/lang/Throwable")) (by decide)
  have F_e_stackTrace : Fld G.Z h40_3 e "java/lang/Throwable" "stackTrace" "[Ljava/lang/StackTraceElement;" .null := D_e (Or.inl (C.w (i := 253) rfl)) (ty := (.array (.object "java/lang/StackTraceElement"))) (by decide)
  have F_e_suppressedExceptions : Fld G.Z h40_3 e "java/lang/Throwable" "suppressedExceptions" "Ljava/util/List;" .null := D_e (Or.inl (C.w (i := 256) rfl)) (ty := (.object "java/util/List")) (by decide)
  have F_e_detailMessage : Fld G.Z h40_3 e "java/lang/Throwable" "detailMessage" "Ljava/lang/String;" .null := D_e (Or.inl (C.w (i := 280) rfl)) (ty := (.object "java/lang/String")) (by decide)
  have F_e_backtrace : Fld G.Z h40_3 e "java/lang/Throwable" "backtrace" "Ljava/lang/Object;" .null := D_e (Or.inl (C.w (i := 281) rfl)) (ty := (.object "java/lang/Object")) (by decide)
  have F_e_depth : Fld G.Z h40_3 e "java/lang/Throwable" "depth" "I" (.int (0 : Int32)) := D_e (Or.inl (C.w (i := 282) rfl)) (ty := .int) (by decide)
  refine N.dup C (pc' := 44) d12_43 rfl rfl ?_
  refine N.aloadN C (pc' := 45) d12_44 rfl rfl rfl ?_
  refine N.getF C (pc' := 48) d12_45 (C.w (i := 51) rfl) F_x_source rfl ?_
  refine N.aloadN C (pc' := 49) d12_48 rfl rfl rfl ?_
  refine N.callV C (pc' := 52) lc [] d12_49 (C.w (i := 94) rfl) (C.w (i := 95) rfl) (C.w (i := 97) rfl) (C.w (i := 96) rfl) (C.w (i := 82) rfl) (C.w (i := 98) rfl) (by decide) E_lc (con14 G hw lc l h40_3 F_lc_line) (lenOf pd___I rfl) rfl (by decide) (show 3 + (1 + 11) + _ ≤ _ from by decide) (by decide) (by decide) (rest := [(.ref s), (.ref e), (.ref e)]) rfl rfl ?_
  rintro _ h49_4 ⟨rfl, rfl⟩
  show NS G K own_EL U rm12 Q h40_3 2 9 52 #[.val (.ref x), .val (.int (0 : Int32)), .val (.ref m), .val (.ref lc), .val (.int (0 : Int32))] [(.int l), (.ref s), (.ref e), (.ref e)]
  refine N.aloadN C (pc' := 53) d12_52 rfl rfl rfl ?_
  refine N.callV C (pc' := 56) lc [] d12_53 (C.w (i := 99) rfl) (C.w (i := 100) rfl) (C.w (i := 102) rfl) (C.w (i := 101) rfl) (C.w (i := 82) rfl) (C.w (i := 103) rfl) (by decide) E_lc (con15 G hw lc (1 : Int32) h40_3 F_lc_column) (lenOf pd___I rfl) rfl (by decide) (show 4 + (1 + 11) + _ ≤ _ from by decide) (by decide) (by decide) (rest := [(.int l), (.ref s), (.ref e), (.ref e)]) rfl rfl ?_
  rintro _ h53_5 ⟨rfl, rfl⟩
  show NS G K own_EL U rm12 Q h40_3 2 9 56 #[.val (.ref x), .val (.int (0 : Int32)), .val (.ref m), .val (.ref lc), .val (.int (0 : Int32))] [(.int (1 : Int32)), (.int l), (.ref s), (.ref e), (.ref e)]
  refine N.aloadN C (pc' := 57) d12_56 rfl rfl rfl ?_
  have KE0 := K0
  refine N.callIS C Sx (pc' := 60) e [(.ref s), (.int l), (.int (1 : Int32)), (.ref m)] d12_57 rfl (C.w (i := 104) rfl) (C.w (i := 105) rfl) (C.w (i := 93) rfl) (C.w (i := 106) rfl) (by decide) (allS (List.mem_of_getElem? (i := 0) rfl) all0) (con16 G hw e s ys m ym l cp dO dT us sn h40_3 SS O Z0 g_e E_e N_e F_e_cause F_e_stackTrace F_e_suppressedExceptions F_e_detailMessage F_e_backtrace F_e_depth ne_s_e ne_ys_e ne_m_e ne_ym_e E_s F_s_coder F_s_value A_ys E_m F_m_coder F_m_value A_ym) (lenOf pd__Ljava_lang_String_IILjava_lang_String__V rfl) rfl (by decide) (show 1 + (5 + 11) + _ ≤ _ from by decide) (by decide) (by decide) (rest := [(.ref e)]) rfl rfl ?_
  rintro K _ h57_6 C Sx ⟨rfl, KpE, E_e', t, d, hzt, FM, TT⟩
  have O := O.keep KpE (allS g_e all0)
  have Z0 := Nat.le_trans Z0 KpE.1
  have F_x_firstLine := F_x_firstLine.keep KpE (ninS ne_x_e nin0)
  have F_x_source := F_x_source.keep KpE (ninS ne_x_e nin0)
  have F_s_value := F_s_value.keep KpE (ninS ne_s_e nin0)
  have F_s_coder := F_s_coder.keep KpE (ninS ne_s_e nin0)
  have F_m_value := F_m_value.keep KpE (ninS ne_m_e nin0)
  have F_m_coder := F_m_coder.keep KpE (ninS ne_m_e nin0)
  have F_lc_line := F_lc_line.keep KpE (ninS ne_lc_e nin0)
  have F_lc_column := F_lc_column.keep KpE (ninS ne_lc_e nin0)
  have E_x := E_x.keep KpE
  have E_s := E_s.keep KpE
  have E_m := E_m.keep KpE
  have E_lc := E_lc.keep KpE
  have E_e := E_e.keep KpE
  have A_ys := A_ys.keep KpE (ninS ne_ys_e nin0)
  have A_ym := A_ym.keep KpE (ninS ne_ym_e nin0)
  have K0 := K0.trans KpE (allS (Or.inr sz_e) all0)
  show NS G K own_EL U rm12 Q h57_6 20 3085 60 #[.val (.ref x), .val (.int (0 : Int32)), .val (.ref m), .val (.ref lc), .val (.int (0 : Int32))] [(.ref e)]
  exact N.retAS C Sx rfl rfl d12_60 (by decide) (by decide) (by subst hQ; exact ⟨e, t, d, rfl, sz_e, Nat.le_trans KE0.1 hzt, K0, E_e', FM, TT⟩)
set_option maxRecDepth 65536 in
set_option maxHeartbeats 40000000 in
theorem con46 (G : Gx) (hw : ∀ d ∈ tables_1, d.before G.a0 G.Z = true) (x t : Addr) (h : Heap) (F_x_detailMessage : Fld G.Z h x "java/lang/Throwable" "detailMessage" "Ljava/lang/String;" (.ref t)) :
    Con G (⟨"java/lang/Throwable", "getMessage", "()Ljava/lang/String;"⟩ : MethodName) jdk_78_method_6_code 1 (some (.object "java/lang/String")) rm46 #[(.ref x)] h (fun v h' => v = some (.ref t) ∧ h = h') := by
  refine Con.of (W := tables_1) (plainFor_of_name pn46) hw (fun mm => ef46 mm x) (fun K C => ?_)
  have C : Cx G K "java/lang/Throwable" "getMessage" jdk_78_method_6_code 1 (some (.object "java/lang/String")) tables_1 := C
  generalize hQ : (fun v h' => v = some (.ref t) ∧ h = h' : Option Value → Heap → Prop) = Q
  refine N.aloadN C (pc' := 1) d46_0 rfl rfl rfl ?_
  refine N.getF C (pc' := 4) d46_1 (C.w (i := 284) rfl) F_x_detailMessage rfl ?_
  exact N.retA C rfl rfl d46_4 (by decide) (by decide) (by subst hQ; exact ⟨rfl, rfl⟩)
set_option maxRecDepth 65536 in
set_option maxHeartbeats 40000000 in
theorem con48 (G : Gx) (hw : ∀ d ∈ tables_1, d.before G.a0 G.Z = true) (a b : Addr) (as bs : List Int32) (h : Heap) (ha : as.length < 90) (hb : bs.length < 90) (A_a : Av G.Z h a .byte (as.map .int)) (A_b : Av G.Z h b .byte (bs.map .int)) :
    Con G (⟨"java/lang/StringLatin1", "equals", "([B[B)Z"⟩ : MethodName) jdk_43_method_13_code 3 (some .boolean) rm48 #[(.ref a), (.ref b)] h (fun v h' => ∃ r : Int32, v = some (.int r) ∧ h = h' ∧ ((as = bs ∧ r = 1) ∨ (¬ as = bs ∧ r = 0))) := by
  refine Con.of (W := tables_1) (plainFor_of_name pn48) hw (fun mm => ef48 mm a b) (fun K C => ?_)
  have C : Cx G K "java/lang/StringLatin1" "equals" jdk_43_method_13_code 3 (some .boolean) tables_1 := C
  generalize hQ : (fun v h' => ∃ r : Int32, v = some (.int r) ∧ h = h' ∧ ((as = bs ∧ r = 1) ∨ (¬ as = bs ∧ r = 0)) : Option Value → Heap → Prop) = Q
  obtain ⟨ma, hma, len_a⟩ := own_lenI (zs := as) (by omega)
  obtain ⟨mb, hmb, len_b⟩ := own_lenI (zs := bs) (by omega)
  refine N.aloadN C (pc' := 1) d48_0 rfl rfl rfl ?_
  refine N.alen C (pc' := 2) (n := ma) d48_1 A_a len_a rfl ?_
  refine N.aloadN C (pc' := 3) d48_2 rfl rfl rfl ?_
  refine N.alen C (pc' := 4) (n := mb) d48_3 A_b len_b rfl ?_
  refine N.icmp C (pt := 34) (pf := 7) d48_4 rfl rfl (fun (hc4 : ¬ ma = mb) => ?_) (fun (hc4 : ma = mb) => ?_)
  · have hi4 : ¬ ma.toInt = mb.toInt := neI hc4
    refine N.iconst C (pc' := 35) (z := 0) d48_34 rfl rfl ?_
    exact N.retN C (by simp) (z' := (0 : Int32)) rfl d48_35 (by decide) (by decide) (by subst hQ; exact ⟨_, rfl, rfl, Or.inr ⟨fun q => hc4 (Int32.toInt_inj.mp (by rw [hma, hmb, q])), rfl⟩⟩)
  · have hi4 : ma.toInt = mb.toInt := eqI hc4
    refine N.iconst C (pc' := 8) (z := 0) d48_7 rfl rfl ?_
    refine N.istoreN C (pc' := 9) (ls' := #[.val (.ref a), .val (.ref b), .val (.int (0 : Int32))]) d48_8 rfl rfl ?_
    have hlen : as.length = bs.length := by have q := eqI hc4; omega
    have loop : ∀ (q : Nat) (i : Int32) (k : Nat), as.length - k ≤ q → i.toInt = (k : Nat) → k ≤ as.length → (∀ j : Nat, j < k → as[j]? = bs[j]?) → N G K rm48 Q h 0 0 9 #[.val (.ref a), .val (.ref b), .val (.int i)] [] := by
      intro q
      induction q using Nat.strongRecOn with
      | _ q ih =>
      intro i k hq hi hk hpre
      refine N.iloadN C (pc' := 10) d48_9 rfl rfl ?_
      refine N.aloadN C (pc' := 11) d48_10 rfl rfl rfl ?_
      refine N.alen C (pc' := 12) (n := ma) d48_11 A_a len_a rfl ?_
      refine N.icmp C (pt := 32) (pf := 15) d48_12 rfl rfl (fun (hc12 : ma.toInt ≤ i.toInt) => ?_) (fun (hc12 : i.toInt < ma.toInt) => ?_)
      · refine N.iconst C (pc' := 33) (z := 1) d48_32 rfl rfl ?_
        exact N.retN C (by simp) (z' := (1 : Int32)) rfl d48_33 (by decide) (by decide) (by subst hQ; exact ⟨_, rfl, rfl, Or.inl ⟨own_eqN (n := as.length) hlen.symm rfl (fun j hj => hpre j (by omega)), rfl⟩⟩)
      · refine N.aloadN C (pc' := 16) d48_15 rfl rfl rfl ?_
        refine N.iloadN C (pc' := 17) d48_16 rfl rfl ?_
        obtain ⟨z1, hz1⟩ := own_at as (k := k) (by omega)
        obtain ⟨z2, hz2⟩ := own_at bs (k := k) (by omega)
        refine N.baload C (pc' := 18) (i := k) (v := (.int z1)) d48_17 A_a hi (own_pm hz1) rfl ?_
        refine N.aloadN C (pc' := 19) d48_18 rfl rfl rfl ?_
        refine N.iloadN C (pc' := 20) d48_19 rfl rfl ?_
        refine N.baload C (pc' := 21) (i := k) (v := (.int z2)) d48_20 A_b hi (own_pm hz2) rfl ?_
        refine N.icmp C (pt := 26) (pf := 24) d48_21 rfl rfl (fun (hc21 : z1 = z2) => ?_) (fun (hc21 : ¬ z1 = z2) => ?_)
        · have hi21 : z1.toInt = z2.toInt := eqI hc21
          refine N.iinc C (pc' := 29) (z := 1) (ls' := #[.val (.ref a), .val (.ref b), .val (.int (i + (1 : Int32)))]) d48_26 rfl rfl rfl rfl ?_
          refine N.goto C (pc' := 9) d48_29 rfl ?_
          exact ih _ (by omega) _ _ (Nat.le_refl _) (own_inc hi (by omega)) (by omega) (fun j hj => by rcases Nat.lt_succ_iff_lt_or_eq.mp hj with q | q; exact hpre j q; subst q; rw [hz1, hz2, hc21])
        · have hi21 : ¬ z1.toInt = z2.toInt := neI hc21
          refine N.iconst C (pc' := 25) (z := 0) d48_24 rfl rfl ?_
          exact N.retN C (by simp) (z' := (0 : Int32)) rfl d48_25 (by decide) (by decide) (by subst hQ; exact ⟨_, rfl, rfl, Or.inr ⟨fun q => hc21 (by rw [q, hz2] at hz1; exact (Option.some.inj hz1).symm), rfl⟩⟩)
    exact loop _ _ 0 (Nat.le_refl _) (by decide) (Nat.zero_le _) (fun j hj => absurd hj (Nat.not_lt_zero _))
set_option maxRecDepth 65536 in
set_option maxHeartbeats 40000000 in
theorem con47 (G : Gx) (hw : ∀ d ∈ tables_1, d.before G.a0 G.Z = true) (x y a b : Addr) (as bs : List Int32) (cp : Int32) (dO dT us sn : Addr) (h : Heap) (ha : as.length < 90) (hb : bs.length < 90) (SS : Ss G cp dO dT us sn) (O : Old G.Z G.n0 h) (ne_x_y : x ≠ y) (E_x : Exa G.Z h x "java/lang/String") (F_x_coder : Fld G.Z h x "java/lang/String" "coder" "B" (.int (0 : Int32))) (F_x_value : Fld G.Z h x "java/lang/String" "value" "[B" (.ref a)) (A_a : Av G.Z h a .byte (as.map .int)) (E_y : Exa G.Z h y "java/lang/String") (F_y_coder : Fld G.Z h y "java/lang/String" "coder" "B" (.int (0 : Int32))) (F_y_value : Fld G.Z h y "java/lang/String" "value" "[B" (.ref b)) (A_b : Av G.Z h b .byte (bs.map .int)) :
    Con G (⟨"java/lang/String", "equals", "(Ljava/lang/Object;)Z"⟩ : MethodName) jdk_42_method_66_code 3 (some .boolean) rm47 #[(.ref x), (.ref y)] h (fun v h' => ∃ r : Int32, v = some (.int r) ∧ h = h' ∧ ((as = bs ∧ r = 1) ∨ (¬ as = bs ∧ r = 0))) := by
  refine Con.of (W := tables_1) (plainFor_of_name pn47) hw (fun mm => ef47 mm x y) (fun K C => ?_)
  have C : Cx G K "java/lang/String" "equals" jdk_42_method_66_code 3 (some .boolean) tables_1 := C
  generalize hQ : (fun v h' => ∃ r : Int32, v = some (.int r) ∧ h = h' ∧ ((as = bs ∧ r = 1) ∨ (¬ as = bs ∧ r = 0)) : Option Value → Heap → Prop) = Q
  refine N.aloadN C (pc' := 1) d47_0 rfl rfl rfl ?_
  refine N.aloadN C (pc' := 2) d47_1 rfl rfl rfl ?_
  refine N.acmp C (pc' := 7) false d47_2 rfl rfl (decide_eq_false fun q => ne_x_y (Value.ref.inj q)) (by decide) (by decide) ?_
  refine N.aloadN C (pc' := 8) d47_7 rfl rfl rfl ?_
  refine N.instanceof C (pc' := 11) d47_8 (C.w (i := 296) rfl) (Ins.self E_y) rfl ?_
  refine N.ifc C (pt := 54) (pf := 14) d47_11 rfl rfl (fun (q : (1 : Int32) = (0 : Int32)) => absurd q (by decide)) (fun _ => ?_)
  refine N.aloadN C (pc' := 15) d47_14 rfl rfl rfl ?_
  refine N.checkcast C (pc' := 18) d47_15 (C.w (i := 296) rfl) (Ins.self E_y) rfl ?_
  refine N.astoreN C (pc' := 19) (ls' := #[.val (.ref x), .val (.ref y), .val (.ref y)]) d47_18 rfl rfl rfl ?_
  have S_COMPACT_STRINGS := SS.s0.ext O.2
  refine N.getS C (pc' := 22) d47_19 (C.w (i := 26) rfl) S_COMPACT_STRINGS rfl ?_
  refine N.ifc C (pt := 36) (pf := 25) d47_22 rfl rfl (fun (hc22 : cp = (0 : Int32)) => absurd (show False from by exact SS.cp0 hc22) id) (fun (hc22 : ¬ cp = (0 : Int32)) => ?_)
  refine N.aloadN C (pc' := 26) d47_25 rfl rfl rfl ?_
  refine N.getF C (pc' := 29) d47_26 (C.w (i := 25) rfl) F_x_coder rfl ?_
  refine N.aloadN C (pc' := 30) d47_29 rfl rfl rfl ?_
  refine N.getF C (pc' := 33) d47_30 (C.w (i := 25) rfl) F_y_coder rfl ?_
  refine N.icmp C (pt := 54) (pf := 36) d47_33 rfl rfl (fun (q : ¬ (0 : Int32) = (0 : Int32)) => absurd q (by decide)) (fun _ => ?_)
  refine N.aloadN C (pc' := 37) d47_36 rfl rfl rfl ?_
  refine N.getF C (pc' := 40) d47_37 (C.w (i := 24) rfl) F_x_value rfl ?_
  refine N.aloadN C (pc' := 41) d47_40 rfl rfl rfl ?_
  refine N.getF C (pc' := 44) d47_41 (C.w (i := 24) rfl) F_y_value rfl ?_
  refine N.callS C (pc' := 47) [(.ref a), (.ref b)] d47_44 (C.w (i := 297) rfl) (C.w (i := 298) rfl) (C.w (i := 299) rfl) (C.w (i := 300) rfl) (by decide) (con48 G hw a b as bs h ha hb A_a A_b) (lenOf pd___B_B_Z rfl) rfl (by decide) (show 0 + (3 + 11) + _ ≤ _ from by decide) (by decide) (by decide) (rest := []) rfl rfl ?_
  rintro _ h44_1 ⟨r, rfl, rfl, hr⟩
  show N G K rm47 Q h 0 0 47 #[.val (.ref x), .val (.ref y), .val (.ref y)] [(.int r)]
  refine N.ifc C (pt := 54) (pf := 50) d47_47 rfl rfl (fun (hc47 : r = (0 : Int32)) => ?_) (fun (hc47 : ¬ r = (0 : Int32)) => ?_)
  · have hi47 : r.toInt = 0 := eqI hc47
    refine N.iconst C (pc' := 55) (z := 0) d47_54 rfl rfl ?_
    exact N.retN C (by simp) (z' := (0 : Int32)) rfl d47_55 (by decide) (by decide) (by subst hQ; exact ⟨_, rfl, rfl, hr.elim (fun q => absurd (hc47.symm.trans q.2) (by decide)) (fun q => Or.inr ⟨q.1, rfl⟩)⟩)
  · have hi47 : ¬ r.toInt = 0 := neI hc47
    refine N.iconst C (pc' := 51) (z := 1) d47_50 rfl rfl ?_
    refine N.goto C (pc' := 55) d47_51 rfl ?_
    exact N.retN C (by simp) (z' := (1 : Int32)) rfl d47_55 (by decide) (by decide) (by subst hQ; exact ⟨_, rfl, rfl, hr.elim (fun q => Or.inl ⟨q.1, rfl⟩) (fun q => absurd q.2 hc47)⟩)
set_option maxRecDepth 65536 in
set_option maxHeartbeats 40000000 in
theorem con47x (G : Gx) (hw : ∀ d ∈ tables_1, d.before G.a0 G.Z = true) (x : Addr) (h : Heap) :
    Con G (⟨"java/lang/String", "equals", "(Ljava/lang/Object;)Z"⟩ : MethodName) jdk_42_method_66_code 3 (some .boolean) rm47 #[(.ref x), (.ref x)] h (fun v h' => v = some (.int 1) ∧ h = h') := by
  refine Con.of (W := tables_1) (plainFor_of_name pn47) hw (fun mm => ef47 mm x x) (fun K C => ?_)
  have C : Cx G K "java/lang/String" "equals" jdk_42_method_66_code 3 (some .boolean) tables_1 := C
  generalize hQ : (fun v h' => v = some (.int 1) ∧ h = h' : Option Value → Heap → Prop) = Q
  refine N.aloadN C (pc' := 1) d47_0 rfl rfl rfl ?_
  refine N.aloadN C (pc' := 2) d47_1 rfl rfl rfl ?_
  refine N.acmp C (pc' := 5) true d47_2 rfl rfl (decide_eq_true rfl) (by decide) (by decide) ?_
  refine N.iconst C (pc' := 6) (z := 1) d47_5 rfl rfl ?_
  exact N.retN C (by simp) (z' := (1 : Int32)) rfl d47_6 (by decide) (by decide) (by subst hQ; exact ⟨rfl, rfl⟩)
theorem conE (G : Gx) (hw : ∀ d ∈ tables_1, d.before G.a0 G.Z = true) (x y a b : Addr) (as bs : List Int32) (cp : Int32) (dO dT us sn : Addr) (h : Heap) (ha : as.length < 90) (hb : bs.length < 90) (SS : Ss G cp dO dT us sn) (O : Old G.Z G.n0 h) (E_x : Exa G.Z h x "java/lang/String") (F_x_coder : Fld G.Z h x "java/lang/String" "coder" "B" (.int (0 : Int32))) (F_x_value : Fld G.Z h x "java/lang/String" "value" "[B" (.ref a)) (A_a : Av G.Z h a .byte (as.map .int)) (E_y : Exa G.Z h y "java/lang/String") (F_y_coder : Fld G.Z h y "java/lang/String" "coder" "B" (.int (0 : Int32))) (F_y_value : Fld G.Z h y "java/lang/String" "value" "[B" (.ref b)) (A_b : Av G.Z h b .byte (bs.map .int)) : Con G (⟨"java/lang/String", "equals", "(Ljava/lang/Object;)Z"⟩ : MethodName) jdk_42_method_66_code 3 (some .boolean) rm47 #[.ref x, .ref y] h (fun v h' => ∃ r : Int32, v = some (.int r) ∧ h = h' ∧ ((as = bs ∧ r = 1) ∨ (¬ as = bs ∧ r = 0))) := by
  by_cases q : x = y
  · subst q
    have e : a = b := Classical.byContradiction fun z => absurd rfl (Fld.ne F_x_value F_y_value (fun u => z (Value.ref.inj u)))
    subst e
    have e2 := own_avU A_a A_b
    exact (con47x G hw x h).mono (fun v h' u => ⟨1, u.1, u.2, Or.inl ⟨e2, rfl⟩⟩)
  · exact con47 G hw x y a b as bs cp dO dT us sn h ha hb SS O q E_x F_x_coder F_x_value A_a E_y F_y_coder F_y_value A_b
set_option maxRecDepth 65536 in
set_option maxHeartbeats 40000000 in
theorem con51 (G : Gx) (hw : ∀ d ∈ tables_1, d.before G.a0 G.Z = true) (a : Addr) (m : Int32) (zs : List Int32) (h : Heap) (hm : m.toInt = (zs.length : Nat)) (hz : zs.length ≤ 3) (A_a : Av G.Z h a .byte (zs.map .int)) :
    Con G (⟨"jdk/internal/util/ArraysSupport", "mismatch", "([BI[BII)I"⟩ : MethodName) jdk_48_method_14_code 8 (some .int) rm51 #[(.ref a), (.int (0 : Int32)), (.ref a), (.int (0 : Int32)), (.int m)] h (fun v h' => v = some (.int (-1)) ∧ h = h') := by
  refine Con.of (W := tables_1) (plainFor_of_name pn51) hw (fun mm => ef51 mm a (0 : Int32) a (0 : Int32) m) (fun K C => ?_)
  have C : Cx G K "jdk/internal/util/ArraysSupport" "mismatch" jdk_48_method_14_code 8 (some .int) tables_1 := C
  generalize hQ : (fun v h' => v = some (.int (-1)) ∧ h = h' : Option Value → Heap → Prop) = Q
  refine N.iconst C (pc' := 1) (z := 0) d51_0 rfl rfl ?_
  refine N.istore C (pc' := 3) (ls' := #[.val (.ref a), .val (.int (0 : Int32)), .val (.ref a), .val (.int (0 : Int32)), .val (.int m), .val (.int (0 : Int32)), .unset, .unset]) d51_1 rfl rfl ?_
  refine N.iload C (pc' := 5) d51_3 rfl rfl ?_
  refine N.bipush C (pc' := 7) (z := 7) d51_5 rfl rfl ?_
  refine N.icmp C (pt := 70) (pf := 10) d51_7 rfl rfl (fun (hc7 : m.toInt ≤ 7) => ?_) (fun (hc7 : 7 < m.toInt) => absurd (show False from by omega) id)
  have loop : ∀ (q : Nat) (i : Int32) (k : Nat), zs.length - k ≤ q → i.toInt = (k : Nat) → k ≤ zs.length → N G K rm51 Q h 0 0 70 #[.val (.ref a), .val (.int (0 : Int32)), .val (.ref a), .val (.int (0 : Int32)), .val (.int m), .val (.int i), .unset, .unset] [] := by
    intro q
    induction q using Nat.strongRecOn with
    | _ q ih =>
    intro i k hq hi hk
    refine N.iload C (pc' := 72) d51_70 rfl rfl ?_
    refine N.iload C (pc' := 74) d51_72 rfl rfl ?_
    refine N.icmp C (pt := 101) (pf := 77) d51_74 rfl rfl (fun (hc74 : m.toInt ≤ i.toInt) => ?_) (fun (hc74 : i.toInt < m.toInt) => ?_)
    · refine N.iconst C (pc' := 102) (z := -1) d51_101 rfl rfl ?_
      exact N.retI C d51_102 (by decide) (by decide) (by subst hQ; exact ⟨rfl, rfl⟩)
    · refine N.aloadN C (pc' := 78) d51_77 rfl rfl rfl ?_
      refine N.iloadN C (pc' := 79) d51_78 rfl rfl ?_
      refine N.iload C (pc' := 81) d51_79 rfl rfl ?_
      refine N.iadd C (pc' := 82) d51_81 rfl ?_
      obtain ⟨z, hz⟩ := own_at zs (k := k) (by omega)
      refine N.baload C (pc' := 83) (i := k) (v := (.int z)) d51_82 A_a (by rw [own_0i]; exact hi) (own_pm hz) rfl ?_
      refine N.aloadN C (pc' := 84) d51_83 rfl rfl rfl ?_
      refine N.iloadN C (pc' := 85) d51_84 rfl rfl ?_
      refine N.iload C (pc' := 87) d51_85 rfl rfl ?_
      refine N.iadd C (pc' := 88) d51_87 rfl ?_
      refine N.baload C (pc' := 89) (i := k) (v := (.int z)) d51_88 A_a (by rw [own_0i]; exact hi) (own_pm hz) rfl ?_
      refine N.icmp C (pt := 95) (pf := 92) d51_89 rfl rfl (fun (hc89 : z = z) => ?_) (fun (hc89 : ¬ z = z) => absurd (show False from by exact hc89 rfl) id)
      refine N.iinc C (pc' := 98) (z := 1) (ls' := #[.val (.ref a), .val (.int (0 : Int32)), .val (.ref a), .val (.int (0 : Int32)), .val (.int m), .val (.int (i + (1 : Int32))), .unset, .unset]) d51_95 rfl rfl rfl rfl ?_
      refine N.goto C (pc' := 70) d51_98 rfl ?_
      exact ih _ (by omega) _ _ (Nat.le_refl _) (own_inc hi (by omega)) (by omega)
  exact loop _ _ 0 (Nat.le_refl _) (by decide) (Nat.zero_le _)
set_option maxRecDepth 65536 in
set_option maxHeartbeats 40000000 in
theorem con50 (G : Gx) (hw : ∀ d ∈ tables_1, d.before G.a0 G.Z = true) (x a : Addr) (zs : List Int32) (cp : Int32) (dO dT us sn : Addr) (h : Heap) (hz : zs.length ≤ 3) (SS : Ss G cp dO dT us sn) (O : Old G.Z G.n0 h) (E_x : Exa G.Z h x "java/lang/String") (F_x_coder : Fld G.Z h x "java/lang/String" "coder" "B" (.int (0 : Int32))) (F_x_value : Fld G.Z h x "java/lang/String" "value" "[B" (.ref a)) (A_a : Av G.Z h a .byte (zs.map .int)) :
    Con G (⟨"java/lang/String", "startsWith", "(Ljava/lang/String;I)Z"⟩ : MethodName) jdk_42_method_75_code 8 (some .boolean) rm50 #[(.ref x), (.ref x), (.int (0 : Int32))] h (fun v h' => v = some (.int 1) ∧ h = h') := by
  refine Con.of (W := tables_1) (plainFor_of_name pn50) hw (fun mm => ef50 mm x x (0 : Int32)) (fun K C => ?_)
  have C : Cx G K "java/lang/String" "startsWith" jdk_42_method_75_code 8 (some .boolean) tables_1 := C
  generalize hQ : (fun v h' => v = some (.int 1) ∧ h = h' : Option Value → Heap → Prop) = Q
  obtain ⟨m, hm, len_a⟩ := own_lenI (zs := zs) (by omega)
  refine N.iloadN C (pc' := 1) d50_0 rfl rfl ?_
  refine N.ifc C (pt := 17) (pf := 4) d50_1 rfl rfl (fun (q : 0 < 0) => absurd q (by decide)) (fun _ => ?_)
  refine N.iloadN C (pc' := 5) d50_4 rfl rfl ?_
  refine N.aloadN C (pc' := 6) d50_5 rfl rfl rfl ?_
  refine N.callV C (pc' := 9) x [] d50_6 (C.w (i := 311) rfl) (C.w (i := 136) rfl) (C.w (i := 138) rfl) (C.w (i := 137) rfl) (C.w (i := 6) rfl) (C.w (i := 139) rfl) (by decide) E_x (con21 G hw x a zs cp dO dT us sn h (by omega) SS O E_x F_x_coder F_x_value A_a) (lenOf pd___I rfl) rfl (by decide) (show 1 + (1 + 11) + _ ≤ _ from by decide) (by decide) (by decide) (rest := [(.int (0 : Int32))]) rfl rfl ?_
  rintro _ h6_1 ⟨r1, rfl, rfl, hr1⟩
  show N G K rm50 Q h 0 0 9 #[.val (.ref x), .val (.ref x), .val (.int (0 : Int32)), .unset, .unset, .unset, .unset, .unset] [(.int r1), (.int (0 : Int32))]
  refine N.aloadN C (pc' := 10) d50_9 rfl rfl rfl ?_
  refine N.callV C (pc' := 13) x [] d50_10 (C.w (i := 311) rfl) (C.w (i := 136) rfl) (C.w (i := 138) rfl) (C.w (i := 137) rfl) (C.w (i := 6) rfl) (C.w (i := 139) rfl) (by decide) E_x (con21 G hw x a zs cp dO dT us sn h (by omega) SS O E_x F_x_coder F_x_value A_a) (lenOf pd___I rfl) rfl (by decide) (show 2 + (1 + 11) + _ ≤ _ from by decide) (by decide) (by decide) (rest := [(.int r1), (.int (0 : Int32))]) rfl rfl ?_
  rintro _ h10_2 ⟨r2, rfl, rfl, hr2⟩
  show N G K rm50 Q h 0 0 13 #[.val (.ref x), .val (.ref x), .val (.int (0 : Int32)), .unset, .unset, .unset, .unset, .unset] [(.int r2), (.int r1), (.int (0 : Int32))]
  refine N.isub C (pc' := 14) d50_13 rfl ?_
  refine N.icmp C (pt := 19) (pf := 17) d50_14 rfl rfl (fun (hc14 : 0 ≤ (r1 - r2).toInt) => ?_) (fun (hc14 : (r1 - r2).toInt < 0) => absurd (show False from by have h1 := c_isub r1 r2; have h2 := rng32 (r1 - r2); omega) id)
  refine N.aloadN C (pc' := 20) d50_19 rfl rfl rfl ?_
  refine N.getF C (pc' := 23) d50_20 (C.w (i := 24) rfl) F_x_value rfl ?_
  refine N.astoreN C (pc' := 24) (ls' := #[.val (.ref x), .val (.ref x), .val (.int (0 : Int32)), .val (.ref a), .unset, .unset, .unset, .unset]) d50_23 rfl rfl rfl ?_
  refine N.aloadN C (pc' := 25) d50_24 rfl rfl rfl ?_
  refine N.getF C (pc' := 28) d50_25 (C.w (i := 24) rfl) F_x_value rfl ?_
  refine N.astore C (pc' := 30) (ls' := #[.val (.ref x), .val (.ref x), .val (.int (0 : Int32)), .val (.ref a), .val (.ref a), .unset, .unset, .unset]) d50_28 rfl rfl rfl ?_
  refine N.iconst C (pc' := 31) (z := 0) d50_30 rfl rfl ?_
  refine N.istore C (pc' := 33) (ls' := #[.val (.ref x), .val (.ref x), .val (.int (0 : Int32)), .val (.ref a), .val (.ref a), .val (.int (0 : Int32)), .unset, .unset]) d50_31 rfl rfl ?_
  refine N.aload C (pc' := 35) d50_33 rfl rfl rfl ?_
  refine N.alen C (pc' := 36) (n := m) d50_35 A_a len_a rfl ?_
  refine N.istore C (pc' := 38) (ls' := #[.val (.ref x), .val (.ref x), .val (.int (0 : Int32)), .val (.ref a), .val (.ref a), .val (.int (0 : Int32)), .val (.int m), .unset]) d50_36 rfl rfl ?_
  refine N.aloadN C (pc' := 39) d50_38 rfl rfl rfl ?_
  refine N.callV C (pc' := 42) x [] d50_39 (C.w (i := 140) rfl) (C.w (i := 141) rfl) (C.w (i := 143) rfl) (C.w (i := 142) rfl) (C.w (i := 6) rfl) (C.w (i := 144) rfl) (by decide) E_x (con22 G hw x cp dO dT us sn h SS O F_x_coder) (lenOf pd___B rfl) rfl (by decide) (show 0 + (1 + 11) + _ ≤ _ from by decide) (by decide) (by decide) (rest := []) rfl rfl ?_
  rintro _ h39_3 ⟨rfl, rfl⟩
  show N G K rm50 Q h 0 0 42 #[.val (.ref x), .val (.ref x), .val (.int (0 : Int32)), .val (.ref a), .val (.ref a), .val (.int (0 : Int32)), .val (.int m), .unset] [(.int (0 : Int32))]
  refine N.istore C (pc' := 44) (ls' := #[.val (.ref x), .val (.ref x), .val (.int (0 : Int32)), .val (.ref a), .val (.ref a), .val (.int (0 : Int32)), .val (.int m), .val (.int (0 : Int32))]) d50_42 rfl rfl ?_
  refine N.iload C (pc' := 46) d50_44 rfl rfl ?_
  refine N.aloadN C (pc' := 47) d50_46 rfl rfl rfl ?_
  refine N.callV C (pc' := 50) x [] d50_47 (C.w (i := 140) rfl) (C.w (i := 141) rfl) (C.w (i := 143) rfl) (C.w (i := 142) rfl) (C.w (i := 6) rfl) (C.w (i := 144) rfl) (by decide) E_x (con22 G hw x cp dO dT us sn h SS O F_x_coder) (lenOf pd___B rfl) rfl (by decide) (show 1 + (1 + 11) + _ ≤ _ from by decide) (by decide) (by decide) (rest := [(.int (0 : Int32))]) rfl rfl ?_
  rintro _ h47_4 ⟨rfl, rfl⟩
  show N G K rm50 Q h 0 0 50 #[.val (.ref x), .val (.ref x), .val (.int (0 : Int32)), .val (.ref a), .val (.ref a), .val (.int (0 : Int32)), .val (.int m), .val (.int (0 : Int32))] [(.int (0 : Int32)), (.int (0 : Int32))]
  refine N.icmp C (pt := 82) (pf := 53) d50_50 rfl rfl (fun (q : ¬ (0 : Int32) = (0 : Int32)) => absurd q (by decide)) (fun _ => ?_)
  refine N.iload C (pc' := 55) d50_53 rfl rfl ?_
  refine N.iconst C (pc' := 56) (z := 1) d50_55 rfl rfl ?_
  refine N.icmp C (pt := 63) (pf := 59) d50_56 rfl rfl (fun _ => ?_) (fun (q : (0 : Int32) = (1 : Int32)) => absurd q (by decide))
  refine N.aloadN C (pc' := 64) d50_63 rfl rfl rfl ?_
  refine N.iloadN C (pc' := 65) d50_64 rfl rfl ?_
  refine N.aload C (pc' := 67) d50_65 rfl rfl rfl ?_
  refine N.iconst C (pc' := 68) (z := 0) d50_67 rfl rfl ?_
  refine N.iload C (pc' := 70) d50_68 rfl rfl ?_
  refine N.callS C (pc' := 73) [(.ref a), (.int (0 : Int32)), (.ref a), (.int (0 : Int32)), (.int m)] d50_70 (C.w (i := 312) rfl) (C.w (i := 313) rfl) (C.w (i := 314) rfl) (C.w (i := 315) rfl) (by decide) (con51 G hw a m zs h hm hz A_a) (lenOf pd___BI_BII_I rfl) rfl (by decide) (show 0 + (8 + 11) + _ ≤ _ from by decide) (by decide) (by decide) (rest := []) rfl rfl ?_
  rintro _ h70_5 ⟨rfl, rfl⟩
  show N G K rm50 Q h 0 0 73 #[.val (.ref x), .val (.ref x), .val (.int (0 : Int32)), .val (.ref a), .val (.ref a), .val (.int (0 : Int32)), .val (.int m), .val (.int (0 : Int32))] [(.int (-1 : Int32))]
  refine N.ifc C (pt := 80) (pf := 76) d50_73 rfl rfl (fun (q : 0 ≤ (-1)) => absurd q (by decide)) (fun _ => ?_)
  refine N.iconst C (pc' := 77) (z := 1) d50_76 rfl rfl ?_
  refine N.goto C (pc' := 81) d50_77 rfl ?_
  exact N.retN C (by simp) (z' := (1 : Int32)) rfl d50_81 (by decide) (by decide) (by subst hQ; exact ⟨rfl, rfl⟩)
set_option maxRecDepth 65536 in
set_option maxHeartbeats 40000000 in
theorem con49 (G : Gx) (hw : ∀ d ∈ tables_1, d.before G.a0 G.Z = true) (x t a : Addr) (zs : List Int32) (cp : Int32) (dO dT us sn : Addr) (h : Heap) (hz : zs.length ≤ 3) (SS : Ss G cp dO dT us sn) (O : Old G.Z G.n0 h) (Z0 : G.n0 ≤ h.size) (g_x : G.n0 ≤ x) (ne_t_x : t ≠ x) (ne_a_x : a ≠ x) (E_x : Exa G.Z h x "quadrille/Lexer") (F_x_text : Fld G.Z h x "quadrille/Lexer" "text" "Ljava/lang/String;" (.ref t)) (F_x_pos : Fld G.Z h x "quadrille/Lexer" "pos" "I" (.int (0 : Int32))) (E_t : Exa G.Z h t "java/lang/String") (F_t_coder : Fld G.Z h t "java/lang/String" "coder" "B" (.int (0 : Int32))) (F_t_value : Fld G.Z h t "java/lang/String" "value" "[B" (.ref a)) (A_a : Av G.Z h a .byte (zs.map .int)) :
    Con G (⟨"quadrille/Lexer", "consume", "(Ljava/lang/String;)Z"⟩ : MethodName) prog_70_method_12_code 2 (some .boolean) rm49 #[(.ref x), (.ref t)] h (fun v h' => v = some (.int 1) ∧ Keep h h' [x] ∧ ∃ p : Int32, Fld G.Z h' x "quadrille/Lexer" "text" "Ljava/lang/String;" (.ref t) ∧ Fld G.Z h' x "quadrille/Lexer" "pos" "I" (.int p) ∧ p.toInt = (zs.length : Nat)) := by
  refine Con.of (W := tables_1) (plainFor_of_name pn49) hw (fun mm => ef49 mm x t) (fun K C => ?_)
  have C : Cx G K "quadrille/Lexer" "consume" prog_70_method_12_code 2 (some .boolean) tables_1 := C
  generalize hQ : (fun v h' => v = some (.int 1) ∧ Keep h h' [x] ∧ ∃ p : Int32, Fld G.Z h' x "quadrille/Lexer" "text" "Ljava/lang/String;" (.ref t) ∧ Fld G.Z h' x "quadrille/Lexer" "pos" "I" (.int p) ∧ p.toInt = (zs.length : Nat) : Option Value → Heap → Prop) = Q
  have K0 : Keep h h [x] := Keep.refl _ _
  have ne_x_t := Ne.symm ne_t_x
  have ne_x_a := Ne.symm ne_a_x
  refine N.aloadN C (pc' := 1) d49_0 rfl rfl rfl ?_
  refine N.getF C (pc' := 4) d49_1 (C.w (i := 47) rfl) F_x_text rfl ?_
  refine N.aloadN C (pc' := 5) d49_4 rfl rfl rfl ?_
  refine N.aloadN C (pc' := 6) d49_5 rfl rfl rfl ?_
  refine N.getF C (pc' := 9) d49_6 (C.w (i := 60) rfl) F_x_pos rfl ?_
  refine N.callV C (pc' := 12) t [(.ref t), (.int (0 : Int32))] d49_9 (C.w (i := 306) rfl) (C.w (i := 307) rfl) (C.w (i := 309) rfl) (C.w (i := 308) rfl) (C.w (i := 6) rfl) (C.w (i := 310) rfl) (by decide) E_t (con50 G hw t a zs cp dO dT us sn h hz SS O E_t F_t_coder F_t_value A_a) (lenOf pd__Ljava_lang_String_I_Z rfl) rfl (by decide) (show 0 + (8 + 11) + _ ≤ _ from by decide) (by decide) (by decide) (rest := []) rfl rfl ?_
  rintro _ h9_1 ⟨rfl, rfl⟩
  show N G K rm49 Q h 0 0 12 #[.val (.ref x), .val (.ref t)] [(.int (1 : Int32))]
  refine N.ifc C (pt := 17) (pf := 15) d49_12 rfl rfl (fun _ => ?_) (fun (q : (1 : Int32) = (0 : Int32)) => absurd q (by decide))
  refine N.aloadN C (pc' := 18) d49_17 rfl rfl rfl ?_
  refine N.dup C (pc' := 19) d49_18 rfl rfl ?_
  refine N.getF C (pc' := 22) d49_19 (C.w (i := 60) rfl) F_x_pos rfl ?_
  refine N.aloadN C (pc' := 23) d49_22 rfl rfl rfl ?_
  refine N.callV C (pc' := 26) t [] d49_23 (C.w (i := 316) rfl) (C.w (i := 136) rfl) (C.w (i := 138) rfl) (C.w (i := 137) rfl) (C.w (i := 6) rfl) (C.w (i := 139) rfl) (by decide) E_t (con21 G hw t a zs cp dO dT us sn h (by omega) SS O E_t F_t_coder F_t_value A_a) (lenOf pd___I rfl) rfl (by decide) (show 2 + (1 + 11) + _ ≤ _ from by decide) (by decide) (by decide) (rest := [(.int (0 : Int32)), (.ref x)]) rfl rfl ?_
  rintro _ h23_2 ⟨r, rfl, rfl, hr⟩
  show N G K rm49 Q h 0 0 26 #[.val (.ref x), .val (.ref t)] [(.int r), (.int (0 : Int32)), (.ref x)]
  refine N.iadd C (pc' := 27) d49_26 rfl ?_
  refine N.putF C (pc' := 30) d49_27 (C.w (i := 60) rfl) F_x_pos E_x (Or.inl (C.w (i := 61) rfl)) (C.w (i := 38) rfl) (ty := .int) (by decide) rfl rfl g_x rfl (fun h27_3 W27 => ?_)
  have O := O.wr W27 g_x
  have Z0 : G.n0 ≤ _ := (Wr.size W27).symm ▸ Z0
  have F_x_text := F_x_text.other W27 (Or.inr (slot_ne (Or.inl (C.w (i := 48) rfl)) (Or.inl (C.w (i := 61) rfl)) (by decide) (t := (.object "java/lang/String")) (t' := .int) (by decide) (by decide)))
  have F_x_pos := F_x_pos.same W27
  have F_t_value := F_t_value.other W27 (Or.inl ne_t_x)
  have F_t_coder := F_t_coder.other W27 (Or.inl ne_t_x)
  have E_x := E_x.wr W27
  have E_t := E_t.wr W27
  have A_a := A_a.other W27 ne_a_x
  have K0 := K0.wr W27 (Or.inl (List.mem_of_getElem? (i := 0) rfl))
  refine N.iconst C (pc' := 31) (z := 1) d49_30 rfl rfl ?_
  exact N.retN C (by simp) (z' := (1 : Int32)) rfl d49_31 (by decide) (by decide) (by subst hQ; exact ⟨rfl, K0, _, F_x_text, F_x_pos, by rw [own_0i]; exact hr⟩)
set_option maxRecDepth 65536 in
set_option maxHeartbeats 40000000 in
theorem con52 (G : Gx) (hw : ∀ d ∈ tables_1, d.before G.a0 G.Z = true) (x t a : Addr) (p : Int32) (zs : List Int32) (cp : Int32) (dO dT us sn : Addr) (h : Heap) (hz : zs.length ≤ 3) (hp : p.toInt = (zs.length : Nat)) (SS : Ss G cp dO dT us sn) (O : Old G.Z G.n0 h) (F_x_text : Fld G.Z h x "quadrille/Lexer" "text" "Ljava/lang/String;" (.ref t)) (F_x_pos : Fld G.Z h x "quadrille/Lexer" "pos" "I" (.int p)) (E_t : Exa G.Z h t "java/lang/String") (F_t_coder : Fld G.Z h t "java/lang/String" "coder" "B" (.int (0 : Int32))) (F_t_value : Fld G.Z h t "java/lang/String" "value" "[B" (.ref a)) (A_a : Av G.Z h a .byte (zs.map .int)) :
    Con G (⟨"quadrille/Lexer", "atEnd", "()Z"⟩ : MethodName) prog_70_method_8_code 1 (some .boolean) rm52 #[(.ref x)] h (fun v h' => v = some (.int 1) ∧ h = h') := by
  refine Con.of (W := tables_1) (plainFor_of_name pn52) hw (fun mm => ef52 mm x) (fun K C => ?_)
  have C : Cx G K "quadrille/Lexer" "atEnd" prog_70_method_8_code 1 (some .boolean) tables_1 := C
  generalize hQ : (fun v h' => v = some (.int 1) ∧ h = h' : Option Value → Heap → Prop) = Q
  refine N.aloadN C (pc' := 1) d52_0 rfl rfl rfl ?_
  refine N.getF C (pc' := 4) d52_1 (C.w (i := 60) rfl) F_x_pos rfl ?_
  refine N.aloadN C (pc' := 5) d52_4 rfl rfl rfl ?_
  refine N.getF C (pc' := 8) d52_5 (C.w (i := 47) rfl) F_x_text rfl ?_
  refine N.callV C (pc' := 11) t [] d52_8 (C.w (i := 316) rfl) (C.w (i := 136) rfl) (C.w (i := 138) rfl) (C.w (i := 137) rfl) (C.w (i := 6) rfl) (C.w (i := 139) rfl) (by decide) E_t (con21 G hw t a zs cp dO dT us sn h (by omega) SS O E_t F_t_coder F_t_value A_a) (lenOf pd___I rfl) rfl (by decide) (show 1 + (1 + 11) + _ ≤ _ from by decide) (by decide) (by decide) (rest := [(.int p)]) rfl rfl ?_
  rintro _ h8_1 ⟨r, rfl, rfl, hr⟩
  show N G K rm52 Q h 0 0 11 #[.val (.ref x)] [(.int r), (.int p)]
  refine N.icmp C (pt := 18) (pf := 14) d52_11 rfl rfl (fun (hc11 : p.toInt < r.toInt) => absurd (show False from by omega) id) (fun (hc11 : r.toInt ≤ p.toInt) => ?_)
  refine N.iconst C (pc' := 15) (z := 1) d52_14 rfl rfl ?_
  refine N.goto C (pc' := 19) d52_15 rfl ?_
  exact N.retN C (by simp) (z' := (1 : Int32)) rfl d52_19 (by decide) (by decide) (by subst hQ; exact ⟨rfl, rfl⟩)
set_option maxRecDepth 65536 in
set_option maxHeartbeats 40000000 in
theorem con0 (G : Gx) (hw : ∀ d ∈ tables_1, d.before G.a0 G.Z = true) (p0 p1 p2 p3 p4 p5 : Int32) (cp : Int32) (dO dT us sn : Addr) (h : Heap) (SS : Ss G cp dO dT us sn) (O : Old G.Z G.n0 h) (Z0 : G.n0 ≤ h.size) :
    ConS G own_EL [] x code maxLocals ret room_1 #[(.int p0), (.int p1), (.int p2), (.int p3), (.int p4), (.int p5)] h (fun v _ => v = some (.int 1)) := by
  refine ConS.of (W := tables_1) (plainFor_of_name pn0) hw (own_ew hw) (fun mm => ef0 mm p0 p1 p2 p3 p4 p5) (fun K U hU C Sx => ?_)
  have C : Cx G K "quadrille/LexerResetPinLaw" "law" code maxLocals ret tables_1 := C
  generalize hQ : (fun v _ => v = some (.int 1) : Option Value → Heap → Prop) = Q
  refine N.iloadN C (pc' := 1) at_0 rfl rfl ?_
  refine N.iconst C (pc' := 2) (z := 3) at_1 rfl rfl ?_
  refine N.iand C (pc' := 3) at_2 rfl ?_
  generalize hd_n : (p0 &&& (3 : Int32)) = n at *
  refine N.istore C (pc' := 5) (ls' := #[.val (.int p0), .val (.int p1), .val (.int p2), .val (.int p3), .val (.int p4), .val (.int p5), .val (.int n), .unset, .unset, .unset, .unset, .unset, .unset, .unset, .unset, .unset, .unset, .unset, .unset]) at_3 rfl rfl ?_
  refine N.iload C (pc' := 7) at_5 rfl rfl ?_
  refine N.iloadN C (pc' := 8) at_7 rfl rfl ?_
  refine N.sipush C (pc' := 11) (z := 255) at_8 rfl rfl ?_
  refine N.iand C (pc' := 12) at_11 rfl ?_
  refine N.i2c C (pc' := 13) at_12 rfl ?_
  refine N.iloadN C (pc' := 14) at_13 rfl rfl ?_
  refine N.bipush C (pc' := 16) (z := 8) at_14 rfl rfl ?_
  refine N.iushr C (pc' := 17) at_16 rfl ?_
  refine N.sipush C (pc' := 20) (z := 255) at_17 rfl rfl ?_
  refine N.iand C (pc' := 21) at_20 rfl ?_
  refine N.i2c C (pc' := 22) at_21 rfl ?_
  refine N.iloadN C (pc' := 23) at_22 rfl rfl ?_
  refine N.bipush C (pc' := 25) (z := 16) at_23 rfl rfl ?_
  refine N.iushr C (pc' := 26) at_25 rfl ?_
  refine N.sipush C (pc' := 29) (z := 255) at_26 rfl rfl ?_
  refine N.iand C (pc' := 30) at_29 rfl ?_
  refine N.i2c C (pc' := 31) at_30 rfl ?_
  refine N.callSS C Sx (pc' := 34) [(.int n), (.int ((p1 &&& (255 : Int32)).toUInt32.toUInt16.toUInt32.toInt32)), (.int ((((p1.toUInt32 >>> ((8 : Int32) &&& 31).toUInt32).toInt32) &&& (255 : Int32)).toUInt32.toUInt16.toUInt32.toInt32)), (.int ((((p1.toUInt32 >>> ((16 : Int32) &&& 31).toUInt32).toInt32) &&& (255 : Int32)).toUInt32.toUInt16.toUInt32.toInt32))] at_31 (C.w (i := 0) rfl) (C.w (i := 1) rfl) (C.w (i := 2) rfl) (C.w (i := 3) rfl) (by decide) all0 (con1 G hw n ((p1 &&& (255 : Int32)).toUInt32.toUInt16.toUInt32.toInt32) ((((p1.toUInt32 >>> ((8 : Int32) &&& 31).toUInt32).toInt32) &&& (255 : Int32)).toUInt32.toUInt16.toUInt32.toInt32) ((((p1.toUInt32 >>> ((16 : Int32) &&& 31).toUInt32).toInt32) &&& (255 : Int32)).toUInt32.toUInt16.toUInt32.toInt32) cp dO dT us sn h (own_c255 _) (own_c255 _) (own_c255 _) SS O Z0) (lenOf pd__ICCC_Ljava_lang_String_ rfl) rfl (by decide) (show 0 + (4 + 11) + _ ≤ _ from by decide) (by decide) (by decide) (rest := []) rfl rfl ?_
  rintro K _ h31_1 C Sx ⟨t1, a1, zs1, rfl, hzt1, KM1, T1, hz1⟩
  have O := O.keep KM1 all0
  have Z0 := Nat.le_trans Z0 KM1.1
  have E_t1 := T1.1
  have F_t1_coder := T1.2.1
  have F_t1_value := T1.2.2.1
  have A_a1 := T1.2.2.2
  show NS G K own_EL U room_1 Q h31_1 6 19 34 #[.val (.int p0), .val (.int p1), .val (.int p2), .val (.int p3), .val (.int p4), .val (.int p5), .val (.int n), .unset, .unset, .unset, .unset, .unset, .unset, .unset, .unset, .unset, .unset, .unset, .unset] [(.ref t1)]
  refine N.astore C (pc' := 36) (ls' := #[.val (.int p0), .val (.int p1), .val (.int p2), .val (.int p3), .val (.int p4), .val (.int p5), .val (.int n), .val (.ref t1), .unset, .unset, .unset, .unset, .unset, .unset, .unset, .unset, .unset, .unset, .unset]) at_34 rfl rfl rfl ?_
  refine N.iloadN C (pc' := 37) at_36 rfl rfl ?_
  refine N.iconst C (pc' := 38) (z := 3) at_37 rfl rfl ?_
  refine N.iand C (pc' := 39) at_38 rfl ?_
  refine N.iloadN C (pc' := 40) at_39 rfl rfl ?_
  refine N.iconst C (pc' := 41) (z := 2) at_40 rfl rfl ?_
  refine N.iushr C (pc' := 42) at_41 rfl ?_
  refine N.sipush C (pc' := 45) (z := 255) at_42 rfl rfl ?_
  refine N.iand C (pc' := 46) at_45 rfl ?_
  refine N.i2c C (pc' := 47) at_46 rfl ?_
  refine N.iloadN C (pc' := 48) at_47 rfl rfl ?_
  refine N.bipush C (pc' := 50) (z := 10) at_48 rfl rfl ?_
  refine N.iushr C (pc' := 51) at_50 rfl ?_
  refine N.sipush C (pc' := 54) (z := 255) at_51 rfl rfl ?_
  refine N.iand C (pc' := 55) at_54 rfl ?_
  refine N.i2c C (pc' := 56) at_55 rfl ?_
  refine N.iloadN C (pc' := 57) at_56 rfl rfl ?_
  refine N.bipush C (pc' := 59) (z := 18) at_57 rfl rfl ?_
  refine N.iushr C (pc' := 60) at_59 rfl ?_
  refine N.sipush C (pc' := 63) (z := 255) at_60 rfl rfl ?_
  refine N.iand C (pc' := 64) at_63 rfl ?_
  refine N.i2c C (pc' := 65) at_64 rfl ?_
  refine N.callSS C Sx (pc' := 68) [(.int (p2 &&& (3 : Int32))), (.int ((((p2.toUInt32 >>> ((2 : Int32) &&& 31).toUInt32).toInt32) &&& (255 : Int32)).toUInt32.toUInt16.toUInt32.toInt32)), (.int ((((p2.toUInt32 >>> ((10 : Int32) &&& 31).toUInt32).toInt32) &&& (255 : Int32)).toUInt32.toUInt16.toUInt32.toInt32)), (.int ((((p2.toUInt32 >>> ((18 : Int32) &&& 31).toUInt32).toInt32) &&& (255 : Int32)).toUInt32.toUInt16.toUInt32.toInt32))] at_65 (C.w (i := 0) rfl) (C.w (i := 1) rfl) (C.w (i := 2) rfl) (C.w (i := 3) rfl) (by decide) all0 (con1 G hw (p2 &&& (3 : Int32)) ((((p2.toUInt32 >>> ((2 : Int32) &&& 31).toUInt32).toInt32) &&& (255 : Int32)).toUInt32.toUInt16.toUInt32.toInt32) ((((p2.toUInt32 >>> ((10 : Int32) &&& 31).toUInt32).toInt32) &&& (255 : Int32)).toUInt32.toUInt16.toUInt32.toInt32) ((((p2.toUInt32 >>> ((18 : Int32) &&& 31).toUInt32).toInt32) &&& (255 : Int32)).toUInt32.toUInt16.toUInt32.toInt32) cp dO dT us sn h31_1 (own_c255 _) (own_c255 _) (own_c255 _) SS O Z0) (lenOf pd__ICCC_Ljava_lang_String_ rfl) rfl (by decide) (show 0 + (4 + 11) + _ ≤ _ from by decide) (by decide) (by decide) (rest := []) rfl rfl ?_
  rintro K _ h65_2 C Sx ⟨t2, a2, zs2, rfl, hzt2, KM2, T2, hz2⟩
  have O := O.keep KM2 all0
  have Z0 := Nat.le_trans Z0 KM2.1
  have F_t1_value := F_t1_value.keep KM2 nin0
  have F_t1_coder := F_t1_coder.keep KM2 nin0
  have E_t1 := E_t1.keep KM2
  have A_a1 := A_a1.keep KM2 nin0
  have E_t2 := T2.1
  have F_t2_coder := T2.2.1
  have F_t2_value := T2.2.2.1
  have A_a2 := T2.2.2.2
  show NS G K own_EL U room_1 Q h65_2 12 38 68 #[.val (.int p0), .val (.int p1), .val (.int p2), .val (.int p3), .val (.int p4), .val (.int p5), .val (.int n), .val (.ref t1), .unset, .unset, .unset, .unset, .unset, .unset, .unset, .unset, .unset, .unset, .unset] [(.ref t2)]
  refine N.astore C (pc' := 70) (ls' := #[.val (.int p0), .val (.int p1), .val (.int p2), .val (.int p3), .val (.int p4), .val (.int p5), .val (.int n), .val (.ref t1), .val (.ref t2), .unset, .unset, .unset, .unset, .unset, .unset, .unset, .unset, .unset, .unset]) at_68 rfl rfl rfl ?_
  refine N.iloadN C (pc' := 71) at_70 rfl rfl ?_
  refine N.iconst C (pc' := 72) (z := 2) at_71 rfl rfl ?_
  refine N.iushr C (pc' := 73) at_72 rfl ?_
  refine N.iconst C (pc' := 74) (z := 3) at_73 rfl rfl ?_
  refine N.iand C (pc' := 75) at_74 rfl ?_
  generalize hd_k : (((p0.toUInt32 >>> ((2 : Int32) &&& 31).toUInt32).toInt32) &&& (3 : Int32)) = k at *
  refine N.istore C (pc' := 77) (ls' := #[.val (.int p0), .val (.int p1), .val (.int p2), .val (.int p3), .val (.int p4), .val (.int p5), .val (.int n), .val (.ref t1), .val (.ref t2), .val (.int k), .unset, .unset, .unset, .unset, .unset, .unset, .unset, .unset, .unset]) at_75 rfl rfl ?_
  refine N.iloadN C (pc' := 78) at_77 rfl rfl ?_
  refine N.bipush C (pc' := 80) (z := 16) at_78 rfl rfl ?_
  refine N.iand C (pc' := 81) at_80 rfl ?_
  suffices J : ∀ o : Int32, NS G K own_EL U room_1 Q h65_2 12 38 91 #[.val (.int p0), .val (.int p1), .val (.int p2), .val (.int p3), .val (.int p4), .val (.int p5), .val (.int n), .val (.ref t1), .val (.ref t2), .val (.int k), .unset, .unset, .unset, .unset, .unset, .unset, .unset, .unset, .unset] [(.int o)] by
    refine N.ifc C (pt := 89) (pf := 84) at_81 rfl rfl (fun (hc81 : (p0 &&& (16 : Int32)) = (0 : Int32)) => ?_) (fun (hc81 : ¬ (p0 &&& (16 : Int32)) = (0 : Int32)) => ?_)
    · have hi81 : (p0 &&& (16 : Int32)).toInt = 0 := eqI hc81
      refine N.iload C (pc' := 91) at_89 rfl rfl ?_
      exact J _
    · have hi81 : ¬ (p0 &&& (16 : Int32)).toInt = 0 := neI hc81
      refine N.bipush C (pc' := 86) (z := 7) at_84 rfl rfl ?_
      refine N.goto C (pc' := 91) at_86 rfl ?_
      exact J _
  intro o
  refine N.istore C (pc' := 93) (ls' := #[.val (.int p0), .val (.int p1), .val (.int p2), .val (.int p3), .val (.int p4), .val (.int p5), .val (.int n), .val (.ref t1), .val (.ref t2), .val (.int k), .val (.int o), .unset, .unset, .unset, .unset, .unset, .unset, .unset, .unset]) at_91 rfl rfl ?_
  refine N.newO C (pc' := 96) at_93 (C.w (i := 37) rfl) (C.w (i := 38) rfl) (C.w (i := 39) rfl) (by decide) (by decide) rfl (fun h93_3 x hx_x Ex93 E_x D_x => ?_)
  have ne_t1_x : t1 ≠ x := by rw [hx_x]; exact Nat.ne_of_lt F_t1_value.lt
  have ne_x_t1 := Ne.symm ne_t1_x
  have ne_a1_x : a1 ≠ x := by rw [hx_x]; exact Nat.ne_of_lt A_a1.lt
  have ne_x_a1 := Ne.symm ne_a1_x
  have ne_t2_x : t2 ≠ x := by rw [hx_x]; exact Nat.ne_of_lt F_t2_value.lt
  have ne_x_t2 := Ne.symm ne_t2_x
  have ne_a2_x : a2 ≠ x := by rw [hx_x]; exact Nat.ne_of_lt A_a2.lt
  have ne_x_a2 := Ne.symm ne_a2_x
  have g_x : G.n0 ≤ x := by rw [hx_x]; exact Z0
  have Z0 := Nat.le_trans Z0 Ex93.1
  have O := O.ext Ex93
  have F_t1_value := F_t1_value.ext Ex93
  have F_t1_coder := F_t1_coder.ext Ex93
  have F_t2_value := F_t2_value.ext Ex93
  have F_t2_coder := F_t2_coder.ext Ex93
  have E_t1 := E_t1.ext Ex93
  have E_t2 := E_t2.ext Ex93
  have A_a1 := A_a1.ext Ex93
  have A_a2 := A_a2.ext Ex93
  have Sx := Sx.born Ex93 hx_x E_x.lt
  have F_x_text : Fld G.Z h93_3 x "quadrille/Lexer" "text" "Ljava/lang/String;" .null := D_x (Or.inl (C.w (i := 48) rfl)) (ty := (.object "java/lang/String")) (by decide)
  have F_x_firstLine : Fld G.Z h93_3 x "quadrille/Lexer" "firstLine" "I" (.int (0 : Int32)) := D_x (Or.inl (C.w (i := 50) rfl)) (ty := .int) (by decide)
  have F_x_source : Fld G.Z h93_3 x "quadrille/Lexer" "source" "Ljava/lang/String;" .null := D_x (Or.inr (C.w (i := 52) rfl)) (ty := (.object "java/lang/String")) (by decide)
  have F_x_endOfText : Fld G.Z h93_3 x "quadrille/Lexer" "endOfText" "Ljava/lang/String;" .null := D_x (Or.inr (C.w (i := 54) rfl)) (ty := (.object "java/lang/String")) (by decide)
  have F_x_pos : Fld G.Z h93_3 x "quadrille/Lexer" "pos" "I" (.int (0 : Int32)) := D_x (Or.inl (C.w (i := 61) rfl)) (ty := .int) (by decide)
  have F_x_nesting : Fld G.Z h93_3 x "quadrille/Lexer" "nesting" "I" (.int (0 : Int32)) := D_x (Or.inl (C.w (i := 63) rfl)) (ty := .int) (by decide)
  refine N.dup C (pc' := 97) at_96 rfl rfl ?_
  refine N.ldcS C Sx (vs := [.int 115]) 4 at_97 (C.w (i := 40) rfl) (own_SA hw) (by decide) ⟨by decide, rfl⟩ (z := 1) (by decide) (by decide) (by decide) (by decide) (by decide) (by decide) rfl (fun K h97_4 k1 yk1 C Sx Ex97 E_k1 F_k1_coder F_k1_value A_yk1 ne_k1 => ?_)
  have Z0 := Nat.le_trans Z0 Ex97.1
  have O := O.ext Ex97
  have F_t1_value := F_t1_value.ext Ex97
  have F_t1_coder := F_t1_coder.ext Ex97
  have F_t2_value := F_t2_value.ext Ex97
  have F_t2_coder := F_t2_coder.ext Ex97
  have F_x_text := F_x_text.ext Ex97
  have F_x_firstLine := F_x_firstLine.ext Ex97
  have F_x_source := F_x_source.ext Ex97
  have F_x_endOfText := F_x_endOfText.ext Ex97
  have F_x_pos := F_x_pos.ext Ex97
  have F_x_nesting := F_x_nesting.ext Ex97
  have E_t1 := E_t1.ext Ex97
  have E_t2 := E_t2.ext Ex97
  have E_x := E_x.ext Ex97
  have A_a1 := A_a1.ext Ex97
  have A_a2 := A_a2.ext Ex97
  have ne_x_k1 := (ne_k1 x (List.mem_of_getElem? (i := 0) rfl)).1
  have ne_x_yk1 := (ne_k1 x (List.mem_of_getElem? (i := 0) rfl)).2
  have ne_k1_x := Ne.symm ne_x_k1
  have ne_yk1_x := Ne.symm ne_x_yk1
  show NS G K own_EL U room_1 Q h97_4 15 52 99 #[.val (.int p0), .val (.int p1), .val (.int p2), .val (.int p3), .val (.int p4), .val (.int p5), .val (.int n), .val (.ref t1), .val (.ref t2), .val (.int k), .val (.int o), .unset, .unset, .unset, .unset, .unset, .unset, .unset, .unset] [(.ref k1), (.ref x), (.ref x)]
  refine N.ldcS C Sx (vs := [.int 101]) 4 at_99 (C.w (i := 41) rfl) (own_SA hw) (by decide) ⟨by decide, rfl⟩ (z := 1) (by decide) (by decide) (by decide) (by decide) (by decide) (by decide) rfl (fun K h99_5 k2 yk2 C Sx Ex99 E_k2 F_k2_coder F_k2_value A_yk2 ne_k2 => ?_)
  have Z0 := Nat.le_trans Z0 Ex99.1
  have O := O.ext Ex99
  have F_t1_value := F_t1_value.ext Ex99
  have F_t1_coder := F_t1_coder.ext Ex99
  have F_t2_value := F_t2_value.ext Ex99
  have F_t2_coder := F_t2_coder.ext Ex99
  have F_x_text := F_x_text.ext Ex99
  have F_x_firstLine := F_x_firstLine.ext Ex99
  have F_x_source := F_x_source.ext Ex99
  have F_x_endOfText := F_x_endOfText.ext Ex99
  have F_x_pos := F_x_pos.ext Ex99
  have F_x_nesting := F_x_nesting.ext Ex99
  have F_k1_coder := F_k1_coder.ext Ex99
  have F_k1_value := F_k1_value.ext Ex99
  have E_t1 := E_t1.ext Ex99
  have E_t2 := E_t2.ext Ex99
  have E_x := E_x.ext Ex99
  have E_k1 := E_k1.ext Ex99
  have A_a1 := A_a1.ext Ex99
  have A_a2 := A_a2.ext Ex99
  have A_yk1 := A_yk1.ext Ex99
  have ne_x_k2 := (ne_k2 x (List.mem_of_getElem? (i := 0) rfl)).1
  have ne_x_yk2 := (ne_k2 x (List.mem_of_getElem? (i := 0) rfl)).2
  have ne_k2_x := Ne.symm ne_x_k2
  have ne_yk2_x := Ne.symm ne_x_yk2
  show NS G K own_EL U room_1 Q h99_5 17 60 101 #[.val (.int p0), .val (.int p1), .val (.int p2), .val (.int p3), .val (.int p4), .val (.int p5), .val (.int n), .val (.ref t1), .val (.ref t2), .val (.int k), .val (.int o), .unset, .unset, .unset, .unset, .unset, .unset, .unset, .unset] [(.ref k2), (.ref k1), (.ref x), (.ref x)]
  refine N.callIS C Sx (pc' := 104) x [(.ref k1), (.ref k2)] at_101 rfl (C.w (i := 42) rfl) (C.w (i := 43) rfl) (C.w (i := 39) rfl) (C.w (i := 44) rfl) (by decide) (allS (List.mem_of_getElem? (i := 0) rfl) all0) (con8 G hw x k1 k2 h99_5 O Z0 g_x E_x F_x_text F_x_firstLine F_x_source F_x_endOfText F_x_pos F_x_nesting) (lenOf pd__Ljava_lang_String_Ljava_lang_String__V rfl) rfl (by decide) (show 1 + (3 + 11) + _ ≤ _ from by decide) (by decide) (by decide) (rest := [(.ref x)]) rfl rfl ?_
  rintro K _ h101_6 C Sx ⟨rfl, KXx, cx, Fx_text, Fx_firstLine, Fx_source, Fx_endOfText, Fx_pos, Fx_nesting⟩
  have O := O.keep KXx (allS g_x all0)
  have Z0 := Nat.le_trans Z0 KXx.1
  have F_t1_value := F_t1_value.keep KXx (ninS ne_t1_x nin0)
  have F_t1_coder := F_t1_coder.keep KXx (ninS ne_t1_x nin0)
  have F_t2_value := F_t2_value.keep KXx (ninS ne_t2_x nin0)
  have F_t2_coder := F_t2_coder.keep KXx (ninS ne_t2_x nin0)
  have F_k1_coder := F_k1_coder.keep KXx (ninS ne_k1_x nin0)
  have F_k1_value := F_k1_value.keep KXx (ninS ne_k1_x nin0)
  have F_k2_coder := F_k2_coder.keep KXx (ninS ne_k2_x nin0)
  have F_k2_value := F_k2_value.keep KXx (ninS ne_k2_x nin0)
  have E_t1 := E_t1.keep KXx
  have E_t2 := E_t2.keep KXx
  have E_x := E_x.keep KXx
  have E_k1 := E_k1.keep KXx
  have E_k2 := E_k2.keep KXx
  have A_a1 := A_a1.keep KXx (ninS ne_a1_x nin0)
  have A_a2 := A_a2.keep KXx (ninS ne_a2_x nin0)
  have A_yk1 := A_yk1.keep KXx (ninS ne_yk1_x nin0)
  have A_yk2 := A_yk2.keep KXx (ninS ne_yk2_x nin0)
  have F_x_text := Fx_text
  have F_x_firstLine := Fx_firstLine
  have F_x_source := Fx_source
  have F_x_endOfText := Fx_endOfText
  have F_x_pos := Fx_pos
  have F_x_nesting := Fx_nesting
  show NS G K own_EL U room_1 Q h101_6 19 64 104 #[.val (.int p0), .val (.int p1), .val (.int p2), .val (.int p3), .val (.int p4), .val (.int p5), .val (.int n), .val (.ref t1), .val (.ref t2), .val (.int k), .val (.int o), .unset, .unset, .unset, .unset, .unset, .unset, .unset, .unset] [(.ref x)]
  refine N.astore C (pc' := 106) (ls' := #[.val (.int p0), .val (.int p1), .val (.int p2), .val (.int p3), .val (.int p4), .val (.int p5), .val (.int n), .val (.ref t1), .val (.ref t2), .val (.int k), .val (.int o), .val (.ref x), .unset, .unset, .unset, .unset, .unset, .unset, .unset]) at_104 rfl rfl rfl ?_
  refine N.aload C (pc' := 108) at_106 rfl rfl rfl ?_
  refine N.aload C (pc' := 110) at_108 rfl rfl rfl ?_
  refine N.iload C (pc' := 112) at_110 rfl rfl ?_
  refine N.callV C (pc' := 115) x [(.ref t2), (.int p4)] at_112 (C.w (i := 55) rfl) (C.w (i := 56) rfl) (C.w (i := 58) rfl) (C.w (i := 57) rfl) (C.w (i := 39) rfl) (C.w (i := 59) rfl) (by decide) E_x (con9 G hw x t2 p4 (.ref cx) (.int (1 : Int32)) (.int (0 : Int32)) (.int (0 : Int32)) (.ref k1) h101_6 Z0 g_x E_x F_x_text F_x_firstLine F_x_pos F_x_nesting F_x_source) (lenOf pd__Ljava_lang_String_I_V rfl) rfl (by decide) (show 0 + (3 + 11) + _ ≤ _ from by decide) (by decide) (by decide) (rest := []) rfl rfl ?_
  rintro _ h112_7 ⟨rfl, KR1, F1_text, F1_firstLine, F1_pos, F1_nesting, S1⟩
  have Sx := Sx.keep KR1 (allS (List.mem_of_getElem? (i := 0) rfl) all0)
  have O := O.keep KR1 (allS g_x all0)
  have Z0 := Nat.le_trans Z0 KR1.1
  have F_t1_value := F_t1_value.keep KR1 (ninS ne_t1_x nin0)
  have F_t1_coder := F_t1_coder.keep KR1 (ninS ne_t1_x nin0)
  have F_t2_value := F_t2_value.keep KR1 (ninS ne_t2_x nin0)
  have F_t2_coder := F_t2_coder.keep KR1 (ninS ne_t2_x nin0)
  have F_k1_coder := F_k1_coder.keep KR1 (ninS ne_k1_x nin0)
  have F_k1_value := F_k1_value.keep KR1 (ninS ne_k1_x nin0)
  have F_k2_coder := F_k2_coder.keep KR1 (ninS ne_k2_x nin0)
  have F_k2_value := F_k2_value.keep KR1 (ninS ne_k2_x nin0)
  have E_t1 := E_t1.keep KR1
  have E_t2 := E_t2.keep KR1
  have E_x := E_x.keep KR1
  have E_k1 := E_k1.keep KR1
  have E_k2 := E_k2.keep KR1
  have A_a1 := A_a1.keep KR1 (ninS ne_a1_x nin0)
  have A_a2 := A_a2.keep KR1 (ninS ne_a2_x nin0)
  have A_yk1 := A_yk1.keep KR1 (ninS ne_yk1_x nin0)
  have A_yk2 := A_yk2.keep KR1 (ninS ne_yk2_x nin0)
  have F_x_text := F1_text
  have F_x_firstLine := F1_firstLine
  have F_x_pos := F1_pos
  have F_x_nesting := F1_nesting
  have F_x_source := S1
  show NS G K own_EL U room_1 Q h112_7 19 64 115 #[.val (.int p0), .val (.int p1), .val (.int p2), .val (.int p3), .val (.int p4), .val (.int p5), .val (.int n), .val (.ref t1), .val (.ref t2), .val (.int k), .val (.int o), .val (.ref x), .unset, .unset, .unset, .unset, .unset, .unset, .unset] []
  refine N.aload C (pc' := 117) at_115 rfl rfl rfl ?_
  refine N.iload C (pc' := 119) at_117 rfl rfl ?_
  refine N.callV C (pc' := 122) x [(.int k)] at_119 (C.w (i := 64) rfl) (C.w (i := 65) rfl) (C.w (i := 67) rfl) (C.w (i := 66) rfl) (C.w (i := 39) rfl) (C.w (i := 68) rfl) (by decide) E_x (con10 G hw x k (.int (0 : Int32)) (.ref t2) (.int p4) (.int (0 : Int32)) (.ref k1) h112_7 Z0 g_x E_x F_x_pos F_x_text F_x_firstLine F_x_nesting F_x_source) (lenOf pd__I_V rfl) rfl (by decide) (show 0 + (2 + 11) + _ ≤ _ from by decide) (by decide) (by decide) (rest := []) rfl rfl ?_
  rintro _ h119_8 ⟨rfl, KMV, FV_pos, FV_text, FV_firstLine, FV_nesting, FV_source⟩
  have Sx := Sx.keep KMV (allS (List.mem_of_getElem? (i := 0) rfl) all0)
  have O := O.keep KMV (allS g_x all0)
  have Z0 := Nat.le_trans Z0 KMV.1
  have F_t1_value := F_t1_value.keep KMV (ninS ne_t1_x nin0)
  have F_t1_coder := F_t1_coder.keep KMV (ninS ne_t1_x nin0)
  have F_t2_value := F_t2_value.keep KMV (ninS ne_t2_x nin0)
  have F_t2_coder := F_t2_coder.keep KMV (ninS ne_t2_x nin0)
  have F_k1_coder := F_k1_coder.keep KMV (ninS ne_k1_x nin0)
  have F_k1_value := F_k1_value.keep KMV (ninS ne_k1_x nin0)
  have F_k2_coder := F_k2_coder.keep KMV (ninS ne_k2_x nin0)
  have F_k2_value := F_k2_value.keep KMV (ninS ne_k2_x nin0)
  have E_t1 := E_t1.keep KMV
  have E_t2 := E_t2.keep KMV
  have E_x := E_x.keep KMV
  have E_k1 := E_k1.keep KMV
  have E_k2 := E_k2.keep KMV
  have A_a1 := A_a1.keep KMV (ninS ne_a1_x nin0)
  have A_a2 := A_a2.keep KMV (ninS ne_a2_x nin0)
  have A_yk1 := A_yk1.keep KMV (ninS ne_yk1_x nin0)
  have A_yk2 := A_yk2.keep KMV (ninS ne_yk2_x nin0)
  have F_x_pos := FV_pos
  have F_x_text := FV_text
  have F_x_firstLine := FV_firstLine
  have F_x_nesting := FV_nesting
  have F_x_source := FV_source
  show NS G K own_EL U room_1 Q h119_8 19 64 122 #[.val (.int p0), .val (.int p1), .val (.int p2), .val (.int p3), .val (.int p4), .val (.int p5), .val (.int n), .val (.ref t1), .val (.ref t2), .val (.int k), .val (.int o), .val (.ref x), .unset, .unset, .unset, .unset, .unset, .unset, .unset] []
  refine N.aload C (pc' := 124) at_122 rfl rfl rfl ?_
  refine N.aload C (pc' := 126) at_124 rfl rfl rfl ?_
  refine N.iloadN C (pc' := 127) at_126 rfl rfl ?_
  refine N.callV C (pc' := 130) x [(.ref t1), (.int p3)] at_127 (C.w (i := 55) rfl) (C.w (i := 56) rfl) (C.w (i := 58) rfl) (C.w (i := 57) rfl) (C.w (i := 39) rfl) (C.w (i := 59) rfl) (by decide) E_x (con9 G hw x t1 p3 (.ref t2) (.int p4) (.int k) (.int (0 : Int32)) (.ref k1) h119_8 Z0 g_x E_x F_x_text F_x_firstLine F_x_pos F_x_nesting F_x_source) (lenOf pd__Ljava_lang_String_I_V rfl) rfl (by decide) (show 0 + (3 + 11) + _ ≤ _ from by decide) (by decide) (by decide) (rest := []) rfl rfl ?_
  rintro _ h127_9 ⟨rfl, KR2, F2_text, F2_firstLine, F2_pos, F2_nesting, S2⟩
  have Sx := Sx.keep KR2 (allS (List.mem_of_getElem? (i := 0) rfl) all0)
  have O := O.keep KR2 (allS g_x all0)
  have Z0 := Nat.le_trans Z0 KR2.1
  have F_t1_value := F_t1_value.keep KR2 (ninS ne_t1_x nin0)
  have F_t1_coder := F_t1_coder.keep KR2 (ninS ne_t1_x nin0)
  have F_t2_value := F_t2_value.keep KR2 (ninS ne_t2_x nin0)
  have F_t2_coder := F_t2_coder.keep KR2 (ninS ne_t2_x nin0)
  have F_k1_coder := F_k1_coder.keep KR2 (ninS ne_k1_x nin0)
  have F_k1_value := F_k1_value.keep KR2 (ninS ne_k1_x nin0)
  have F_k2_coder := F_k2_coder.keep KR2 (ninS ne_k2_x nin0)
  have F_k2_value := F_k2_value.keep KR2 (ninS ne_k2_x nin0)
  have E_t1 := E_t1.keep KR2
  have E_t2 := E_t2.keep KR2
  have E_x := E_x.keep KR2
  have E_k1 := E_k1.keep KR2
  have E_k2 := E_k2.keep KR2
  have A_a1 := A_a1.keep KR2 (ninS ne_a1_x nin0)
  have A_a2 := A_a2.keep KR2 (ninS ne_a2_x nin0)
  have A_yk1 := A_yk1.keep KR2 (ninS ne_yk1_x nin0)
  have A_yk2 := A_yk2.keep KR2 (ninS ne_yk2_x nin0)
  have F_x_text := F2_text
  have F_x_firstLine := F2_firstLine
  have F_x_pos := F2_pos
  have F_x_nesting := F2_nesting
  have F_x_source := S2
  show NS G K own_EL U room_1 Q h127_9 19 64 130 #[.val (.int p0), .val (.int p1), .val (.int p2), .val (.int p3), .val (.int p4), .val (.int p5), .val (.int n), .val (.ref t1), .val (.ref t2), .val (.int k), .val (.int o), .val (.ref x), .unset, .unset, .unset, .unset, .unset, .unset, .unset] []
  refine N.aload C (pc' := 132) at_130 rfl rfl rfl ?_
  refine N.callV C (pc' := 135) x [] at_132 (C.w (i := 69) rfl) (C.w (i := 70) rfl) (C.w (i := 72) rfl) (C.w (i := 71) rfl) (C.w (i := 39) rfl) (C.w (i := 73) rfl) (by decide) E_x (con11 G hw x (0 : Int32) h127_9 F_x_pos) (lenOf pd___I rfl) rfl (by decide) (show 0 + (1 + 11) + _ ≤ _ from by decide) (by decide) (by decide) (rest := []) rfl rfl ?_
  rintro _ h132_10 ⟨rfl, rfl⟩
  show NS G K own_EL U room_1 Q h127_9 19 64 135 #[.val (.int p0), .val (.int p1), .val (.int p2), .val (.int p3), .val (.int p4), .val (.int p5), .val (.int n), .val (.ref t1), .val (.ref t2), .val (.int k), .val (.int o), .val (.ref x), .unset, .unset, .unset, .unset, .unset, .unset, .unset] [(.int (0 : Int32))]
  refine N.ifc C (pt := 142) (pf := 138) at_135 rfl rfl (fun (q : ¬ (0 : Int32) = (0 : Int32)) => absurd q (by decide)) (fun _ => ?_)
  refine N.iconst C (pc' := 139) (z := 1) at_138 rfl rfl ?_
  refine N.goto C (pc' := 143) at_139 rfl ?_
  refine N.istore C (pc' := 145) (ls' := #[.val (.int p0), .val (.int p1), .val (.int p2), .val (.int p3), .val (.int p4), .val (.int p5), .val (.int n), .val (.ref t1), .val (.ref t2), .val (.int k), .val (.int o), .val (.ref x), .val (.int (1 : Int32)), .unset, .unset, .unset, .unset, .unset, .unset]) at_143 rfl rfl ?_
  refine N.aload C (pc' := 147) at_145 rfl rfl rfl ?_
  refine N.iconst C (pc' := 148) (z := 0) at_147 rfl rfl ?_
  refine N.ldcS C Sx (vs := [.int 112]) 4 at_148 (C.w (i := 74) rfl) (own_SA hw) (by decide) ⟨by decide, rfl⟩ (z := 1) (by decide) (by decide) (by decide) (by decide) (by decide) (by decide) rfl (fun K h148_11 k3 yk3 C Sx Ex148 E_k3 F_k3_coder F_k3_value A_yk3 ne_k3 => ?_)
  have Z0 := Nat.le_trans Z0 Ex148.1
  have O := O.ext Ex148
  have F_t1_value := F_t1_value.ext Ex148
  have F_t1_coder := F_t1_coder.ext Ex148
  have F_t2_value := F_t2_value.ext Ex148
  have F_t2_coder := F_t2_coder.ext Ex148
  have F_k1_coder := F_k1_coder.ext Ex148
  have F_k1_value := F_k1_value.ext Ex148
  have F_k2_coder := F_k2_coder.ext Ex148
  have F_k2_value := F_k2_value.ext Ex148
  have F_x_text := F_x_text.ext Ex148
  have F_x_firstLine := F_x_firstLine.ext Ex148
  have F_x_pos := F_x_pos.ext Ex148
  have F_x_nesting := F_x_nesting.ext Ex148
  have F_x_source := F_x_source.ext Ex148
  have E_t1 := E_t1.ext Ex148
  have E_t2 := E_t2.ext Ex148
  have E_x := E_x.ext Ex148
  have E_k1 := E_k1.ext Ex148
  have E_k2 := E_k2.ext Ex148
  have A_a1 := A_a1.ext Ex148
  have A_a2 := A_a2.ext Ex148
  have A_yk1 := A_yk1.ext Ex148
  have A_yk2 := A_yk2.ext Ex148
  have ne_x_k3 := (ne_k3 x (List.mem_of_getElem? (i := 0) rfl)).1
  have ne_x_yk3 := (ne_k3 x (List.mem_of_getElem? (i := 0) rfl)).2
  have ne_k3_x := Ne.symm ne_x_k3
  have ne_yk3_x := Ne.symm ne_x_yk3
  show NS G K own_EL U room_1 Q h148_11 21 72 150 #[.val (.int p0), .val (.int p1), .val (.int p2), .val (.int p3), .val (.int p4), .val (.int p5), .val (.int n), .val (.ref t1), .val (.ref t2), .val (.int k), .val (.int o), .val (.ref x), .val (.int (1 : Int32)), .unset, .unset, .unset, .unset, .unset, .unset] [(.ref k3), (.int (0 : Int32)), (.ref x)]
  refine N.callVS C Sx (pc' := 153) x [(.int (0 : Int32)), (.ref k3)] at_150 (C.w (i := 75) rfl) (C.w (i := 76) rfl) (C.w (i := 78) rfl) (C.w (i := 77) rfl) (C.w (i := 39) rfl) (C.w (i := 79) rfl) (by decide) E_x all0 (con12 G hw x k1 yk1 k3 yk3 p3 cp dO dT us sn h148_11 SS O Z0 E_x F_x_firstLine F_x_source E_k1 F_k1_coder F_k1_value A_yk1 E_k3 F_k3_coder F_k3_value A_yk3) (lenOf pd__ILjava_lang_String__Lquadrille_SyntaxException_ rfl) rfl (by decide) (show 0 + (5 + 11) + _ ≤ _ from by decide) (by decide) (by decide) (rest := []) rfl rfl ?_
  rintro K _ h150_12 C Sx ⟨e1, m1, d1, rfl, hze1, hzm1, KE1, E_e1, F_e1_detailMessage, TM1⟩
  have O := O.keep KE1 all0
  have Z0 := Nat.le_trans Z0 KE1.1
  have F_t1_value := F_t1_value.keep KE1 nin0
  have F_t1_coder := F_t1_coder.keep KE1 nin0
  have F_t2_value := F_t2_value.keep KE1 nin0
  have F_t2_coder := F_t2_coder.keep KE1 nin0
  have F_k1_coder := F_k1_coder.keep KE1 nin0
  have F_k1_value := F_k1_value.keep KE1 nin0
  have F_k2_coder := F_k2_coder.keep KE1 nin0
  have F_k2_value := F_k2_value.keep KE1 nin0
  have F_x_text := F_x_text.keep KE1 nin0
  have F_x_firstLine := F_x_firstLine.keep KE1 nin0
  have F_x_pos := F_x_pos.keep KE1 nin0
  have F_x_nesting := F_x_nesting.keep KE1 nin0
  have F_x_source := F_x_source.keep KE1 nin0
  have F_k3_coder := F_k3_coder.keep KE1 nin0
  have F_k3_value := F_k3_value.keep KE1 nin0
  have E_t1 := E_t1.keep KE1
  have E_t2 := E_t2.keep KE1
  have E_x := E_x.keep KE1
  have E_k1 := E_k1.keep KE1
  have E_k2 := E_k2.keep KE1
  have E_k3 := E_k3.keep KE1
  have A_a1 := A_a1.keep KE1 nin0
  have A_a2 := A_a2.keep KE1 nin0
  have A_yk1 := A_yk1.keep KE1 nin0
  have A_yk2 := A_yk2.keep KE1 nin0
  have A_yk3 := A_yk3.keep KE1 nin0
  have E_m1 := TM1.1
  have F_m1_coder := TM1.2.1
  have F_m1_value := TM1.2.2.1
  have A_d1 := TM1.2.2.2
  show NS G K own_EL U room_1 Q h150_12 41 3157 153 #[.val (.int p0), .val (.int p1), .val (.int p2), .val (.int p3), .val (.int p4), .val (.int p5), .val (.int n), .val (.ref t1), .val (.ref t2), .val (.int k), .val (.int o), .val (.ref x), .val (.int (1 : Int32)), .unset, .unset, .unset, .unset, .unset, .unset] [(.ref e1)]
  refine N.callUp C (pc' := 156) e1 [] at_153 (C.w (i := 285) rfl) (C.w (i := 286) rfl) (C.w (i := 287) rfl) (by decide) (C.w (i := 289) rfl) (C.w (i := 288) rfl) (C.w (i := 246) rfl) (C.w (i := 290) rfl) E_e1 (con46 G hw e1 m1 h150_12 F_e1_detailMessage) (lenOf pd___Ljava_lang_String_ rfl) rfl (by decide) (show 0 + (1 + 11) + _ ≤ _ from by decide) (by decide) (by decide) (rest := []) rfl rfl ?_
  rintro _ h153_13 ⟨rfl, rfl⟩
  show NS G K own_EL U room_1 Q h150_12 41 3157 156 #[.val (.int p0), .val (.int p1), .val (.int p2), .val (.int p3), .val (.int p4), .val (.int p5), .val (.int n), .val (.ref t1), .val (.ref t2), .val (.int k), .val (.int o), .val (.ref x), .val (.int (1 : Int32)), .unset, .unset, .unset, .unset, .unset, .unset] [(.ref m1)]
  refine N.astore C (pc' := 158) (ls' := #[.val (.int p0), .val (.int p1), .val (.int p2), .val (.int p3), .val (.int p4), .val (.int p5), .val (.int n), .val (.ref t1), .val (.ref t2), .val (.int k), .val (.int o), .val (.ref x), .val (.int (1 : Int32)), .val (.ref m1), .unset, .unset, .unset, .unset, .unset]) at_156 rfl rfl rfl ?_
  refine N.newO C (pc' := 161) at_158 (C.w (i := 37) rfl) (C.w (i := 38) rfl) (C.w (i := 39) rfl) (by decide) (by decide) rfl (fun h158_14 y hx_y Ex158 E_y D_y => ?_)
  have ne_t1_y : t1 ≠ y := by rw [hx_y]; exact Nat.ne_of_lt F_t1_value.lt
  have ne_y_t1 := Ne.symm ne_t1_y
  have ne_a1_y : a1 ≠ y := by rw [hx_y]; exact Nat.ne_of_lt A_a1.lt
  have ne_y_a1 := Ne.symm ne_a1_y
  have ne_t2_y : t2 ≠ y := by rw [hx_y]; exact Nat.ne_of_lt F_t2_value.lt
  have ne_y_t2 := Ne.symm ne_t2_y
  have ne_a2_y : a2 ≠ y := by rw [hx_y]; exact Nat.ne_of_lt A_a2.lt
  have ne_y_a2 := Ne.symm ne_a2_y
  have ne_x_y : x ≠ y := by rw [hx_y]; exact Nat.ne_of_lt F_x_text.lt
  have ne_y_x := Ne.symm ne_x_y
  have ne_k1_y : k1 ≠ y := by rw [hx_y]; exact Nat.ne_of_lt F_k1_coder.lt
  have ne_y_k1 := Ne.symm ne_k1_y
  have ne_yk1_y : yk1 ≠ y := by rw [hx_y]; exact Nat.ne_of_lt A_yk1.lt
  have ne_y_yk1 := Ne.symm ne_yk1_y
  have ne_k2_y : k2 ≠ y := by rw [hx_y]; exact Nat.ne_of_lt F_k2_coder.lt
  have ne_y_k2 := Ne.symm ne_k2_y
  have ne_yk2_y : yk2 ≠ y := by rw [hx_y]; exact Nat.ne_of_lt A_yk2.lt
  have ne_y_yk2 := Ne.symm ne_yk2_y
  have ne_k3_y : k3 ≠ y := by rw [hx_y]; exact Nat.ne_of_lt F_k3_coder.lt
  have ne_y_k3 := Ne.symm ne_k3_y
  have ne_yk3_y : yk3 ≠ y := by rw [hx_y]; exact Nat.ne_of_lt A_yk3.lt
  have ne_y_yk3 := Ne.symm ne_yk3_y
  have ne_m1_y : m1 ≠ y := by rw [hx_y]; exact Nat.ne_of_lt F_m1_value.lt
  have ne_y_m1 := Ne.symm ne_m1_y
  have ne_d1_y : d1 ≠ y := by rw [hx_y]; exact Nat.ne_of_lt A_d1.lt
  have ne_y_d1 := Ne.symm ne_d1_y
  have g_y : G.n0 ≤ y := by rw [hx_y]; exact Z0
  have Z0 := Nat.le_trans Z0 Ex158.1
  have O := O.ext Ex158
  have F_t1_value := F_t1_value.ext Ex158
  have F_t1_coder := F_t1_coder.ext Ex158
  have F_t2_value := F_t2_value.ext Ex158
  have F_t2_coder := F_t2_coder.ext Ex158
  have F_k1_coder := F_k1_coder.ext Ex158
  have F_k1_value := F_k1_value.ext Ex158
  have F_k2_coder := F_k2_coder.ext Ex158
  have F_k2_value := F_k2_value.ext Ex158
  have F_x_text := F_x_text.ext Ex158
  have F_x_firstLine := F_x_firstLine.ext Ex158
  have F_x_pos := F_x_pos.ext Ex158
  have F_x_nesting := F_x_nesting.ext Ex158
  have F_x_source := F_x_source.ext Ex158
  have F_k3_coder := F_k3_coder.ext Ex158
  have F_k3_value := F_k3_value.ext Ex158
  have F_m1_value := F_m1_value.ext Ex158
  have F_m1_coder := F_m1_coder.ext Ex158
  have E_t1 := E_t1.ext Ex158
  have E_t2 := E_t2.ext Ex158
  have E_x := E_x.ext Ex158
  have E_k1 := E_k1.ext Ex158
  have E_k2 := E_k2.ext Ex158
  have E_k3 := E_k3.ext Ex158
  have E_m1 := E_m1.ext Ex158
  have A_a1 := A_a1.ext Ex158
  have A_a2 := A_a2.ext Ex158
  have A_yk1 := A_yk1.ext Ex158
  have A_yk2 := A_yk2.ext Ex158
  have A_yk3 := A_yk3.ext Ex158
  have A_d1 := A_d1.ext Ex158
  have Sx := Sx.born Ex158 hx_y E_y.lt
  have F_y_text : Fld G.Z h158_14 y "quadrille/Lexer" "text" "Ljava/lang/String;" .null := D_y (Or.inl (C.w (i := 48) rfl)) (ty := (.object "java/lang/String")) (by decide)
  have F_y_firstLine : Fld G.Z h158_14 y "quadrille/Lexer" "firstLine" "I" (.int (0 : Int32)) := D_y (Or.inl (C.w (i := 50) rfl)) (ty := .int) (by decide)
  have F_y_source : Fld G.Z h158_14 y "quadrille/Lexer" "source" "Ljava/lang/String;" .null := D_y (Or.inr (C.w (i := 52) rfl)) (ty := (.object "java/lang/String")) (by decide)
  have F_y_endOfText : Fld G.Z h158_14 y "quadrille/Lexer" "endOfText" "Ljava/lang/String;" .null := D_y (Or.inr (C.w (i := 54) rfl)) (ty := (.object "java/lang/String")) (by decide)
  have F_y_pos : Fld G.Z h158_14 y "quadrille/Lexer" "pos" "I" (.int (0 : Int32)) := D_y (Or.inl (C.w (i := 61) rfl)) (ty := .int) (by decide)
  have F_y_nesting : Fld G.Z h158_14 y "quadrille/Lexer" "nesting" "I" (.int (0 : Int32)) := D_y (Or.inl (C.w (i := 63) rfl)) (ty := .int) (by decide)
  refine N.dup C (pc' := 162) at_161 rfl rfl ?_
  refine N.ldcS C Sx (vs := [.int 115]) 4 at_162 (C.w (i := 40) rfl) (own_SA hw) (by decide) ⟨by decide, rfl⟩ (z := 1) (by decide) (by decide) (by decide) (by decide) (by decide) (by decide) rfl (fun K h162_15 k4 yk4 C Sx Ex162 E_k4 F_k4_coder F_k4_value A_yk4 ne_k4 => ?_)
  have Z0 := Nat.le_trans Z0 Ex162.1
  have O := O.ext Ex162
  have F_t1_value := F_t1_value.ext Ex162
  have F_t1_coder := F_t1_coder.ext Ex162
  have F_t2_value := F_t2_value.ext Ex162
  have F_t2_coder := F_t2_coder.ext Ex162
  have F_k1_coder := F_k1_coder.ext Ex162
  have F_k1_value := F_k1_value.ext Ex162
  have F_k2_coder := F_k2_coder.ext Ex162
  have F_k2_value := F_k2_value.ext Ex162
  have F_x_text := F_x_text.ext Ex162
  have F_x_firstLine := F_x_firstLine.ext Ex162
  have F_x_pos := F_x_pos.ext Ex162
  have F_x_nesting := F_x_nesting.ext Ex162
  have F_x_source := F_x_source.ext Ex162
  have F_k3_coder := F_k3_coder.ext Ex162
  have F_k3_value := F_k3_value.ext Ex162
  have F_m1_value := F_m1_value.ext Ex162
  have F_m1_coder := F_m1_coder.ext Ex162
  have F_y_text := F_y_text.ext Ex162
  have F_y_firstLine := F_y_firstLine.ext Ex162
  have F_y_source := F_y_source.ext Ex162
  have F_y_endOfText := F_y_endOfText.ext Ex162
  have F_y_pos := F_y_pos.ext Ex162
  have F_y_nesting := F_y_nesting.ext Ex162
  have E_t1 := E_t1.ext Ex162
  have E_t2 := E_t2.ext Ex162
  have E_x := E_x.ext Ex162
  have E_k1 := E_k1.ext Ex162
  have E_k2 := E_k2.ext Ex162
  have E_k3 := E_k3.ext Ex162
  have E_m1 := E_m1.ext Ex162
  have E_y := E_y.ext Ex162
  have A_a1 := A_a1.ext Ex162
  have A_a2 := A_a2.ext Ex162
  have A_yk1 := A_yk1.ext Ex162
  have A_yk2 := A_yk2.ext Ex162
  have A_yk3 := A_yk3.ext Ex162
  have A_d1 := A_d1.ext Ex162
  have ne_y_k4 := (ne_k4 y (List.mem_of_getElem? (i := 0) rfl)).1
  have ne_y_yk4 := (ne_k4 y (List.mem_of_getElem? (i := 0) rfl)).2
  have ne_k4_y := Ne.symm ne_y_k4
  have ne_yk4_y := Ne.symm ne_y_yk4
  have ne_x_k4 := (ne_k4 x (List.mem_of_getElem? (i := 1) rfl)).1
  have ne_x_yk4 := (ne_k4 x (List.mem_of_getElem? (i := 1) rfl)).2
  have ne_k4_x := Ne.symm ne_x_k4
  have ne_yk4_x := Ne.symm ne_x_yk4
  show NS G K own_EL U room_1 Q h162_15 44 3171 164 #[.val (.int p0), .val (.int p1), .val (.int p2), .val (.int p3), .val (.int p4), .val (.int p5), .val (.int n), .val (.ref t1), .val (.ref t2), .val (.int k), .val (.int o), .val (.ref x), .val (.int (1 : Int32)), .val (.ref m1), .unset, .unset, .unset, .unset, .unset] [(.ref k4), (.ref y), (.ref y)]
  refine N.ldcS C Sx (vs := [.int 101]) 4 at_164 (C.w (i := 41) rfl) (own_SA hw) (by decide) ⟨by decide, rfl⟩ (z := 1) (by decide) (by decide) (by decide) (by decide) (by decide) (by decide) rfl (fun K h164_16 k5 yk5 C Sx Ex164 E_k5 F_k5_coder F_k5_value A_yk5 ne_k5 => ?_)
  have Z0 := Nat.le_trans Z0 Ex164.1
  have O := O.ext Ex164
  have F_t1_value := F_t1_value.ext Ex164
  have F_t1_coder := F_t1_coder.ext Ex164
  have F_t2_value := F_t2_value.ext Ex164
  have F_t2_coder := F_t2_coder.ext Ex164
  have F_k1_coder := F_k1_coder.ext Ex164
  have F_k1_value := F_k1_value.ext Ex164
  have F_k2_coder := F_k2_coder.ext Ex164
  have F_k2_value := F_k2_value.ext Ex164
  have F_x_text := F_x_text.ext Ex164
  have F_x_firstLine := F_x_firstLine.ext Ex164
  have F_x_pos := F_x_pos.ext Ex164
  have F_x_nesting := F_x_nesting.ext Ex164
  have F_x_source := F_x_source.ext Ex164
  have F_k3_coder := F_k3_coder.ext Ex164
  have F_k3_value := F_k3_value.ext Ex164
  have F_m1_value := F_m1_value.ext Ex164
  have F_m1_coder := F_m1_coder.ext Ex164
  have F_y_text := F_y_text.ext Ex164
  have F_y_firstLine := F_y_firstLine.ext Ex164
  have F_y_source := F_y_source.ext Ex164
  have F_y_endOfText := F_y_endOfText.ext Ex164
  have F_y_pos := F_y_pos.ext Ex164
  have F_y_nesting := F_y_nesting.ext Ex164
  have F_k4_coder := F_k4_coder.ext Ex164
  have F_k4_value := F_k4_value.ext Ex164
  have E_t1 := E_t1.ext Ex164
  have E_t2 := E_t2.ext Ex164
  have E_x := E_x.ext Ex164
  have E_k1 := E_k1.ext Ex164
  have E_k2 := E_k2.ext Ex164
  have E_k3 := E_k3.ext Ex164
  have E_m1 := E_m1.ext Ex164
  have E_y := E_y.ext Ex164
  have E_k4 := E_k4.ext Ex164
  have A_a1 := A_a1.ext Ex164
  have A_a2 := A_a2.ext Ex164
  have A_yk1 := A_yk1.ext Ex164
  have A_yk2 := A_yk2.ext Ex164
  have A_yk3 := A_yk3.ext Ex164
  have A_d1 := A_d1.ext Ex164
  have A_yk4 := A_yk4.ext Ex164
  have ne_y_k5 := (ne_k5 y (List.mem_of_getElem? (i := 0) rfl)).1
  have ne_y_yk5 := (ne_k5 y (List.mem_of_getElem? (i := 0) rfl)).2
  have ne_k5_y := Ne.symm ne_y_k5
  have ne_yk5_y := Ne.symm ne_y_yk5
  have ne_x_k5 := (ne_k5 x (List.mem_of_getElem? (i := 1) rfl)).1
  have ne_x_yk5 := (ne_k5 x (List.mem_of_getElem? (i := 1) rfl)).2
  have ne_k5_x := Ne.symm ne_x_k5
  have ne_yk5_x := Ne.symm ne_x_yk5
  show NS G K own_EL U room_1 Q h164_16 46 3179 166 #[.val (.int p0), .val (.int p1), .val (.int p2), .val (.int p3), .val (.int p4), .val (.int p5), .val (.int n), .val (.ref t1), .val (.ref t2), .val (.int k), .val (.int o), .val (.ref x), .val (.int (1 : Int32)), .val (.ref m1), .unset, .unset, .unset, .unset, .unset] [(.ref k5), (.ref k4), (.ref y), (.ref y)]
  refine N.callIS C Sx (pc' := 169) y [(.ref k4), (.ref k5)] at_166 rfl (C.w (i := 42) rfl) (C.w (i := 43) rfl) (C.w (i := 39) rfl) (C.w (i := 44) rfl) (by decide) (allS (List.mem_of_getElem? (i := 0) rfl) all0) (con8 G hw y k4 k5 h164_16 O Z0 g_y E_y F_y_text F_y_firstLine F_y_source F_y_endOfText F_y_pos F_y_nesting) (lenOf pd__Ljava_lang_String_Ljava_lang_String__V rfl) rfl (by decide) (show 1 + (3 + 11) + _ ≤ _ from by decide) (by decide) (by decide) (rest := [(.ref y)]) rfl rfl ?_
  rintro K _ h166_17 C Sx ⟨rfl, KXy, cy, Fy_text, Fy_firstLine, Fy_source, Fy_endOfText, Fy_pos, Fy_nesting⟩
  have O := O.keep KXy (allS g_y all0)
  have Z0 := Nat.le_trans Z0 KXy.1
  have F_t1_value := F_t1_value.keep KXy (ninS ne_t1_y nin0)
  have F_t1_coder := F_t1_coder.keep KXy (ninS ne_t1_y nin0)
  have F_t2_value := F_t2_value.keep KXy (ninS ne_t2_y nin0)
  have F_t2_coder := F_t2_coder.keep KXy (ninS ne_t2_y nin0)
  have F_k1_coder := F_k1_coder.keep KXy (ninS ne_k1_y nin0)
  have F_k1_value := F_k1_value.keep KXy (ninS ne_k1_y nin0)
  have F_k2_coder := F_k2_coder.keep KXy (ninS ne_k2_y nin0)
  have F_k2_value := F_k2_value.keep KXy (ninS ne_k2_y nin0)
  have F_x_text := F_x_text.keep KXy (ninS ne_x_y nin0)
  have F_x_firstLine := F_x_firstLine.keep KXy (ninS ne_x_y nin0)
  have F_x_pos := F_x_pos.keep KXy (ninS ne_x_y nin0)
  have F_x_nesting := F_x_nesting.keep KXy (ninS ne_x_y nin0)
  have F_x_source := F_x_source.keep KXy (ninS ne_x_y nin0)
  have F_k3_coder := F_k3_coder.keep KXy (ninS ne_k3_y nin0)
  have F_k3_value := F_k3_value.keep KXy (ninS ne_k3_y nin0)
  have F_m1_value := F_m1_value.keep KXy (ninS ne_m1_y nin0)
  have F_m1_coder := F_m1_coder.keep KXy (ninS ne_m1_y nin0)
  have F_k4_coder := F_k4_coder.keep KXy (ninS ne_k4_y nin0)
  have F_k4_value := F_k4_value.keep KXy (ninS ne_k4_y nin0)
  have F_k5_coder := F_k5_coder.keep KXy (ninS ne_k5_y nin0)
  have F_k5_value := F_k5_value.keep KXy (ninS ne_k5_y nin0)
  have E_t1 := E_t1.keep KXy
  have E_t2 := E_t2.keep KXy
  have E_x := E_x.keep KXy
  have E_k1 := E_k1.keep KXy
  have E_k2 := E_k2.keep KXy
  have E_k3 := E_k3.keep KXy
  have E_m1 := E_m1.keep KXy
  have E_y := E_y.keep KXy
  have E_k4 := E_k4.keep KXy
  have E_k5 := E_k5.keep KXy
  have A_a1 := A_a1.keep KXy (ninS ne_a1_y nin0)
  have A_a2 := A_a2.keep KXy (ninS ne_a2_y nin0)
  have A_yk1 := A_yk1.keep KXy (ninS ne_yk1_y nin0)
  have A_yk2 := A_yk2.keep KXy (ninS ne_yk2_y nin0)
  have A_yk3 := A_yk3.keep KXy (ninS ne_yk3_y nin0)
  have A_d1 := A_d1.keep KXy (ninS ne_d1_y nin0)
  have A_yk4 := A_yk4.keep KXy (ninS ne_yk4_y nin0)
  have A_yk5 := A_yk5.keep KXy (ninS ne_yk5_y nin0)
  have F_y_text := Fy_text
  have F_y_firstLine := Fy_firstLine
  have F_y_source := Fy_source
  have F_y_endOfText := Fy_endOfText
  have F_y_pos := Fy_pos
  have F_y_nesting := Fy_nesting
  show NS G K own_EL U room_1 Q h166_17 48 3183 169 #[.val (.int p0), .val (.int p1), .val (.int p2), .val (.int p3), .val (.int p4), .val (.int p5), .val (.int n), .val (.ref t1), .val (.ref t2), .val (.int k), .val (.int o), .val (.ref x), .val (.int (1 : Int32)), .val (.ref m1), .unset, .unset, .unset, .unset, .unset] [(.ref y)]
  refine N.astore C (pc' := 171) (ls' := #[.val (.int p0), .val (.int p1), .val (.int p2), .val (.int p3), .val (.int p4), .val (.int p5), .val (.int n), .val (.ref t1), .val (.ref t2), .val (.int k), .val (.int o), .val (.ref x), .val (.int (1 : Int32)), .val (.ref m1), .val (.ref y), .unset, .unset, .unset, .unset]) at_169 rfl rfl rfl ?_
  refine N.aload C (pc' := 173) at_171 rfl rfl rfl ?_
  refine N.aload C (pc' := 175) at_173 rfl rfl rfl ?_
  refine N.iload C (pc' := 177) at_175 rfl rfl ?_
  refine N.callV C (pc' := 180) y [(.ref t1), (.int o)] at_177 (C.w (i := 55) rfl) (C.w (i := 56) rfl) (C.w (i := 58) rfl) (C.w (i := 57) rfl) (C.w (i := 39) rfl) (C.w (i := 59) rfl) (by decide) E_y (con9 G hw y t1 o (.ref cy) (.int (1 : Int32)) (.int (0 : Int32)) (.int (0 : Int32)) (.ref k4) h166_17 Z0 g_y E_y F_y_text F_y_firstLine F_y_pos F_y_nesting F_y_source) (lenOf pd__Ljava_lang_String_I_V rfl) rfl (by decide) (show 0 + (3 + 11) + _ ≤ _ from by decide) (by decide) (by decide) (rest := []) rfl rfl ?_
  rintro _ h177_18 ⟨rfl, KR3, F3_text, F3_firstLine, F3_pos, F3_nesting, S3⟩
  have Sx := Sx.keep KR3 (allS (List.mem_of_getElem? (i := 0) rfl) all0)
  have O := O.keep KR3 (allS g_y all0)
  have Z0 := Nat.le_trans Z0 KR3.1
  have F_t1_value := F_t1_value.keep KR3 (ninS ne_t1_y nin0)
  have F_t1_coder := F_t1_coder.keep KR3 (ninS ne_t1_y nin0)
  have F_t2_value := F_t2_value.keep KR3 (ninS ne_t2_y nin0)
  have F_t2_coder := F_t2_coder.keep KR3 (ninS ne_t2_y nin0)
  have F_k1_coder := F_k1_coder.keep KR3 (ninS ne_k1_y nin0)
  have F_k1_value := F_k1_value.keep KR3 (ninS ne_k1_y nin0)
  have F_k2_coder := F_k2_coder.keep KR3 (ninS ne_k2_y nin0)
  have F_k2_value := F_k2_value.keep KR3 (ninS ne_k2_y nin0)
  have F_x_text := F_x_text.keep KR3 (ninS ne_x_y nin0)
  have F_x_firstLine := F_x_firstLine.keep KR3 (ninS ne_x_y nin0)
  have F_x_pos := F_x_pos.keep KR3 (ninS ne_x_y nin0)
  have F_x_nesting := F_x_nesting.keep KR3 (ninS ne_x_y nin0)
  have F_x_source := F_x_source.keep KR3 (ninS ne_x_y nin0)
  have F_k3_coder := F_k3_coder.keep KR3 (ninS ne_k3_y nin0)
  have F_k3_value := F_k3_value.keep KR3 (ninS ne_k3_y nin0)
  have F_m1_value := F_m1_value.keep KR3 (ninS ne_m1_y nin0)
  have F_m1_coder := F_m1_coder.keep KR3 (ninS ne_m1_y nin0)
  have F_k4_coder := F_k4_coder.keep KR3 (ninS ne_k4_y nin0)
  have F_k4_value := F_k4_value.keep KR3 (ninS ne_k4_y nin0)
  have F_k5_coder := F_k5_coder.keep KR3 (ninS ne_k5_y nin0)
  have F_k5_value := F_k5_value.keep KR3 (ninS ne_k5_y nin0)
  have E_t1 := E_t1.keep KR3
  have E_t2 := E_t2.keep KR3
  have E_x := E_x.keep KR3
  have E_k1 := E_k1.keep KR3
  have E_k2 := E_k2.keep KR3
  have E_k3 := E_k3.keep KR3
  have E_m1 := E_m1.keep KR3
  have E_y := E_y.keep KR3
  have E_k4 := E_k4.keep KR3
  have E_k5 := E_k5.keep KR3
  have A_a1 := A_a1.keep KR3 (ninS ne_a1_y nin0)
  have A_a2 := A_a2.keep KR3 (ninS ne_a2_y nin0)
  have A_yk1 := A_yk1.keep KR3 (ninS ne_yk1_y nin0)
  have A_yk2 := A_yk2.keep KR3 (ninS ne_yk2_y nin0)
  have A_yk3 := A_yk3.keep KR3 (ninS ne_yk3_y nin0)
  have A_d1 := A_d1.keep KR3 (ninS ne_d1_y nin0)
  have A_yk4 := A_yk4.keep KR3 (ninS ne_yk4_y nin0)
  have A_yk5 := A_yk5.keep KR3 (ninS ne_yk5_y nin0)
  have F_y_text := F3_text
  have F_y_firstLine := F3_firstLine
  have F_y_pos := F3_pos
  have F_y_nesting := F3_nesting
  have F_y_source := S3
  show NS G K own_EL U room_1 Q h177_18 48 3183 180 #[.val (.int p0), .val (.int p1), .val (.int p2), .val (.int p3), .val (.int p4), .val (.int p5), .val (.int n), .val (.ref t1), .val (.ref t2), .val (.int k), .val (.int o), .val (.ref x), .val (.int (1 : Int32)), .val (.ref m1), .val (.ref y), .unset, .unset, .unset, .unset] []
  refine N.aload C (pc' := 182) at_180 rfl rfl rfl ?_
  refine N.iconst C (pc' := 183) (z := 0) at_182 rfl rfl ?_
  refine N.ldcS C Sx (vs := [.int 112]) 4 at_183 (C.w (i := 74) rfl) (own_SA hw) (by decide) ⟨by decide, rfl⟩ (z := 1) (by decide) (by decide) (by decide) (by decide) (by decide) (by decide) rfl (fun K h183_19 k6 yk6 C Sx Ex183 E_k6 F_k6_coder F_k6_value A_yk6 ne_k6 => ?_)
  have Z0 := Nat.le_trans Z0 Ex183.1
  have O := O.ext Ex183
  have F_t1_value := F_t1_value.ext Ex183
  have F_t1_coder := F_t1_coder.ext Ex183
  have F_t2_value := F_t2_value.ext Ex183
  have F_t2_coder := F_t2_coder.ext Ex183
  have F_k1_coder := F_k1_coder.ext Ex183
  have F_k1_value := F_k1_value.ext Ex183
  have F_k2_coder := F_k2_coder.ext Ex183
  have F_k2_value := F_k2_value.ext Ex183
  have F_x_text := F_x_text.ext Ex183
  have F_x_firstLine := F_x_firstLine.ext Ex183
  have F_x_pos := F_x_pos.ext Ex183
  have F_x_nesting := F_x_nesting.ext Ex183
  have F_x_source := F_x_source.ext Ex183
  have F_k3_coder := F_k3_coder.ext Ex183
  have F_k3_value := F_k3_value.ext Ex183
  have F_m1_value := F_m1_value.ext Ex183
  have F_m1_coder := F_m1_coder.ext Ex183
  have F_k4_coder := F_k4_coder.ext Ex183
  have F_k4_value := F_k4_value.ext Ex183
  have F_k5_coder := F_k5_coder.ext Ex183
  have F_k5_value := F_k5_value.ext Ex183
  have F_y_text := F_y_text.ext Ex183
  have F_y_firstLine := F_y_firstLine.ext Ex183
  have F_y_pos := F_y_pos.ext Ex183
  have F_y_nesting := F_y_nesting.ext Ex183
  have F_y_source := F_y_source.ext Ex183
  have E_t1 := E_t1.ext Ex183
  have E_t2 := E_t2.ext Ex183
  have E_x := E_x.ext Ex183
  have E_k1 := E_k1.ext Ex183
  have E_k2 := E_k2.ext Ex183
  have E_k3 := E_k3.ext Ex183
  have E_m1 := E_m1.ext Ex183
  have E_y := E_y.ext Ex183
  have E_k4 := E_k4.ext Ex183
  have E_k5 := E_k5.ext Ex183
  have A_a1 := A_a1.ext Ex183
  have A_a2 := A_a2.ext Ex183
  have A_yk1 := A_yk1.ext Ex183
  have A_yk2 := A_yk2.ext Ex183
  have A_yk3 := A_yk3.ext Ex183
  have A_d1 := A_d1.ext Ex183
  have A_yk4 := A_yk4.ext Ex183
  have A_yk5 := A_yk5.ext Ex183
  have ne_y_k6 := (ne_k6 y (List.mem_of_getElem? (i := 0) rfl)).1
  have ne_y_yk6 := (ne_k6 y (List.mem_of_getElem? (i := 0) rfl)).2
  have ne_k6_y := Ne.symm ne_y_k6
  have ne_yk6_y := Ne.symm ne_y_yk6
  have ne_x_k6 := (ne_k6 x (List.mem_of_getElem? (i := 1) rfl)).1
  have ne_x_yk6 := (ne_k6 x (List.mem_of_getElem? (i := 1) rfl)).2
  have ne_k6_x := Ne.symm ne_x_k6
  have ne_yk6_x := Ne.symm ne_x_yk6
  show NS G K own_EL U room_1 Q h183_19 50 3191 185 #[.val (.int p0), .val (.int p1), .val (.int p2), .val (.int p3), .val (.int p4), .val (.int p5), .val (.int n), .val (.ref t1), .val (.ref t2), .val (.int k), .val (.int o), .val (.ref x), .val (.int (1 : Int32)), .val (.ref m1), .val (.ref y), .unset, .unset, .unset, .unset] [(.ref k6), (.int (0 : Int32)), (.ref y)]
  refine N.callVS C Sx (pc' := 188) y [(.int (0 : Int32)), (.ref k6)] at_185 (C.w (i := 75) rfl) (C.w (i := 76) rfl) (C.w (i := 78) rfl) (C.w (i := 77) rfl) (C.w (i := 39) rfl) (C.w (i := 79) rfl) (by decide) E_y all0 (con12 G hw y k4 yk4 k6 yk6 o cp dO dT us sn h183_19 SS O Z0 E_y F_y_firstLine F_y_source E_k4 F_k4_coder F_k4_value A_yk4 E_k6 F_k6_coder F_k6_value A_yk6) (lenOf pd__ILjava_lang_String__Lquadrille_SyntaxException_ rfl) rfl (by decide) (show 0 + (5 + 11) + _ ≤ _ from by decide) (by decide) (by decide) (rest := []) rfl rfl ?_
  rintro K _ h185_20 C Sx ⟨e2, m2, d2, rfl, hze2, hzm2, KE2, E_e2, F_e2_detailMessage, TM2⟩
  have O := O.keep KE2 all0
  have Z0 := Nat.le_trans Z0 KE2.1
  have F_t1_value := F_t1_value.keep KE2 nin0
  have F_t1_coder := F_t1_coder.keep KE2 nin0
  have F_t2_value := F_t2_value.keep KE2 nin0
  have F_t2_coder := F_t2_coder.keep KE2 nin0
  have F_k1_coder := F_k1_coder.keep KE2 nin0
  have F_k1_value := F_k1_value.keep KE2 nin0
  have F_k2_coder := F_k2_coder.keep KE2 nin0
  have F_k2_value := F_k2_value.keep KE2 nin0
  have F_x_text := F_x_text.keep KE2 nin0
  have F_x_firstLine := F_x_firstLine.keep KE2 nin0
  have F_x_pos := F_x_pos.keep KE2 nin0
  have F_x_nesting := F_x_nesting.keep KE2 nin0
  have F_x_source := F_x_source.keep KE2 nin0
  have F_k3_coder := F_k3_coder.keep KE2 nin0
  have F_k3_value := F_k3_value.keep KE2 nin0
  have F_m1_value := F_m1_value.keep KE2 nin0
  have F_m1_coder := F_m1_coder.keep KE2 nin0
  have F_k4_coder := F_k4_coder.keep KE2 nin0
  have F_k4_value := F_k4_value.keep KE2 nin0
  have F_k5_coder := F_k5_coder.keep KE2 nin0
  have F_k5_value := F_k5_value.keep KE2 nin0
  have F_y_text := F_y_text.keep KE2 nin0
  have F_y_firstLine := F_y_firstLine.keep KE2 nin0
  have F_y_pos := F_y_pos.keep KE2 nin0
  have F_y_nesting := F_y_nesting.keep KE2 nin0
  have F_y_source := F_y_source.keep KE2 nin0
  have F_k6_coder := F_k6_coder.keep KE2 nin0
  have F_k6_value := F_k6_value.keep KE2 nin0
  have E_t1 := E_t1.keep KE2
  have E_t2 := E_t2.keep KE2
  have E_x := E_x.keep KE2
  have E_k1 := E_k1.keep KE2
  have E_k2 := E_k2.keep KE2
  have E_k3 := E_k3.keep KE2
  have E_m1 := E_m1.keep KE2
  have E_y := E_y.keep KE2
  have E_k4 := E_k4.keep KE2
  have E_k5 := E_k5.keep KE2
  have E_k6 := E_k6.keep KE2
  have A_a1 := A_a1.keep KE2 nin0
  have A_a2 := A_a2.keep KE2 nin0
  have A_yk1 := A_yk1.keep KE2 nin0
  have A_yk2 := A_yk2.keep KE2 nin0
  have A_yk3 := A_yk3.keep KE2 nin0
  have A_d1 := A_d1.keep KE2 nin0
  have A_yk4 := A_yk4.keep KE2 nin0
  have A_yk5 := A_yk5.keep KE2 nin0
  have A_yk6 := A_yk6.keep KE2 nin0
  have E_m2 := TM2.1
  have F_m2_coder := TM2.2.1
  have F_m2_value := TM2.2.2.1
  have A_d2 := TM2.2.2.2
  show NS G K own_EL U room_1 Q h185_20 70 6276 188 #[.val (.int p0), .val (.int p1), .val (.int p2), .val (.int p3), .val (.int p4), .val (.int p5), .val (.int n), .val (.ref t1), .val (.ref t2), .val (.int k), .val (.int o), .val (.ref x), .val (.int (1 : Int32)), .val (.ref m1), .val (.ref y), .unset, .unset, .unset, .unset] [(.ref e2)]
  refine N.callUp C (pc' := 191) e2 [] at_188 (C.w (i := 285) rfl) (C.w (i := 286) rfl) (C.w (i := 287) rfl) (by decide) (C.w (i := 289) rfl) (C.w (i := 288) rfl) (C.w (i := 246) rfl) (C.w (i := 290) rfl) E_e2 (con46 G hw e2 m2 h185_20 F_e2_detailMessage) (lenOf pd___Ljava_lang_String_ rfl) rfl (by decide) (show 0 + (1 + 11) + _ ≤ _ from by decide) (by decide) (by decide) (rest := []) rfl rfl ?_
  rintro _ h188_21 ⟨rfl, rfl⟩
  show NS G K own_EL U room_1 Q h185_20 70 6276 191 #[.val (.int p0), .val (.int p1), .val (.int p2), .val (.int p3), .val (.int p4), .val (.int p5), .val (.int n), .val (.ref t1), .val (.ref t2), .val (.int k), .val (.int o), .val (.ref x), .val (.int (1 : Int32)), .val (.ref m1), .val (.ref y), .unset, .unset, .unset, .unset] [(.ref m2)]
  refine N.astore C (pc' := 193) (ls' := #[.val (.int p0), .val (.int p1), .val (.int p2), .val (.int p3), .val (.int p4), .val (.int p5), .val (.int n), .val (.ref t1), .val (.ref t2), .val (.int k), .val (.int o), .val (.ref x), .val (.int (1 : Int32)), .val (.ref m1), .val (.ref y), .val (.ref m2), .unset, .unset, .unset]) at_191 rfl rfl rfl ?_
  refine N.aload C (pc' := 195) at_193 rfl rfl rfl ?_
  refine N.aload C (pc' := 197) at_195 rfl rfl rfl ?_
  refine N.callV C (pc' := 200) m1 [(.ref m2)] at_197 (C.w (i := 291) rfl) (C.w (i := 292) rfl) (C.w (i := 294) rfl) (C.w (i := 293) rfl) (C.w (i := 6) rfl) (C.w (i := 295) rfl) (by decide) E_m1 (conE G hw m1 m2 d1 d2 (own_msg p3) (own_msg o) cp dO dT us sn h185_20 (own_msgL _) (own_msgL _) SS O E_m1 F_m1_coder F_m1_value A_d1 E_m2 F_m2_coder F_m2_value A_d2) (lenOf pd__Ljava_lang_Object__Z rfl) rfl (by decide) (show 0 + (3 + 11) + _ ≤ _ from by decide) (by decide) (by decide) (rest := []) rfl rfl ?_
  rintro _ h197_22 ⟨r, rfl, rfl, hr⟩
  show NS G K own_EL U room_1 Q h185_20 70 6276 200 #[.val (.int p0), .val (.int p1), .val (.int p2), .val (.int p3), .val (.int p4), .val (.int p5), .val (.int n), .val (.ref t1), .val (.ref t2), .val (.int k), .val (.int o), .val (.ref x), .val (.int (1 : Int32)), .val (.ref m1), .val (.ref y), .val (.ref m2), .unset, .unset, .unset] [(.int r)]
  suffices J2 : NS G K own_EL U room_1 Q h185_20 70 6276 221 #[.val (.int p0), .val (.int p1), .val (.int p2), .val (.int p3), .val (.int p4), .val (.int p5), .val (.int n), .val (.ref t1), .val (.ref t2), .val (.int k), .val (.int o), .val (.ref x), .val (.int (1 : Int32)), .val (.ref m1), .val (.ref y), .val (.ref m2), .val (.int (1 : Int32)), .unset, .unset] [] by
    refine N.iloadN C (pc' := 201) at_200 rfl rfl ?_
    refine N.iload C (pc' := 203) at_201 rfl rfl ?_
    refine N.icmp C (pt := 210) (pf := 206) at_203 rfl rfl (fun (hc203 : ¬ p3 = o) => ?_) (fun (hc203 : p3 = o) => ?_)
    · have hi203 : ¬ p3.toInt = o.toInt := neI hc203
      refine N.iconst C (pc' := 211) (z := 0) at_210 rfl rfl ?_
      refine N.icmp C (pt := 218) (pf := 214) at_211 rfl rfl (fun (hc211 : ¬ r = (0 : Int32)) => absurd (show False from by exact hc211 (hr.elim (fun q => absurd (own_msgInj q.1) hc203) (fun q => q.2))) id) (fun (hc211 : r = (0 : Int32)) => ?_)
      refine N.iconst C (pc' := 215) (z := 1) at_214 rfl rfl ?_
      refine N.goto C (pc' := 219) at_215 rfl ?_
      refine N.istore C (pc' := 221) (ls' := #[.val (.int p0), .val (.int p1), .val (.int p2), .val (.int p3), .val (.int p4), .val (.int p5), .val (.int n), .val (.ref t1), .val (.ref t2), .val (.int k), .val (.int o), .val (.ref x), .val (.int (1 : Int32)), .val (.ref m1), .val (.ref y), .val (.ref m2), .val (.int (1 : Int32)), .unset, .unset]) at_219 rfl rfl ?_
      exact J2
    · have hi203 : p3.toInt = o.toInt := eqI hc203
      refine N.iconst C (pc' := 207) (z := 1) at_206 rfl rfl ?_
      refine N.goto C (pc' := 211) at_207 rfl ?_
      refine N.icmp C (pt := 218) (pf := 214) at_211 rfl rfl (fun (hc211 : ¬ r = (1 : Int32)) => absurd (show False from by exact hc211 (hr.elim (fun q => q.2) (fun q => absurd (congrArg own_msg hc203) q.1))) id) (fun (hc211 : r = (1 : Int32)) => ?_)
      refine N.iconst C (pc' := 215) (z := 1) at_214 rfl rfl ?_
      refine N.goto C (pc' := 219) at_215 rfl ?_
      refine N.istore C (pc' := 221) (ls' := #[.val (.int p0), .val (.int p1), .val (.int p2), .val (.int p3), .val (.int p4), .val (.int p5), .val (.int n), .val (.ref t1), .val (.ref t2), .val (.int k), .val (.int o), .val (.ref x), .val (.int (1 : Int32)), .val (.ref m1), .val (.ref y), .val (.ref m2), .val (.int (1 : Int32)), .unset, .unset]) at_219 rfl rfl ?_
      exact J2
  refine N.iload C (pc' := 223) at_221 rfl rfl ?_
  refine N.bipush C (pc' := 225) (z := 7) at_223 rfl rfl ?_
  refine N.icmp C (pt := 238) (pf := 228) at_225 rfl rfl (fun (hc225 : ¬ o = (7 : Int32)) => ?_) (fun (hc225 : o = (7 : Int32)) => ?_)
  · have hi225 : ¬ o.toInt = 7 := neI hc225
    refine N.iconst C (pc' := 239) (z := 1) at_238 rfl rfl ?_
    refine N.goto C (pc' := 243) at_239 rfl ?_
    refine N.istore C (pc' := 245) (ls' := #[.val (.int p0), .val (.int p1), .val (.int p2), .val (.int p3), .val (.int p4), .val (.int p5), .val (.int n), .val (.ref t1), .val (.ref t2), .val (.int k), .val (.int o), .val (.ref x), .val (.int (1 : Int32)), .val (.ref m1), .val (.ref y), .val (.ref m2), .val (.int (1 : Int32)), .val (.int (1 : Int32)), .unset]) at_243 rfl rfl ?_
    refine N.aload C (pc' := 247) at_245 rfl rfl rfl ?_
    refine N.aload C (pc' := 249) at_247 rfl rfl rfl ?_
    refine N.callV C (pc' := 252) x [(.ref t1)] at_249 (C.w (i := 301) rfl) (C.w (i := 302) rfl) (C.w (i := 304) rfl) (C.w (i := 303) rfl) (C.w (i := 39) rfl) (C.w (i := 305) rfl) (by decide) E_x (con49 G hw x t1 a1 zs1 cp dO dT us sn h185_20 hz1 SS O Z0 g_x ne_t1_x ne_a1_x E_x F_x_text F_x_pos E_t1 F_t1_coder F_t1_value A_a1) (lenOf pd__Ljava_lang_String__Z rfl) rfl (by decide) (show 0 + (2 + 11) + _ ≤ _ from by decide) (by decide) (by decide) (rest := []) rfl rfl ?_
    rintro _ h249_23 ⟨rfl, KCX, pe, FT, FP, hpe⟩
    have Sx := Sx.keep KCX (allS (List.mem_of_getElem? (i := 1) rfl) all0)
    have O := O.keep KCX (allS g_x all0)
    have Z0 := Nat.le_trans Z0 KCX.1
    have F_t1_value := F_t1_value.keep KCX (ninS ne_t1_x nin0)
    have F_t1_coder := F_t1_coder.keep KCX (ninS ne_t1_x nin0)
    have F_t2_value := F_t2_value.keep KCX (ninS ne_t2_x nin0)
    have F_t2_coder := F_t2_coder.keep KCX (ninS ne_t2_x nin0)
    have F_k1_coder := F_k1_coder.keep KCX (ninS ne_k1_x nin0)
    have F_k1_value := F_k1_value.keep KCX (ninS ne_k1_x nin0)
    have F_k2_coder := F_k2_coder.keep KCX (ninS ne_k2_x nin0)
    have F_k2_value := F_k2_value.keep KCX (ninS ne_k2_x nin0)
    have F_k3_coder := F_k3_coder.keep KCX (ninS ne_k3_x nin0)
    have F_k3_value := F_k3_value.keep KCX (ninS ne_k3_x nin0)
    have F_k4_coder := F_k4_coder.keep KCX (ninS ne_k4_x nin0)
    have F_k4_value := F_k4_value.keep KCX (ninS ne_k4_x nin0)
    have F_k5_coder := F_k5_coder.keep KCX (ninS ne_k5_x nin0)
    have F_k5_value := F_k5_value.keep KCX (ninS ne_k5_x nin0)
    have F_y_text := F_y_text.keep KCX (ninS ne_y_x nin0)
    have F_y_firstLine := F_y_firstLine.keep KCX (ninS ne_y_x nin0)
    have F_y_pos := F_y_pos.keep KCX (ninS ne_y_x nin0)
    have F_y_nesting := F_y_nesting.keep KCX (ninS ne_y_x nin0)
    have F_y_source := F_y_source.keep KCX (ninS ne_y_x nin0)
    have F_k6_coder := F_k6_coder.keep KCX (ninS ne_k6_x nin0)
    have F_k6_value := F_k6_value.keep KCX (ninS ne_k6_x nin0)
    have E_t1 := E_t1.keep KCX
    have E_t2 := E_t2.keep KCX
    have E_x := E_x.keep KCX
    have E_k1 := E_k1.keep KCX
    have E_k2 := E_k2.keep KCX
    have E_k3 := E_k3.keep KCX
    have E_y := E_y.keep KCX
    have E_k4 := E_k4.keep KCX
    have E_k5 := E_k5.keep KCX
    have E_k6 := E_k6.keep KCX
    have A_a1 := A_a1.keep KCX (ninS ne_a1_x nin0)
    have A_a2 := A_a2.keep KCX (ninS ne_a2_x nin0)
    have A_yk1 := A_yk1.keep KCX (ninS ne_yk1_x nin0)
    have A_yk2 := A_yk2.keep KCX (ninS ne_yk2_x nin0)
    have A_yk3 := A_yk3.keep KCX (ninS ne_yk3_x nin0)
    have A_yk4 := A_yk4.keep KCX (ninS ne_yk4_x nin0)
    have A_yk5 := A_yk5.keep KCX (ninS ne_yk5_x nin0)
    have A_yk6 := A_yk6.keep KCX (ninS ne_yk6_x nin0)
    have F_x_text := FT
    have F_x_pos := FP
    show NS G K own_EL U room_1 Q h249_23 70 6276 252 #[.val (.int p0), .val (.int p1), .val (.int p2), .val (.int p3), .val (.int p4), .val (.int p5), .val (.int n), .val (.ref t1), .val (.ref t2), .val (.int k), .val (.int o), .val (.ref x), .val (.int (1 : Int32)), .val (.ref m1), .val (.ref y), .val (.ref m2), .val (.int (1 : Int32)), .val (.int (1 : Int32)), .unset] [(.int (1 : Int32))]
    refine N.ifc C (pt := 267) (pf := 255) at_252 rfl rfl (fun (q : (1 : Int32) = (0 : Int32)) => absurd q (by decide)) (fun _ => ?_)
    refine N.aload C (pc' := 257) at_255 rfl rfl rfl ?_
    refine N.callV C (pc' := 260) x [] at_257 (C.w (i := 317) rfl) (C.w (i := 318) rfl) (C.w (i := 320) rfl) (C.w (i := 319) rfl) (C.w (i := 39) rfl) (C.w (i := 321) rfl) (by decide) E_x (con52 G hw x t1 a1 pe zs1 cp dO dT us sn h249_23 hz1 hpe SS O F_x_text F_x_pos E_t1 F_t1_coder F_t1_value A_a1) (lenOf pd___Z rfl) rfl (by decide) (show 0 + (1 + 11) + _ ≤ _ from by decide) (by decide) (by decide) (rest := []) rfl rfl ?_
    rintro _ h257_24 ⟨rfl, rfl⟩
    show NS G K own_EL U room_1 Q h249_23 70 6276 260 #[.val (.int p0), .val (.int p1), .val (.int p2), .val (.int p3), .val (.int p4), .val (.int p5), .val (.int n), .val (.ref t1), .val (.ref t2), .val (.int k), .val (.int o), .val (.ref x), .val (.int (1 : Int32)), .val (.ref m1), .val (.ref y), .val (.ref m2), .val (.int (1 : Int32)), .val (.int (1 : Int32)), .unset] [(.int (1 : Int32))]
    refine N.ifc C (pt := 267) (pf := 263) at_260 rfl rfl (fun (q : (1 : Int32) = (0 : Int32)) => absurd q (by decide)) (fun _ => ?_)
    refine N.iconst C (pc' := 264) (z := 1) at_263 rfl rfl ?_
    refine N.goto C (pc' := 268) at_264 rfl ?_
    refine N.istore C (pc' := 270) (ls' := #[.val (.int p0), .val (.int p1), .val (.int p2), .val (.int p3), .val (.int p4), .val (.int p5), .val (.int n), .val (.ref t1), .val (.ref t2), .val (.int k), .val (.int o), .val (.ref x), .val (.int (1 : Int32)), .val (.ref m1), .val (.ref y), .val (.ref m2), .val (.int (1 : Int32)), .val (.int (1 : Int32)), .val (.int (1 : Int32))]) at_268 rfl rfl ?_
    refine N.iload C (pc' := 272) at_270 rfl rfl ?_
    refine N.ifc C (pt := 294) (pf := 275) at_272 rfl rfl (fun (q : (1 : Int32) = (0 : Int32)) => absurd q (by decide)) (fun _ => ?_)
    refine N.iload C (pc' := 277) at_275 rfl rfl ?_
    refine N.ifc C (pt := 294) (pf := 280) at_277 rfl rfl (fun (q : (1 : Int32) = (0 : Int32)) => absurd q (by decide)) (fun _ => ?_)
    refine N.iload C (pc' := 282) at_280 rfl rfl ?_
    refine N.ifc C (pt := 294) (pf := 285) at_282 rfl rfl (fun (q : (1 : Int32) = (0 : Int32)) => absurd q (by decide)) (fun _ => ?_)
    refine N.iload C (pc' := 287) at_285 rfl rfl ?_
    refine N.ifc C (pt := 294) (pf := 290) at_287 rfl rfl (fun (q : (1 : Int32) = (0 : Int32)) => absurd q (by decide)) (fun _ => ?_)
    refine N.iconst C (pc' := 291) (z := 1) at_290 rfl rfl ?_
    refine N.goto C (pc' := 295) at_291 rfl ?_
    exact N.retNS C Sx (by simp) (z' := (1 : Int32)) rfl at_295 (by decide) (by decide) (by subst hQ; exact rfl)
  · have hi225 : o.toInt = 7 := eqI hc225
    refine N.aload C (pc' := 230) at_228 rfl rfl rfl ?_
    refine N.ldcS C Sx (vs := [.int 115, .int 58, .int 55, .int 58, .int 49, .int 58, .int 32, .int 112]) 32 at_230 (C.w (i := 323) rfl) (own_SA hw) (by decide) ⟨by decide, rfl⟩ (z := 8) (by decide) (by decide) (by decide) (by decide) (by decide) (by decide) rfl (fun K h230_25 k7 yk7 C Sx Ex230 E_k7 F_k7_coder F_k7_value A_yk7 ne_k7 => ?_)
    have Z0 := Nat.le_trans Z0 Ex230.1
    have O := O.ext Ex230
    have F_t1_value := F_t1_value.ext Ex230
    have F_t1_coder := F_t1_coder.ext Ex230
    have F_t2_value := F_t2_value.ext Ex230
    have F_t2_coder := F_t2_coder.ext Ex230
    have F_k1_coder := F_k1_coder.ext Ex230
    have F_k1_value := F_k1_value.ext Ex230
    have F_k2_coder := F_k2_coder.ext Ex230
    have F_k2_value := F_k2_value.ext Ex230
    have F_x_text := F_x_text.ext Ex230
    have F_x_firstLine := F_x_firstLine.ext Ex230
    have F_x_pos := F_x_pos.ext Ex230
    have F_x_nesting := F_x_nesting.ext Ex230
    have F_x_source := F_x_source.ext Ex230
    have F_k3_coder := F_k3_coder.ext Ex230
    have F_k3_value := F_k3_value.ext Ex230
    have F_m1_value := F_m1_value.ext Ex230
    have F_m1_coder := F_m1_coder.ext Ex230
    have F_k4_coder := F_k4_coder.ext Ex230
    have F_k4_value := F_k4_value.ext Ex230
    have F_k5_coder := F_k5_coder.ext Ex230
    have F_k5_value := F_k5_value.ext Ex230
    have F_y_text := F_y_text.ext Ex230
    have F_y_firstLine := F_y_firstLine.ext Ex230
    have F_y_pos := F_y_pos.ext Ex230
    have F_y_nesting := F_y_nesting.ext Ex230
    have F_y_source := F_y_source.ext Ex230
    have F_k6_coder := F_k6_coder.ext Ex230
    have F_k6_value := F_k6_value.ext Ex230
    have F_m2_value := F_m2_value.ext Ex230
    have F_m2_coder := F_m2_coder.ext Ex230
    have E_t1 := E_t1.ext Ex230
    have E_t2 := E_t2.ext Ex230
    have E_x := E_x.ext Ex230
    have E_k1 := E_k1.ext Ex230
    have E_k2 := E_k2.ext Ex230
    have E_k3 := E_k3.ext Ex230
    have E_m1 := E_m1.ext Ex230
    have E_y := E_y.ext Ex230
    have E_k4 := E_k4.ext Ex230
    have E_k5 := E_k5.ext Ex230
    have E_k6 := E_k6.ext Ex230
    have E_m2 := E_m2.ext Ex230
    have A_a1 := A_a1.ext Ex230
    have A_a2 := A_a2.ext Ex230
    have A_yk1 := A_yk1.ext Ex230
    have A_yk2 := A_yk2.ext Ex230
    have A_yk3 := A_yk3.ext Ex230
    have A_d1 := A_d1.ext Ex230
    have A_yk4 := A_yk4.ext Ex230
    have A_yk5 := A_yk5.ext Ex230
    have A_yk6 := A_yk6.ext Ex230
    have A_d2 := A_d2.ext Ex230
    have ne_y_k7 := (ne_k7 y (List.mem_of_getElem? (i := 0) rfl)).1
    have ne_y_yk7 := (ne_k7 y (List.mem_of_getElem? (i := 0) rfl)).2
    have ne_k7_y := Ne.symm ne_y_k7
    have ne_yk7_y := Ne.symm ne_y_yk7
    have ne_x_k7 := (ne_k7 x (List.mem_of_getElem? (i := 1) rfl)).1
    have ne_x_yk7 := (ne_k7 x (List.mem_of_getElem? (i := 1) rfl)).2
    have ne_k7_x := Ne.symm ne_x_k7
    have ne_yk7_x := Ne.symm ne_x_yk7
    show NS G K own_EL U room_1 Q h230_25 72 6312 232 #[.val (.int p0), .val (.int p1), .val (.int p2), .val (.int p3), .val (.int p4), .val (.int p5), .val (.int n), .val (.ref t1), .val (.ref t2), .val (.int k), .val (.int o), .val (.ref x), .val (.int (1 : Int32)), .val (.ref m1), .val (.ref y), .val (.ref m2), .val (.int (1 : Int32)), .unset, .unset] [(.ref k7), (.ref m2)]
    refine N.callV C (pc' := 235) m2 [(.ref k7)] at_232 (C.w (i := 291) rfl) (C.w (i := 292) rfl) (C.w (i := 294) rfl) (C.w (i := 293) rfl) (C.w (i := 6) rfl) (C.w (i := 295) rfl) (by decide) E_m2 (conE G hw m2 k7 d2 yk7 (own_msg o) [115, 58, 55, 58, 49, 58, 32, 112] cp dO dT us sn h230_25 (own_msgL _) (by decide) SS O E_m2 F_m2_coder F_m2_value A_d2 E_k7 F_k7_coder F_k7_value A_yk7) (lenOf pd__Ljava_lang_Object__Z rfl) rfl (by decide) (show 0 + (3 + 11) + _ ≤ _ from by decide) (by decide) (by decide) (rest := []) rfl rfl ?_
    rintro _ h232_26 ⟨r2, rfl, rfl, hr2⟩
    show NS G K own_EL U room_1 Q h230_25 72 6312 235 #[.val (.int p0), .val (.int p1), .val (.int p2), .val (.int p3), .val (.int p4), .val (.int p5), .val (.int n), .val (.ref t1), .val (.ref t2), .val (.int k), .val (.int o), .val (.ref x), .val (.int (1 : Int32)), .val (.ref m1), .val (.ref y), .val (.ref m2), .val (.int (1 : Int32)), .unset, .unset] [(.int r2)]
    refine N.ifc C (pt := 242) (pf := 238) at_235 rfl rfl (fun (hc235 : r2 = (0 : Int32)) => absurd (show False from by exact absurd (hc235.symm.trans (hr2.elim (fun q => q.2) (fun q => absurd (by rw [hc225]; exact own_msg7) q.1))) (by decide)) id) (fun (hc235 : ¬ r2 = (0 : Int32)) => ?_)
    refine N.iconst C (pc' := 239) (z := 1) at_238 rfl rfl ?_
    refine N.goto C (pc' := 243) at_239 rfl ?_
    refine N.istore C (pc' := 245) (ls' := #[.val (.int p0), .val (.int p1), .val (.int p2), .val (.int p3), .val (.int p4), .val (.int p5), .val (.int n), .val (.ref t1), .val (.ref t2), .val (.int k), .val (.int o), .val (.ref x), .val (.int (1 : Int32)), .val (.ref m1), .val (.ref y), .val (.ref m2), .val (.int (1 : Int32)), .val (.int (1 : Int32)), .unset]) at_243 rfl rfl ?_
    refine N.aload C (pc' := 247) at_245 rfl rfl rfl ?_
    refine N.aload C (pc' := 249) at_247 rfl rfl rfl ?_
    refine N.callV C (pc' := 252) x [(.ref t1)] at_249 (C.w (i := 301) rfl) (C.w (i := 302) rfl) (C.w (i := 304) rfl) (C.w (i := 303) rfl) (C.w (i := 39) rfl) (C.w (i := 305) rfl) (by decide) E_x (con49 G hw x t1 a1 zs1 cp dO dT us sn h230_25 hz1 SS O Z0 g_x ne_t1_x ne_a1_x E_x F_x_text F_x_pos E_t1 F_t1_coder F_t1_value A_a1) (lenOf pd__Ljava_lang_String__Z rfl) rfl (by decide) (show 0 + (2 + 11) + _ ≤ _ from by decide) (by decide) (by decide) (rest := []) rfl rfl ?_
    rintro _ h249_27 ⟨rfl, KCX, pe, FT, FP, hpe⟩
    have Sx := Sx.keep KCX (allS (List.mem_of_getElem? (i := 1) rfl) all0)
    have O := O.keep KCX (allS g_x all0)
    have Z0 := Nat.le_trans Z0 KCX.1
    have F_t1_value := F_t1_value.keep KCX (ninS ne_t1_x nin0)
    have F_t1_coder := F_t1_coder.keep KCX (ninS ne_t1_x nin0)
    have F_t2_value := F_t2_value.keep KCX (ninS ne_t2_x nin0)
    have F_t2_coder := F_t2_coder.keep KCX (ninS ne_t2_x nin0)
    have F_k1_coder := F_k1_coder.keep KCX (ninS ne_k1_x nin0)
    have F_k1_value := F_k1_value.keep KCX (ninS ne_k1_x nin0)
    have F_k2_coder := F_k2_coder.keep KCX (ninS ne_k2_x nin0)
    have F_k2_value := F_k2_value.keep KCX (ninS ne_k2_x nin0)
    have F_k3_coder := F_k3_coder.keep KCX (ninS ne_k3_x nin0)
    have F_k3_value := F_k3_value.keep KCX (ninS ne_k3_x nin0)
    have F_k4_coder := F_k4_coder.keep KCX (ninS ne_k4_x nin0)
    have F_k4_value := F_k4_value.keep KCX (ninS ne_k4_x nin0)
    have F_k5_coder := F_k5_coder.keep KCX (ninS ne_k5_x nin0)
    have F_k5_value := F_k5_value.keep KCX (ninS ne_k5_x nin0)
    have F_y_text := F_y_text.keep KCX (ninS ne_y_x nin0)
    have F_y_firstLine := F_y_firstLine.keep KCX (ninS ne_y_x nin0)
    have F_y_pos := F_y_pos.keep KCX (ninS ne_y_x nin0)
    have F_y_nesting := F_y_nesting.keep KCX (ninS ne_y_x nin0)
    have F_y_source := F_y_source.keep KCX (ninS ne_y_x nin0)
    have F_k6_coder := F_k6_coder.keep KCX (ninS ne_k6_x nin0)
    have F_k6_value := F_k6_value.keep KCX (ninS ne_k6_x nin0)
    have E_t1 := E_t1.keep KCX
    have E_t2 := E_t2.keep KCX
    have E_x := E_x.keep KCX
    have E_k1 := E_k1.keep KCX
    have E_k2 := E_k2.keep KCX
    have E_k3 := E_k3.keep KCX
    have E_y := E_y.keep KCX
    have E_k4 := E_k4.keep KCX
    have E_k5 := E_k5.keep KCX
    have E_k6 := E_k6.keep KCX
    have A_a1 := A_a1.keep KCX (ninS ne_a1_x nin0)
    have A_a2 := A_a2.keep KCX (ninS ne_a2_x nin0)
    have A_yk1 := A_yk1.keep KCX (ninS ne_yk1_x nin0)
    have A_yk2 := A_yk2.keep KCX (ninS ne_yk2_x nin0)
    have A_yk3 := A_yk3.keep KCX (ninS ne_yk3_x nin0)
    have A_yk4 := A_yk4.keep KCX (ninS ne_yk4_x nin0)
    have A_yk5 := A_yk5.keep KCX (ninS ne_yk5_x nin0)
    have A_yk6 := A_yk6.keep KCX (ninS ne_yk6_x nin0)
    have F_x_text := FT
    have F_x_pos := FP
    show NS G K own_EL U room_1 Q h249_27 72 6312 252 #[.val (.int p0), .val (.int p1), .val (.int p2), .val (.int p3), .val (.int p4), .val (.int p5), .val (.int n), .val (.ref t1), .val (.ref t2), .val (.int k), .val (.int o), .val (.ref x), .val (.int (1 : Int32)), .val (.ref m1), .val (.ref y), .val (.ref m2), .val (.int (1 : Int32)), .val (.int (1 : Int32)), .unset] [(.int (1 : Int32))]
    refine N.ifc C (pt := 267) (pf := 255) at_252 rfl rfl (fun (q : (1 : Int32) = (0 : Int32)) => absurd q (by decide)) (fun _ => ?_)
    refine N.aload C (pc' := 257) at_255 rfl rfl rfl ?_
    refine N.callV C (pc' := 260) x [] at_257 (C.w (i := 317) rfl) (C.w (i := 318) rfl) (C.w (i := 320) rfl) (C.w (i := 319) rfl) (C.w (i := 39) rfl) (C.w (i := 321) rfl) (by decide) E_x (con52 G hw x t1 a1 pe zs1 cp dO dT us sn h249_27 hz1 hpe SS O F_x_text F_x_pos E_t1 F_t1_coder F_t1_value A_a1) (lenOf pd___Z rfl) rfl (by decide) (show 0 + (1 + 11) + _ ≤ _ from by decide) (by decide) (by decide) (rest := []) rfl rfl ?_
    rintro _ h257_28 ⟨rfl, rfl⟩
    show NS G K own_EL U room_1 Q h249_27 72 6312 260 #[.val (.int p0), .val (.int p1), .val (.int p2), .val (.int p3), .val (.int p4), .val (.int p5), .val (.int n), .val (.ref t1), .val (.ref t2), .val (.int k), .val (.int o), .val (.ref x), .val (.int (1 : Int32)), .val (.ref m1), .val (.ref y), .val (.ref m2), .val (.int (1 : Int32)), .val (.int (1 : Int32)), .unset] [(.int (1 : Int32))]
    refine N.ifc C (pt := 267) (pf := 263) at_260 rfl rfl (fun (q : (1 : Int32) = (0 : Int32)) => absurd q (by decide)) (fun _ => ?_)
    refine N.iconst C (pc' := 264) (z := 1) at_263 rfl rfl ?_
    refine N.goto C (pc' := 268) at_264 rfl ?_
    refine N.istore C (pc' := 270) (ls' := #[.val (.int p0), .val (.int p1), .val (.int p2), .val (.int p3), .val (.int p4), .val (.int p5), .val (.int n), .val (.ref t1), .val (.ref t2), .val (.int k), .val (.int o), .val (.ref x), .val (.int (1 : Int32)), .val (.ref m1), .val (.ref y), .val (.ref m2), .val (.int (1 : Int32)), .val (.int (1 : Int32)), .val (.int (1 : Int32))]) at_268 rfl rfl ?_
    refine N.iload C (pc' := 272) at_270 rfl rfl ?_
    refine N.ifc C (pt := 294) (pf := 275) at_272 rfl rfl (fun (q : (1 : Int32) = (0 : Int32)) => absurd q (by decide)) (fun _ => ?_)
    refine N.iload C (pc' := 277) at_275 rfl rfl ?_
    refine N.ifc C (pt := 294) (pf := 280) at_277 rfl rfl (fun (q : (1 : Int32) = (0 : Int32)) => absurd q (by decide)) (fun _ => ?_)
    refine N.iload C (pc' := 282) at_280 rfl rfl ?_
    refine N.ifc C (pt := 294) (pf := 285) at_282 rfl rfl (fun (q : (1 : Int32) = (0 : Int32)) => absurd q (by decide)) (fun _ => ?_)
    refine N.iload C (pc' := 287) at_285 rfl rfl ?_
    refine N.ifc C (pt := 294) (pf := 290) at_287 rfl rfl (fun (q : (1 : Int32) = (0 : Int32)) => absurd q (by decide)) (fun _ => ?_)
    refine N.iconst C (pc' := 291) (z := 1) at_290 rfl rfl ?_
    refine N.goto C (pc' := 295) at_291 rfl ?_
    exact N.retNS C Sx (by simp) (z' := (1 : Int32)) rfl at_295 (by decide) (by decide) (by subst hQ; exact rfl)
theorem own_cmpct {args : Array Value} {s : State} {t : Term} {x : Int32} (ev : t.eval args s none [] s = some (.int x)) (h : (Cond.not (Cond.eq t (Term.int 0))).value args s none s [] = some true) : ¬ x = 0 := fun q => by
  have e := Cond.eq_ints ev (Term.int_eval (args := args) (first := s) (o := none) (idx := []) (s := s) 0)
  rw [decide_eq_true q] at e
  simp [Cond.value, e] at h
  simp [Cond.value] at e
  simp_all
theorem own_arr {args : Array Value} {s : State} {t : Term} {a : Addr} {v : Value} (wa : (Cond.arrayClass .byte).before args s = true) (ev : t.eval args s none [] s = some (.ref a)) (hx : (Cond.exactly t "[B").value args s none s [] = some true) (hl : (Term.length t).eval args s none [] s = some v) : ∃ c, Arr s s.heap a c .byte ∧ s.arrayAt? a = some c := by
  obtain ⟨cell, k, h1, h2, h3, h4, -⟩ := Exa.start ev hx
  obtain ⟨c2, k2, comp, g1, g2, g3⟩ := Cond.arrayClass_spec wa
  cases h2.symm.trans g1
  cases h3.symm.trans g2
  have hs : ∀ q, cell.vm ≠ .statics q := fun q e => by rw [e] at h4; cases h4
  have hu : cell.vm ≠ .unknown := fun e => by
    simp [Term.eval, ev, State.arrayAt?, h1, h3, e] at hl
  have A : Arr s s.heap a cell .byte := ⟨h1, ⟨hs, k, h3, comp, g3⟩, hu⟩
  exact ⟨cell, A, A.fin (Vm.Alike.refl _)⟩
theorem own_szE {n : Nat} (h : n < 2 ^ 31) (e : n.toInt32 = 100) : n = 100 := by
  have h1 : n.toInt32.toInt = (n : Int) := Int32.toInt_ofNat_of_lt (by omega)
  rw [e] at h1
  have h2 : (100 : Int32).toInt = 100 := by decide
  omega
theorem own_lenE {args : Array Value} {s : State} {T : Term} {w : Addr} {c : Cell} (ev : T.eval args s none [] s = some (.ref w)) (hA : s.arrayAt? w = some c) (eL : (Term.length T).eval args s none [] s = some (.int 100)) : c.slots.size = 100 := by
  by_cases q : c.slots.size < 2 ^ 31
  · rw [len_f ev hA q] at eL
    exact own_szE q (Value.int.inj (Option.some.inj eL))
  · simp only [Term.eval, ev, hA] at eL
    simp at q
    simp [hA, Nat.not_lt.mpr q] at eL
theorem own_tO : ∀ n : Nat, n < 100 → ¬ n.toInt32 < 0 ∧ n.toInt32.toNatClampNeg = n ∧ (48 : Int32) + n.toInt32 % 10 = own_dv (n % 10) ∧ (48 : Int32) + n.toInt32 / 10 = own_dv (n / 10) := by decide
theorem own_dig {args : Array Value} {s : State} {T F : Term} {w : Addr} {c : Cell} {zs : List Int32} {f : Nat → Int32} (evT : ∀ idx, T.eval args s none idx s = some (.ref w)) (hA : s.arrayAt? w = some c) (hs : c.slots.size = 100) (hz : zs.length = 100) (hzf : ∀ n, n < 100 → zs[n]? = some (f n)) (hF : ∀ n, n < 100 → F.eval args s none [n] s = some (.int (f n))) (h : (Cond.all T (Cond.eq (Term.elem T (Term.index 0)) F)).value args s none s [] = some true) : c.slots.toList = zs.map .int := by
  apply List.ext_getElem?
  intro n
  by_cases q : n < 100
  · have e := Cond.all_elim (evT []) hA h n (by omega)
    have e2 := eqv_i (hF n q) e
    obtain ⟨a1, a2, -, -⟩ := own_tO n q
    rw [elem_f (evT _) (Term.index_eval n) hA a1, a2] at e2
    rw [Array.getElem?_toList, e2, List.getElem?_map, hzf n q]; rfl
  · rw [List.getElem?_eq_none (by simp; omega), List.getElem?_eq_none (by simp; omega)]
theorem own_start {l : Launch} {s : State} {args : Array Value} (hl : l.stackTraces = true) (hw : ∀ c ∈ tables_1, c.before args s = true) (hr : rest_1_c.before args s = true) : (∃ (cp : Int32) (dO dT us sn : Addr), Ss (l, s, args, s.heap.size) cp dO dT us sn) ∧ Jvm.Lit.compactW.before args s = true := by
  have hr := Cond.before_iff.mp hr
  unfold rest_1_c at hr
  obtain ⟨r0, hr⟩ := and_e hr
  obtain ⟨r1, hr⟩ := and_e hr
  obtain ⟨r2, hr⟩ := and_e hr
  obtain ⟨r3, hr⟩ := and_e hr
  obtain ⟨r4, hr⟩ := and_e hr
  obtain ⟨r5, hr⟩ := and_e hr
  obtain ⟨r6, hr⟩ := and_e hr
  obtain ⟨r7, hr⟩ := and_e hr
  obtain ⟨r8, hr⟩ := and_e hr
  obtain ⟨r9, hr⟩ := and_e hr
  obtain ⟨r10, hr⟩ := and_e hr
  obtain ⟨r11, hr⟩ := and_e hr
  obtain ⟨r12, hr⟩ := and_e hr
  obtain ⟨r13, hr⟩ := and_e hr
  obtain ⟨r14, hr⟩ := and_e hr
  obtain ⟨r15, hr⟩ := and_e hr
  obtain ⟨r16, hr⟩ := and_e hr
  obtain ⟨r17, hr⟩ := and_e hr
  obtain ⟨r18, hr⟩ := and_e hr
  obtain ⟨r19, hr⟩ := and_e hr
  obtain ⟨r20, hr⟩ := and_e hr
  obtain ⟨r21, hr⟩ := and_e hr
  obtain ⟨r22, hr⟩ := and_e hr
  obtain ⟨r23, hr⟩ := and_e hr
  obtain ⟨r24, hr⟩ := and_e hr
  obtain ⟨r25, hr⟩ := and_e hr
  obtain ⟨r26, hr⟩ := and_e hr
  obtain ⟨r27, hr⟩ := and_e hr
  obtain ⟨r28, hr⟩ := and_e hr
  obtain ⟨r29, hr⟩ := and_e hr
  obtain ⟨r30, hr⟩ := and_e hr
  obtain ⟨r31, hr⟩ := and_e hr
  obtain ⟨r32, hr⟩ := and_e hr
  obtain ⟨r33, hr⟩ := and_e hr
  have wa := hw _ (List.mem_of_getElem? (i := 19) rfl)
  obtain ⟨cp, ecp⟩ := is_v r1
  obtain ⟨dO, eO⟩ := exa_v r12
  obtain ⟨dT, eT⟩ := exa_v r17
  obtain ⟨us, eU⟩ := arr_v r28
  obtain ⟨sn, eS⟩ := exa_v r33
  have lO := eqv_i (Term.int_eval _) r13
  have lT := eqv_i (Term.int_eval _) r18
  obtain ⟨cO, AO, aO⟩ := own_arr wa eO r12 lO
  obtain ⟨cT, AT, aT⟩ := own_arr wa eT r17 lT
  have zO := own_lenE eO aO lO
  have zT := own_lenE eT aT lT
  have fO := own_dig (f := fun n => own_dv (n % 10)) (zs := own_ones) (fun _ => eO) aO zO (by decide) (fun n h => own_onesAt h) (fun n h => by have q := (own_tO n h).2.2.1; simp [Term.eval, q, irem_eq_mod]) r14
  have fT := own_dig (f := fun n => own_dv (n / 10)) (zs := own_tens) (fun _ => eT) aT zT (by decide) (fun n h => own_tensAt h) (fun n h => by have q := (own_tO n h).2.2.2; simp [Term.eval, q]) r19
  exact ⟨⟨cp, dO, dT, us, sn, Sta.start ecp (Or.inl (Cond.before_iff.mpr r0)), own_cmpct ecp r2, Sta.start eO (Or.inl (Cond.before_iff.mpr r11)), Sta.start eT (Or.inl (Cond.before_iff.mpr r16)), ⟨cO, AO, fO⟩, ⟨cT, AT, fT⟩, hl, Sta.start eU (Or.inl (Cond.before_iff.mpr r26)), Sta.start eS (Or.inl (Cond.before_iff.mpr r31))⟩, Cond.before_iff.mpr r2⟩
set_option maxRecDepth 65536 in
set_option maxHeartbeats 40000000 in
theorem comes_1 {Post : Tables → Env → Array Value → State → Outcome → State → Prop} (hpost : ∀ tb e args s v u, (limb_1_1.after args s (.returned v) u = true ∧ limb_1_2.after args s (.returned v) u = true ∧ True) → ReturnedEndW s (.returned v) u (Jvm.fieldLocs frame_1_writes args s ++ Jvm.arrayLocs frame_1_arrays args s ++ Jvm.staticLocs frame_1_statics s) 72 19712 → Post tb e args s (.returned v) u) :
    ArmFor flags0 classFile x code maxLocals ret World_1 tables_1 room_1 Calls_1 rest_1 Pre_1 Post := by
  intro l hfl _ _ p e ha hc hk s m args below hf hA hF happ hP
  obtain ⟨hcalls, hrest, hpre⟩ := hP
  obtain ⟨-, -, -, hnamed, -, -, -, hat⟩ := (Spec.applies_iff hf).mp happ
  obtain ⟨hg, hn⟩ := and_e (Cond.before_iff.mp (show (Jvm.Cond.and given_1 narrow_1).before args s = true from hpre))
  obtain ⟨hcount, hrow⟩ := and_e hg
  obtain ⟨ha0, hrow⟩ := and_e hrow
  obtain ⟨ha1, hrow⟩ := and_e hrow
  obtain ⟨ha2, hrow⟩ := and_e hrow
  obtain ⟨ha3, hrow⟩ := and_e hrow
  obtain ⟨ha4, hrow⟩ := and_e hrow
  have ha5 := hrow
  obtain ⟨w0, w1, w2, w3, w4, w5, rfl⟩ : ∃ w0 w1 w2 w3 w4 w5 : Value, args = #[w0, w1, w2, w3, w4, w5] := by
    have hs : args.size = 6 := by simpa [Cond.value, given_1] using hcount
    obtain ⟨L⟩ := args
    match L, hs with
    | [w0, w1, w2, w3, w4, w5], _ => exact ⟨w0, w1, w2, w3, w4, w5, rfl⟩
  have hw := fun d (hd : d ∈ tables_1) => atoms_spec (ws := Jvm.Cond.code x code maxLocals ret :: tables_1) hat d (List.mem_cons_of_mem _ hd)
  have hfit : Fit s := fun {y c} hc i hi => by
    obtain ⟨ha, rfl⟩ := Array.getElem?_eq_some_iff.mp hc
    have q := List.all_eq_true.mp ((Array.all_eq_true_iff_forall_mem.mp hF) _ (Array.getElem_mem ha)) i (List.mem_range.mpr hi)
    simpa [Array.getElem?_eq_getElem hi] using q
  obtain ⟨i0, ei0⟩ := is_v ha0
  obtain rfl : w0 = (.int i0) := Option.some.inj ei0
  obtain ⟨i1, ei1⟩ := is_v ha1
  obtain rfl : w1 = (.int i1) := Option.some.inj ei1
  obtain ⟨i2, ei2⟩ := is_v ha2
  obtain rfl : w2 = (.int i2) := Option.some.inj ei2
  obtain ⟨i3, ei3⟩ := is_v ha3
  obtain rfl : w3 = (.int i3) := Option.some.inj ei3
  obtain ⟨i4, ei4⟩ := is_v ha4
  obtain rfl : w4 = (.int i4) := Option.some.inj ei4
  obtain ⟨i5, ei5⟩ := is_v ha5
  obtain rfl : w5 = (.int i5) := Option.some.inj ei5
  have hst : l.stackTraces = true := by unfold Launch.stackTraces; rw [hfl]; decide
  obtain ⟨⟨cp, dO, dT, us, sn, SS⟩, hcw⟩ := own_start hst hw hrest
  have hCH : CHv s own_EL s.vm s.heap := CHv.start (own_ew hw) hcalls.2.2.1 hcw (hw _ (List.mem_of_getElem? (i := 19) rfl)) (hw _ (List.mem_of_getElem? (i := 5) rfl))
  have hkn : s.vm.MethodsKnown ∧ s.vm.FramesKnown below := ⟨MethodsKnown_of_tablesKnown hcalls.2.1, FramesKnown_of_framesKnown hcalls.1 hf⟩
  obtain ⟨n, o, h1, h2, h3, _, L, rfl, ⟨rfl, N⟩, -, hq⟩ := con0 (l, s, _, s.heap.size) hw i0 i1 i2 i3 i4 i5 cp dO dT us sn s.heap SS (Old.start s) (Nat.le_refl _) tables_1 p e ha hc hk s m _ below hf ((Spec.applies_iff_loose hf).mp happ).1 ⟨rfl, State.Warmed39.refl s, rfl, hCH, nofun⟩ hkn
  refine ⟨n, _, h1, h2, h3, hpost _ _ _ _ _ _ ⟨Cond.after_iff.mpr rfl, Cond.after_iff.mpr (eq_i res_at (Term.int_eval (1)) rfl), trivial⟩ ⟨hq.1, hq.2.1, hq.2.2.1, (hq.2.2.2.sift fun y hy => Or.inr (N y hy)).mono (by decide) (by decide)⟩⟩
theorem main_1_1 : Claimed_1_1 := comes_1 fun _ _ _ _ _ _ h hF => ⟨h.1, hF⟩
theorem main_1_2 : Claimed_1_2 := comes_1 fun _ _ _ _ _ _ h hF => ⟨h.2.1, hF⟩
end Jvm.Pilot.@@N@@
namespace Jvm.Pilot.@@N@@
open Jvm Jvm.ClassFile Sem Op Lib Jvm.Free Jvm.Stand Jvm.Pilot.@@N@@.Jvm.D
/-! MADE BY PROGRAM (witnessworld.py) out of the Statement's table words and the real class files: 45 classes; the members and pool entries that the words name. The judged class is class 1, her method 2. -/
namespace start1
open Jvm.ClassFile
def u (s : String) : CpInfo := .utf8 (stringToUtf16 s)
/-- a pool by its gaps: so many unusable entries, then the entry; so many at the end -/
def gap : Nat → List CpInfo → List CpInfo
  | 0, r => r
  | n + 1, r => .unusable :: gap n r
def poolList (es : List (Nat × CpInfo)) (last : Nat) : List CpInfo := es.foldr (fun e r => gap e.1 (e.2 :: r)) (gap last [])
def pool (es : List (Nat × CpInfo)) (last : Nat) : Array CpInfo := ⟨poolList es last⟩
def fileOf (pool : Array CpInfo) (this : Nat) (attrs : Array Attribute := #[]) (ms : Array MethodInfo := #[]) (fl : Nat := 33) (sup : Nat := 0) (ifs : Array Nat := #[]) (fds : Array FieldInfo := #[]) : ClassFile where
  minorVersion := 0
  majorVersion := 65
  constantPool := pool
  accessFlags := fl
  thisClass := this
  superClass := sup
  interfaces := ifs
  fields := fds
  methods := ms
  attributes := attrs
def plain (name : String) (sup : Option ClassId) : Class where
  name := name
  kind := .ordinary
  loader := none
  accessFlags := 33
  super := sup
  interfaces := #[]
  cf := none
  fields := #[]
  methods := #[]
  instanceTypes := #[]
  staticTypes := #[]
  resolved := #[]
  callSites := []
  init := .initialized
  statics := none
  mirror := none

def pool0 : Array CpInfo := pool [(5, u "<init>"), (0, u "()V"), (1, .class_ 10), (1, u "java/lang/Object"), (85, u "clone"), (0, u "()Ljava/lang/Object;")] 26

def k0c0 : Code := { maxStack := 0, maxLocals := 1, code := object_method_1_code, exceptionTable := #[], attributes := #[] }
def k0m0 : Method := { name := "<init>", desc := "()V", sig := { parameters := [], returnType := none }, accessFlags := 1, code := some k0c0 }
def k0m1 : Method := { name := "clone", desc := "()Ljava/lang/Object;", sig := { parameters := [], returnType := some (.object "java/lang/Object") }, accessFlags := 260, code := none }
/-- java/lang/Object -/
def k0 : Class := { plain "java/lang/Object" none with
  accessFlags := 33
  interfaces := #[]
  cf := some (fileOf pool0 8 #[] #[{ accessFlags := 1, nameIndex := 5, descriptorIndex := 6, attributes := #[] }, { accessFlags := 260, nameIndex := 96, descriptorIndex := 97, attributes := #[] }] 33 0 #[] #[])
  fields := #[]
  methods := #[k0m0, k0m1]
  instanceTypes := #[]
  staticTypes := #[]
  resolved := Array.replicate 124 none
  statics := none }

def pool1 : Array CpInfo := pool [(2, .class_ 4), (1, u "java/lang/Object"), (0, u "<init>"), (0, u "()V"), (0, .class_ 8), (0, u "java/lang/String"), (0, .methodref 7 10), (0, .nameAndType 5 11), (0, u "([C)V"), (0, .methodref 13 14), (0, .class_ 15), (0, .nameAndType 16 17), (0, u "quadrille/LexerResetPinLaw"), (0, u "make"), (0, u "(ICCC)Ljava/lang/String;"), (0, .class_ 19), (0, u "quadrille/Lexer"), (0, .string 21), (0, u "s"), (0, .string 23), (0, u "e"), (0, .methodref 18 25), (0, .nameAndType 5 26), (0, u "(Ljava/lang/String;Ljava/lang/String;)V"), (0, .methodref 18 28), (0, .nameAndType 29 30), (0, u "reset"), (0, u "(Ljava/lang/String;I)V"), (0, .methodref 18 32), (0, .nameAndType 33 34), (0, u "moveTo"), (0, u "(I)V"), (0, .methodref 18 36), (0, .nameAndType 37 38), (0, u "position"), (0, u "()I"), (0, .string 40), (0, u "p"), (0, .methodref 18 42), (0, .nameAndType 43 44), (0, u "error"), (0, u "(ILjava/lang/String;)Lquadrille/SyntaxException;"), (0, .methodref 46 47), (0, .class_ 48), (0, .nameAndType 49 50), (0, u "quadrille/SyntaxException"), (0, u "getMessage"), (0, u "()Ljava/lang/String;"), (0, .methodref 7 52), (0, .nameAndType 53 54), (0, u "equals"), (0, u "(Ljava/lang/Object;)Z"), (0, .string 56), (0, u "s:7:1: p"), (0, .methodref 18 58), (0, .nameAndType 59 60), (0, u "consume"), (0, u "(Ljava/lang/String;)Z"), (0, .methodref 18 62), (0, .nameAndType 63 64), (0, u "atEnd"), (0, u "()Z"), (3, u "law"), (0, u "(IIIIII)Z")] 2

def k1m0 : Method := { name := "<init>", desc := "()V", sig := { parameters := [], returnType := none }, accessFlags := 1, code := none }
def k1c1 : Code := { maxStack := 6, maxLocals := 4, code := method_2_code, exceptionTable := #[], attributes := #[] }
def k1m1 : Method := { name := "make", desc := "(ICCC)Ljava/lang/String;", sig := { parameters := [.int, .char, .char, .char], returnType := some (.object "java/lang/String") }, accessFlags := 10, code := some k1c1 }
def k1c2 : Code := { maxStack := 5, maxLocals := 19, code := code, exceptionTable := #[], attributes := #[] }
def k1m2 : Method := { name := "law", desc := "(IIIIII)Z", sig := { parameters := [.int, .int, .int, .int, .int, .int], returnType := some .boolean }, accessFlags := 9, code := some k1c2 }
/-- quadrille/LexerResetPinLaw -/
def k1 : Class := { plain "quadrille/LexerResetPinLaw" (some 0) with
  accessFlags := 49
  interfaces := #[]
  cf := some (fileOf pool1 13 #[] #[{ accessFlags := 1, nameIndex := 5, descriptorIndex := 6, attributes := #[] }, { accessFlags := 10, nameIndex := 16, descriptorIndex := 17, attributes := #[] }, { accessFlags := 9, nameIndex := 68, descriptorIndex := 69, attributes := #[] }] 49 2 #[] #[])
  fields := #[]
  methods := #[k1m0, k1m1, k1m2]
  instanceTypes := #[]
  staticTypes := #[]
  resolved := Array.replicate 72 none
  statics := none }

def pool2 : Array CpInfo := pool [(1, .class_ 2), (0, u "java/io/Serializable"), (0, .class_ 4), (0, u "java/lang/Object")] 2

/-- java/io/Serializable -/
def k2 : Class := { plain "java/io/Serializable" (some 0) with
  accessFlags := 1537
  interfaces := #[]
  cf := some (fileOf pool2 1 #[] #[] 1537 3 #[] #[])
  fields := #[]
  methods := #[]
  instanceTypes := #[]
  staticTypes := #[]
  resolved := Array.replicate 7 none
  statics := none }

def pool3 : Array CpInfo := pool [(1, .class_ 2), (0, u "java/lang/Comparable"), (0, .class_ 4), (0, u "java/lang/Object")] 7

/-- java/lang/Comparable -/
def k3 : Class := { plain "java/lang/Comparable" (some 0) with
  accessFlags := 1537
  interfaces := #[]
  cf := some (fileOf pool3 1 #[] #[] 1537 3 #[] #[])
  fields := #[]
  methods := #[]
  instanceTypes := #[]
  staticTypes := #[]
  resolved := Array.replicate 12 none
  statics := none }

def pool4 : Array CpInfo := pool [(2, .class_ 4), (1, u "java/lang/CharSequence"), (42, .class_ 48), (0, u "java/lang/CharSequence$1CodePointIterator"), (10, .class_ 60), (0, u "java/lang/CharSequence$1CharIterator"), (5, .class_ 67), (0, u "java/lang/Object")] 63

/-- java/lang/CharSequence -/
def k4 : Class := { plain "java/lang/CharSequence" (some 0) with
  accessFlags := 1537
  interfaces := #[]
  cf := some (fileOf pool4 2 #[.nestMembers #[47, 59]] #[] 1537 66 #[] #[])
  fields := #[]
  methods := #[]
  instanceTypes := #[]
  staticTypes := #[]
  resolved := Array.replicate 131 none
  statics := none }

def pool5 : Array CpInfo := pool [(1, .class_ 2), (0, u "java/lang/constant/Constable"), (0, .class_ 4), (0, u "java/lang/Object")] 6

/-- java/lang/constant/Constable -/
def k5 : Class := { plain "java/lang/constant/Constable" (some 0) with
  accessFlags := 1537
  interfaces := #[]
  cf := some (fileOf pool5 1 #[] #[] 1537 3 #[] #[])
  fields := #[]
  methods := #[]
  instanceTypes := #[]
  staticTypes := #[]
  resolved := Array.replicate 11 none
  statics := none }

def pool6 : Array CpInfo := pool [(1, .class_ 2), (0, u "java/lang/constant/ConstantDesc"), (0, .class_ 4), (0, u "java/lang/Object")] 32

/-- java/lang/constant/ConstantDesc -/
def k6 : Class := { plain "java/lang/constant/ConstantDesc" (some 0) with
  accessFlags := 1537
  interfaces := #[]
  cf := some (fileOf pool6 1 #[] #[] 1537 3 #[] #[])
  fields := #[]
  methods := #[]
  instanceTypes := #[]
  staticTypes := #[]
  resolved := Array.replicate 37 none
  statics := none }

def pool7 : Array CpInfo := pool [(1, .methodref 2 3), (0, .class_ 4), (0, .nameAndType 5 6), (0, u "java/lang/Object"), (0, u "<init>"), (0, u "()V"), (0, .string 8), (0, u ""), (0, .fieldref 10 11), (0, .class_ 12), (0, .nameAndType 13 14), (0, u "java/lang/String"), (0, u "value"), (0, u "[B"), (0, .fieldref 10 16), (0, .nameAndType 17 18), (0, u "coder"), (0, u "B"), (2, u "hash"), (0, u "I"), (2, u "hashIsZero"), (0, u "Z"), (0, .methodref 10 28), (0, .nameAndType 5 29), (0, u "([CIILjava/lang/Void;)V"), (8, .fieldref 10 39), (0, .nameAndType 40 26), (0, u "COMPACT_STRINGS"), (1, .class_ 44), (1, u "java/lang/StringUTF16"), (0, u "compress"), (1, .methodref 42 48), (0, .nameAndType 49 50), (0, u "coderFromArrayLen"), (0, u "([BI)B"), (3, .methodref 55 56), (0, .class_ 57), (0, .nameAndType 58 59), (0, u "java/util/Arrays"), (0, u "copyOfRange"), (0, u "([BII)[B"), (47, .class_ 109), (1, u "java/lang/StringLatin1"), (32, u "()Z"), (34, .methodref 42 178), (0, .nameAndType 45 179), (0, u "([CII)[B"), (13, .class_ 195), (1, u "java/lang/System"), (16, .methodref 193 213), (0, .nameAndType 214 215), (0, u "arraycopy"), (0, u "(Ljava/lang/Object;ILjava/lang/Object;II)V"), (118, u "()I"), (0, .methodref 10 336), (0, .nameAndType 17 337), (0, u "()B"), (2, u "()[B"), (35, u "([BI[BII)I"), (112, .methodref 10 490), (0, .nameAndType 5 491), (0, u "(Ljava/lang/AbstractStringBuilder;Ljava/lang/Void;)V"), (1, .nameAndType 494 142), (0, u "isLatin1"), (10, .methodref 10 506), (0, .nameAndType 507 334), (0, u "length"), (24, u "getBytes"), (8, .methodref 107 542), (0, .nameAndType 543 544), (0, u "equals"), (0, u "([B[B)Z"), (4, .methodref 550 506), (0, .class_ 551), (0, u "java/lang/AbstractStringBuilder"), (0, .methodref 550 553), (0, .nameAndType 554 340), (0, u "getValue"), (4, .class_ 561), (1, u "jdk/internal/util/ArraysSupport"), (0, u "mismatch"), (10, u "(Ljava/lang/Object;)Z"), (1, .class_ 576), (0, u "java/lang/CharSequence"), (22, u "CASE_INSENSITIVE_ORDER"), (0, u "Ljava/util/Comparator;"), (6, .methodref 559 608), (0, .nameAndType 562 376), (17, u "startsWith"), (0, u "(Ljava/lang/String;I)Z"), (193, u "([BIB)V"), (188, u "([C)V"), (36, .methodref 550 493), (53, u "serialPersistentFields"), (0, u "[Ljava/io/ObjectStreamField;"), (0, .class_ 1104), (0, u "java/lang/String$CaseInsensitiveComparator"), (1, .class_ 1107), (0, u "java/io/Serializable"), (0, .class_ 1109), (0, u "java/lang/Comparable"), (0, .class_ 1111), (0, u "java/lang/constant/Constable"), (0, .class_ 1113), (0, u "java/lang/constant/ConstantDesc"), (2, u "serialVersionUID"), (0, u "J"), (3, u "REPL"), (0, u "C"), (2, u "LATIN1"), (1, u "UTF16"), (105, u "(Ljava/lang/StringBuilder;)V")] 217

def k7m0 : Method := { name := "<init>", desc := "()V", sig := { parameters := [], returnType := none }, accessFlags := 1, code := none }
def k7c1 : Code := { maxStack := 5, maxLocals := 2, code := jdk_42_method_3_code, exceptionTable := #[], attributes := #[] }
def k7m1 : Method := { name := "<init>", desc := "([C)V", sig := { parameters := [(.array .char)], returnType := none }, accessFlags := 1, code := some k7c1 }
def k7c2 : Code := { maxStack := 3, maxLocals := 2, code := jdk_42_method_53_code, exceptionTable := #[], attributes := #[] }
def k7m2 : Method := { name := "<init>", desc := "(Ljava/lang/StringBuilder;)V", sig := { parameters := [(.object "java/lang/StringBuilder")], returnType := none }, accessFlags := 1, code := some k7c2 }
def k7c3 : Code := { maxStack := 2, maxLocals := 1, code := jdk_42_method_54_code, exceptionTable := #[], attributes := #[] }
def k7m3 : Method := { name := "length", desc := "()I", sig := { parameters := [], returnType := some .int }, accessFlags := 1, code := some k7c3 }
def k7c4 : Code := { maxStack := 2, maxLocals := 3, code := jdk_42_method_66_code, exceptionTable := #[], attributes := #[] }
def k7m4 : Method := { name := "equals", desc := "(Ljava/lang/Object;)Z", sig := { parameters := [(.object "java/lang/Object")], returnType := some .boolean }, accessFlags := 1, code := some k7c4 }
def k7c5 : Code := { maxStack := 5, maxLocals := 8, code := jdk_42_method_75_code, exceptionTable := #[], attributes := #[] }
def k7m5 : Method := { name := "startsWith", desc := "(Ljava/lang/String;I)Z", sig := { parameters := [(.object "java/lang/String"), .int], returnType := some .boolean }, accessFlags := 1, code := some k7c5 }
def k7c6 : Code := { maxStack := 5, maxLocals := 4, code := jdk_42_method_147_code, exceptionTable := #[], attributes := #[] }
def k7m6 : Method := { name := "getBytes", desc := "([BIB)V", sig := { parameters := [(.array .byte), .int, .byte], returnType := none }, accessFlags := 0, code := some k7c6 }
def k7c7 : Code := { maxStack := 4, maxLocals := 6, code := jdk_42_method_149_code, exceptionTable := #[], attributes := #[] }
def k7m7 : Method := { name := "<init>", desc := "([CIILjava/lang/Void;)V", sig := { parameters := [(.array .char), .int, .int, (.object "java/lang/Void")], returnType := none }, accessFlags := 2, code := some k7c7 }
def k7c8 : Code := { maxStack := 5, maxLocals := 5, code := jdk_42_method_150_code, exceptionTable := #[], attributes := #[] }
def k7m8 : Method := { name := "<init>", desc := "(Ljava/lang/AbstractStringBuilder;Ljava/lang/Void;)V", sig := { parameters := [(.object "java/lang/AbstractStringBuilder"), (.object "java/lang/Void")], returnType := none }, accessFlags := 0, code := some k7c8 }
def k7c9 : Code := { maxStack := 1, maxLocals := 1, code := jdk_42_method_152_code, exceptionTable := #[], attributes := #[] }
def k7m9 : Method := { name := "coder", desc := "()B", sig := { parameters := [], returnType := some .byte }, accessFlags := 0, code := some k7c9 }
/-- java/lang/String -/
def k7 : Class := { plain "java/lang/String" (some 0) with
  accessFlags := 49
  interfaces := #[2, 3, 4, 5, 6]
  cf := some (fileOf pool7 10 #[.nestMembers #[1103]] #[{ accessFlags := 1, nameIndex := 5, descriptorIndex := 6, attributes := #[] }, { accessFlags := 1, nameIndex := 5, descriptorIndex := 1010, attributes := #[] }, { accessFlags := 1, nameIndex := 5, descriptorIndex := 1233, attributes := #[] }, { accessFlags := 1, nameIndex := 507, descriptorIndex := 334, attributes := #[] }, { accessFlags := 1, nameIndex := 543, descriptorIndex := 573, attributes := #[] }, { accessFlags := 1, nameIndex := 626, descriptorIndex := 627, attributes := #[] }, { accessFlags := 0, nameIndex := 532, descriptorIndex := 821, attributes := #[] }, { accessFlags := 2, nameIndex := 5, descriptorIndex := 29, attributes := #[] }, { accessFlags := 0, nameIndex := 5, descriptorIndex := 491, attributes := #[] }, { accessFlags := 0, nameIndex := 17, descriptorIndex := 337, attributes := #[] }] 49 2 #[1106, 1108, 575, 1110, 1112] #[{ accessFlags := 18, nameIndex := 13, descriptorIndex := 14, attributes := #[] }, { accessFlags := 18, nameIndex := 17, descriptorIndex := 18, attributes := #[] }, { accessFlags := 2, nameIndex := 21, descriptorIndex := 22, attributes := #[] }, { accessFlags := 2, nameIndex := 25, descriptorIndex := 26, attributes := #[] }, { accessFlags := 26, nameIndex := 1116, descriptorIndex := 1117, attributes := #[] }, { accessFlags := 24, nameIndex := 40, descriptorIndex := 26, attributes := #[] }, { accessFlags := 26, nameIndex := 1101, descriptorIndex := 1102, attributes := #[] }, { accessFlags := 26, nameIndex := 1121, descriptorIndex := 1122, attributes := #[] }, { accessFlags := 25, nameIndex := 599, descriptorIndex := 600, attributes := #[] }, { accessFlags := 24, nameIndex := 1125, descriptorIndex := 18, attributes := #[] }, { accessFlags := 24, nameIndex := 1127, descriptorIndex := 18, attributes := #[] }])
  fields := #[{ name := "value", type := (.array .byte), accessFlags := 18, slot := 0, constantValue := 0 }, { name := "coder", type := .byte, accessFlags := 18, slot := 1, constantValue := 0 }, { name := "hash", type := .int, accessFlags := 2, slot := 2, constantValue := 0 }, { name := "hashIsZero", type := .boolean, accessFlags := 2, slot := 3, constantValue := 0 }, { name := "serialVersionUID", type := .long, accessFlags := 26, slot := 0, constantValue := 0 }, { name := "COMPACT_STRINGS", type := .boolean, accessFlags := 24, slot := 1, constantValue := 0 }, { name := "serialPersistentFields", type := (.array (.object "java/io/ObjectStreamField")), accessFlags := 26, slot := 2, constantValue := 0 }, { name := "REPL", type := .char, accessFlags := 26, slot := 3, constantValue := 0 }, { name := "CASE_INSENSITIVE_ORDER", type := (.object "java/util/Comparator"), accessFlags := 25, slot := 4, constantValue := 0 }, { name := "LATIN1", type := .byte, accessFlags := 24, slot := 5, constantValue := 0 }, { name := "UTF16", type := .byte, accessFlags := 24, slot := 6, constantValue := 0 }]
  methods := #[k7m0, k7m1, k7m2, k7m3, k7m4, k7m5, k7m6, k7m7, k7m8, k7m9]
  instanceTypes := #[(.array .byte), .byte, .int, .boolean]
  staticTypes := #[.long, .boolean, (.array (.object "java/io/ObjectStreamField")), .char, (.object "java/util/Comparator"), .byte, .byte]
  resolved := Array.replicate 1451 none
  statics := some 0 }

def pool8 : Array CpInfo := pool [(6, .class_ 8), (1, u "java/lang/Object"), (0, u "<init>"), (0, u "()V"), (1, .class_ 14), (1, u "java/lang/StringUTF16"), (31, u "$assertionsDisabled"), (0, u "Z"), (13, u "HI_BYTE_SHIFT"), (0, u "I"), (2, u "LO_BYTE_SHIFT"), (49, .methodref 12 116), (0, .nameAndType 117 118), (0, u "compress"), (0, u "([CI[BII)I"), (3, u "([CII)[B"), (138, u "coderFromArrayLen"), (0, u "([BI)B"), (106, .class_ 371), (1, u "java/lang/StringUTF16$LinesSpliterator"), (58, u "MAX_LENGTH"), (196, .class_ 628), (0, u "java/lang/StringUTF16$CodePointsSpliterator"), (0, .class_ 630), (0, u "java/lang/StringUTF16$CharsSpliterator")] 4

def k8m0 : Method := { name := "<init>", desc := "()V", sig := { parameters := [], returnType := none }, accessFlags := 0, code := none }
def k8c1 : Code := { maxStack := 2, maxLocals := 2, code := jdk_52_method_15_code, exceptionTable := #[], attributes := #[] }
def k8m1 : Method := { name := "coderFromArrayLen", desc := "([BI)B", sig := { parameters := [(.array .byte), .int], returnType := some .byte }, accessFlags := 8, code := some k8c1 }
def k8c2 : Code := { maxStack := 5, maxLocals := 6, code := jdk_52_method_16_code, exceptionTable := #[], attributes := #[] }
def k8m2 : Method := { name := "compress", desc := "([CII)[B", sig := { parameters := [(.array .char), .int, .int], returnType := some (.array .byte) }, accessFlags := 9, code := some k8c2 }
def k8c3 : Code := { maxStack := 3, maxLocals := 7, code := jdk_52_method_21_code, exceptionTable := #[], attributes := #[] }
def k8m3 : Method := { name := "compress", desc := "([CI[BII)I", sig := { parameters := [(.array .char), .int, (.array .byte), .int, .int], returnType := some .int }, accessFlags := 9, code := some k8c3 }
/-- java/lang/StringUTF16 -/
def k8 : Class := { plain "java/lang/StringUTF16" (some 0) with
  accessFlags := 48
  interfaces := #[]
  cf := some (fileOf pool8 12 #[.nestMembers #[627, 629, 369]] #[{ accessFlags := 0, nameIndex := 9, descriptorIndex := 10, attributes := #[] }, { accessFlags := 8, nameIndex := 261, descriptorIndex := 262, attributes := #[] }, { accessFlags := 9, nameIndex := 117, descriptorIndex := 122, attributes := #[] }, { accessFlags := 9, nameIndex := 117, descriptorIndex := 118, attributes := #[] }] 48 6 #[] #[{ accessFlags := 26, nameIndex := 61, descriptorIndex := 62, attributes := #[] }, { accessFlags := 26, nameIndex := 65, descriptorIndex := 62, attributes := #[] }, { accessFlags := 24, nameIndex := 430, descriptorIndex := 62, attributes := #[] }, { accessFlags := 4120, nameIndex := 46, descriptorIndex := 47, attributes := #[] }])
  fields := #[{ name := "HI_BYTE_SHIFT", type := .int, accessFlags := 26, slot := 0, constantValue := 0 }, { name := "LO_BYTE_SHIFT", type := .int, accessFlags := 26, slot := 1, constantValue := 0 }, { name := "MAX_LENGTH", type := .int, accessFlags := 24, slot := 2, constantValue := 0 }, { name := "$assertionsDisabled", type := .boolean, accessFlags := 4120, slot := 3, constantValue := 0 }]
  methods := #[k8m0, k8m1, k8m2, k8m3]
  instanceTypes := #[]
  staticTypes := #[.int, .int, .int, .boolean]
  resolved := Array.replicate 635 none
  statics := none }

def pool9 : Array CpInfo := pool [(1, .methodref 2 3), (0, .class_ 4), (0, .nameAndType 5 6), (0, u "java/lang/Object"), (0, u "<init>"), (0, u "()V"), (0, .string 8), (0, u ""), (0, .fieldref 10 11), (0, .class_ 12), (0, .nameAndType 13 14), (0, u "quadrille/Lexer"), (0, u "text"), (0, u "Ljava/lang/String;"), (0, .fieldref 10 16), (0, .nameAndType 17 18), (0, u "firstLine"), (0, u "I"), (0, .fieldref 10 20), (0, .nameAndType 21 14), (0, u "source"), (0, .fieldref 10 23), (0, .nameAndType 24 14), (0, u "endOfText"), (0, .fieldref 10 26), (0, .nameAndType 27 18), (0, u "pos"), (0, .fieldref 10 29), (0, .nameAndType 30 18), (0, u "nesting"), (26, u "error"), (1, .methodref 60 61), (0, .class_ 62), (0, .nameAndType 63 64), (0, u "java/lang/String"), (0, u "length"), (0, u "()I"), (9, .methodref 60 75), (0, .nameAndType 76 77), (0, u "startsWith"), (0, u "(Ljava/lang/String;I)Z"), (36, u "(ILjava/lang/String;)Lquadrille/SyntaxException;"), (0, .class_ 116), (0, u "quadrille/LineColumn"), (0, .methodref 115 118), (0, .nameAndType 5 119), (0, u "(I)V"), (4, .class_ 125), (0, u "quadrille/SyntaxException"), (0, .methodref 115 127), (0, .nameAndType 128 64), (0, u "line"), (0, .methodref 115 130), (0, .nameAndType 131 64), (0, u "column"), (0, .methodref 124 133), (0, .nameAndType 5 134), (0, u "(Ljava/lang/String;IILjava/lang/String;)V"), (12, u "(Ljava/lang/String;)Z"), (19, u "consume"), (152, u "NOT_IN_IRI"), (1, u "LOCAL_ESCAPES"), (0, u "MAX_NESTING"), (1, u "(Ljava/lang/String;Ljava/lang/String;)V"), (2, u "reset"), (0, u "(Ljava/lang/String;I)V"), (3, u "position"), (0, u "moveTo"), (0, u "atEnd"), (0, u "()Z")] 55

def k9c0 : Code := { maxStack := 2, maxLocals := 3, code := prog_70_method_1_code, exceptionTable := #[], attributes := #[] }
def k9m0 : Method := { name := "<init>", desc := "(Ljava/lang/String;Ljava/lang/String;)V", sig := { parameters := [(.object "java/lang/String"), (.object "java/lang/String")], returnType := none }, accessFlags := 0, code := some k9c0 }
def k9c1 : Code := { maxStack := 2, maxLocals := 3, code := prog_70_method_2_code, exceptionTable := #[], attributes := #[] }
def k9m1 : Method := { name := "reset", desc := "(Ljava/lang/String;I)V", sig := { parameters := [(.object "java/lang/String"), .int], returnType := none }, accessFlags := 0, code := some k9c1 }
def k9c2 : Code := { maxStack := 1, maxLocals := 1, code := prog_70_method_6_code, exceptionTable := #[], attributes := #[] }
def k9m2 : Method := { name := "position", desc := "()I", sig := { parameters := [], returnType := some .int }, accessFlags := 0, code := some k9c2 }
def k9c3 : Code := { maxStack := 2, maxLocals := 2, code := prog_70_method_7_code, exceptionTable := #[], attributes := #[] }
def k9m3 : Method := { name := "moveTo", desc := "(I)V", sig := { parameters := [.int], returnType := none }, accessFlags := 0, code := some k9c3 }
def k9c4 : Code := { maxStack := 2, maxLocals := 1, code := prog_70_method_8_code, exceptionTable := #[], attributes := #[] }
def k9m4 : Method := { name := "atEnd", desc := "()Z", sig := { parameters := [], returnType := some .boolean }, accessFlags := 0, code := some k9c4 }
def k9c5 : Code := { maxStack := 3, maxLocals := 2, code := prog_70_method_12_code, exceptionTable := #[], attributes := #[] }
def k9m5 : Method := { name := "consume", desc := "(Ljava/lang/String;)Z", sig := { parameters := [(.object "java/lang/String")], returnType := some .boolean }, accessFlags := 0, code := some k9c5 }
def k9c6 : Code := { maxStack := 6, maxLocals := 5, code := prog_70_method_19_code, exceptionTable := #[], attributes := #[] }
def k9m6 : Method := { name := "error", desc := "(ILjava/lang/String;)Lquadrille/SyntaxException;", sig := { parameters := [.int, (.object "java/lang/String")], returnType := some (.object "quadrille/SyntaxException") }, accessFlags := 0, code := some k9c6 }
/-- quadrille/Lexer -/
def k9 : Class := { plain "quadrille/Lexer" (some 0) with
  accessFlags := 48
  interfaces := #[]
  cf := some (fileOf pool9 10 #[] #[{ accessFlags := 0, nameIndex := 5, descriptorIndex := 325, attributes := #[] }, { accessFlags := 0, nameIndex := 328, descriptorIndex := 329, attributes := #[] }, { accessFlags := 0, nameIndex := 333, descriptorIndex := 64, attributes := #[] }, { accessFlags := 0, nameIndex := 334, descriptorIndex := 119, attributes := #[] }, { accessFlags := 0, nameIndex := 335, descriptorIndex := 336, attributes := #[] }, { accessFlags := 0, nameIndex := 167, descriptorIndex := 147, attributes := #[] }, { accessFlags := 0, nameIndex := 57, descriptorIndex := 114, attributes := #[] }] 48 2 #[] #[{ accessFlags := 26, nameIndex := 320, descriptorIndex := 14, attributes := #[] }, { accessFlags := 26, nameIndex := 322, descriptorIndex := 14, attributes := #[] }, { accessFlags := 24, nameIndex := 323, descriptorIndex := 18, attributes := #[] }, { accessFlags := 18, nameIndex := 21, descriptorIndex := 14, attributes := #[] }, { accessFlags := 18, nameIndex := 24, descriptorIndex := 14, attributes := #[] }, { accessFlags := 2, nameIndex := 13, descriptorIndex := 14, attributes := #[] }, { accessFlags := 2, nameIndex := 17, descriptorIndex := 18, attributes := #[] }, { accessFlags := 2, nameIndex := 27, descriptorIndex := 18, attributes := #[] }, { accessFlags := 2, nameIndex := 30, descriptorIndex := 18, attributes := #[] }])
  fields := #[{ name := "NOT_IN_IRI", type := (.object "java/lang/String"), accessFlags := 26, slot := 0, constantValue := 0 }, { name := "LOCAL_ESCAPES", type := (.object "java/lang/String"), accessFlags := 26, slot := 1, constantValue := 0 }, { name := "MAX_NESTING", type := .int, accessFlags := 24, slot := 2, constantValue := 0 }, { name := "source", type := (.object "java/lang/String"), accessFlags := 18, slot := 0, constantValue := 0 }, { name := "endOfText", type := (.object "java/lang/String"), accessFlags := 18, slot := 1, constantValue := 0 }, { name := "text", type := (.object "java/lang/String"), accessFlags := 2, slot := 2, constantValue := 0 }, { name := "firstLine", type := .int, accessFlags := 2, slot := 3, constantValue := 0 }, { name := "pos", type := .int, accessFlags := 2, slot := 4, constantValue := 0 }, { name := "nesting", type := .int, accessFlags := 2, slot := 5, constantValue := 0 }]
  methods := #[k9m0, k9m1, k9m2, k9m3, k9m4, k9m5, k9m6]
  instanceTypes := #[(.object "java/lang/String"), (.object "java/lang/String"), (.object "java/lang/String"), .int, .int, .int]
  staticTypes := #[(.object "java/lang/String"), (.object "java/lang/String"), .int]
  resolved := Array.replicate 392 none
  statics := none }

def pool10 : Array CpInfo := pool [(1, .methodref 2 3), (0, .class_ 4), (0, .nameAndType 5 6), (0, u "java/lang/Object"), (0, u "<init>"), (0, u "()V"), (0, .fieldref 8 9), (0, .class_ 10), (0, .nameAndType 11 12), (0, u "quadrille/LineColumn"), (0, u "column"), (0, u "I"), (0, .fieldref 8 14), (0, .nameAndType 15 12), (0, u "line"), (2, u "afterCarriageReturn"), (0, u "Z"), (6, u "(I)V"), (5, u "()I")] 2

def k10c0 : Code := { maxStack := 2, maxLocals := 2, code := prog_72_method_1_code, exceptionTable := #[], attributes := #[] }
def k10m0 : Method := { name := "<init>", desc := "(I)V", sig := { parameters := [.int], returnType := none }, accessFlags := 0, code := some k10c0 }
def k10c1 : Code := { maxStack := 1, maxLocals := 1, code := prog_72_method_3_code, exceptionTable := #[], attributes := #[] }
def k10m1 : Method := { name := "line", desc := "()I", sig := { parameters := [], returnType := some .int }, accessFlags := 0, code := some k10c1 }
def k10c2 : Code := { maxStack := 1, maxLocals := 1, code := prog_72_method_4_code, exceptionTable := #[], attributes := #[] }
def k10m2 : Method := { name := "column", desc := "()I", sig := { parameters := [], returnType := some .int }, accessFlags := 0, code := some k10c2 }
/-- quadrille/LineColumn -/
def k10 : Class := { plain "quadrille/LineColumn" (some 0) with
  accessFlags := 48
  interfaces := #[]
  cf := some (fileOf pool10 8 #[] #[{ accessFlags := 0, nameIndex := 5, descriptorIndex := 26, attributes := #[] }, { accessFlags := 0, nameIndex := 15, descriptorIndex := 32, attributes := #[] }, { accessFlags := 0, nameIndex := 11, descriptorIndex := 32, attributes := #[] }] 48 2 #[] #[{ accessFlags := 2, nameIndex := 15, descriptorIndex := 12, attributes := #[] }, { accessFlags := 2, nameIndex := 11, descriptorIndex := 12, attributes := #[] }, { accessFlags := 2, nameIndex := 18, descriptorIndex := 19, attributes := #[] }])
  fields := #[{ name := "line", type := .int, accessFlags := 2, slot := 0, constantValue := 0 }, { name := "column", type := .int, accessFlags := 2, slot := 1, constantValue := 0 }, { name := "afterCarriageReturn", type := .boolean, accessFlags := 2, slot := 2, constantValue := 0 }]
  methods := #[k10m0, k10m1, k10m2]
  instanceTypes := #[.int, .int, .boolean]
  staticTypes := #[]
  resolved := Array.replicate 35 none
  statics := none }

def pool11 : Array CpInfo := pool [(1, .methodref 2 3), (0, .class_ 4), (0, .nameAndType 5 6), (0, u "java/lang/Object"), (0, u "<init>"), (0, u "()V"), (0, .fieldref 8 9), (0, .class_ 10), (0, .nameAndType 11 12), (0, u "java/lang/Throwable"), (0, u "cause"), (0, u "Ljava/lang/Throwable;"), (0, .fieldref 8 14), (0, .nameAndType 15 16), (0, u "UNASSIGNED_STACK"), (0, u "[Ljava/lang/StackTraceElement;"), (0, .fieldref 8 18), (0, .nameAndType 19 16), (0, u "stackTrace"), (0, .fieldref 8 21), (0, .nameAndType 22 23), (0, u "SUPPRESSED_SENTINEL"), (0, u "Ljava/util/List;"), (0, .fieldref 8 25), (0, .nameAndType 26 23), (0, u "suppressedExceptions"), (0, .methodref 8 28), (0, .nameAndType 29 30), (0, u "fillInStackTrace"), (0, u "()Ljava/lang/Throwable;"), (0, .fieldref 8 32), (0, .nameAndType 33 34), (0, u "detailMessage"), (0, u "Ljava/lang/String;"), (3, u "()Ljava/lang/String;"), (2, u "getMessage"), (51, .class_ 94), (0, u "java/lang/Throwable$WrappedPrintStream"), (6, .class_ 103), (1, u "java/lang/Throwable$PrintStreamOrWriter"), (61, u "$assertionsDisabled"), (0, u "Z"), (26, .class_ 194), (0, u "java/lang/Throwable$WrappedPrintWriter"), (3, .fieldref 8 199), (0, .nameAndType 200 201), (0, u "backtrace"), (0, u "Ljava/lang/Object;"), (0, .methodref 8 203), (0, .nameAndType 29 204), (0, u "(I)Ljava/lang/Throwable;"), (6, u "depth"), (0, u "I"), (10, u "(Ljava/lang/String;)V"), (45, .class_ 271), (1, u "java/lang/Throwable$SentinelHolder"), (32, u "EMPTY_THROWABLE_ARRAY"), (0, u "[Ljava/lang/Throwable;"), (12, .class_ 319), (0, u "java/io/Serializable"), (0, u "serialVersionUID"), (0, u "J"), (5, u "NULL_CAUSE_MESSAGE"), (0, u "SELF_SUPPRESSION_MESSAGE"), (0, u "CAUSE_CAPTION"), (0, u "SUPPRESSED_CAPTION")] 73

def k11c0 : Code := { maxStack := 2, maxLocals := 1, code := jdk_78_method_1_code, exceptionTable := #[], attributes := #[] }
def k11m0 : Method := { name := "<init>", desc := "()V", sig := { parameters := [], returnType := none }, accessFlags := 1, code := some k11c0 }
def k11c1 : Code := { maxStack := 2, maxLocals := 2, code := jdk_78_method_2_code, exceptionTable := #[], attributes := #[] }
def k11m1 : Method := { name := "<init>", desc := "(Ljava/lang/String;)V", sig := { parameters := [(.object "java/lang/String")], returnType := none }, accessFlags := 1, code := some k11c1 }
def k11c2 : Code := { maxStack := 1, maxLocals := 1, code := jdk_78_method_6_code, exceptionTable := #[], attributes := #[] }
def k11m2 : Method := { name := "getMessage", desc := "()Ljava/lang/String;", sig := { parameters := [], returnType := some (.object "java/lang/String") }, accessFlags := 1, code := some k11c2 }
def k11c3 : Code := { maxStack := 2, maxLocals := 1, code := ⟨#[0x2a, 0xb4, 0x00, 0x11, 0xc7, 0x00, 0x0a, 0x2a, 0xb4, 0x00, 0xc6, 0xc6, 0x00, 0x10, 0x2a, 0x03, 0xb6, 0x00, 0xca, 0x57, 0x2a, 0xb2, 0x00, 0x0d, 0xb5, 0x00, 0x11, 0x2a, 0xb0]⟩, exceptionTable := #[], attributes := #[] }
def k11m3 : Method := { name := "fillInStackTrace", desc := "()Ljava/lang/Throwable;", sig := { parameters := [], returnType := some (.object "java/lang/Throwable") }, accessFlags := 33, code := some k11c3 }
def k11m4 : Method := { name := "fillInStackTrace", desc := "(I)Ljava/lang/Throwable;", sig := { parameters := [.int], returnType := some (.object "java/lang/Throwable") }, accessFlags := 258, code := none }
/-- java/lang/Throwable -/
def k11 : Class := { plain "java/lang/Throwable" (some 0) with
  accessFlags := 33
  interfaces := #[2]
  cf := some (fileOf pool11 8 #[.nestMembers #[193, 93, 101, 269]] #[{ accessFlags := 1, nameIndex := 5, descriptorIndex := 6, attributes := #[] }, { accessFlags := 1, nameIndex := 5, descriptorIndex := 223, attributes := #[] }, { accessFlags := 1, nameIndex := 41, descriptorIndex := 38, attributes := #[] }, { accessFlags := 33, nameIndex := 29, descriptorIndex := 30, attributes := #[] }, { accessFlags := 258, nameIndex := 29, descriptorIndex := 204, attributes := #[] }] 33 2 #[318] #[{ accessFlags := 26, nameIndex := 320, descriptorIndex := 321, attributes := #[] }, { accessFlags := 130, nameIndex := 200, descriptorIndex := 201, attributes := #[] }, { accessFlags := 2, nameIndex := 33, descriptorIndex := 34, attributes := #[] }, { accessFlags := 26, nameIndex := 15, descriptorIndex := 16, attributes := #[] }, { accessFlags := 2, nameIndex := 11, descriptorIndex := 12, attributes := #[] }, { accessFlags := 2, nameIndex := 19, descriptorIndex := 16, attributes := #[] }, { accessFlags := 130, nameIndex := 211, descriptorIndex := 212, attributes := #[] }, { accessFlags := 26, nameIndex := 22, descriptorIndex := 23, attributes := #[] }, { accessFlags := 2, nameIndex := 26, descriptorIndex := 23, attributes := #[] }, { accessFlags := 26, nameIndex := 327, descriptorIndex := 34, attributes := #[] }, { accessFlags := 26, nameIndex := 328, descriptorIndex := 34, attributes := #[] }, { accessFlags := 26, nameIndex := 329, descriptorIndex := 34, attributes := #[] }, { accessFlags := 26, nameIndex := 330, descriptorIndex := 34, attributes := #[] }, { accessFlags := 26, nameIndex := 304, descriptorIndex := 305, attributes := #[] }, { accessFlags := 4120, nameIndex := 165, descriptorIndex := 166, attributes := #[] }])
  fields := #[{ name := "serialVersionUID", type := .long, accessFlags := 26, slot := 0, constantValue := 0 }, { name := "backtrace", type := (.object "java/lang/Object"), accessFlags := 130, slot := 0, constantValue := 0 }, { name := "detailMessage", type := (.object "java/lang/String"), accessFlags := 2, slot := 1, constantValue := 0 }, { name := "UNASSIGNED_STACK", type := (.array (.object "java/lang/StackTraceElement")), accessFlags := 26, slot := 1, constantValue := 0 }, { name := "cause", type := (.object "java/lang/Throwable"), accessFlags := 2, slot := 2, constantValue := 0 }, { name := "stackTrace", type := (.array (.object "java/lang/StackTraceElement")), accessFlags := 2, slot := 3, constantValue := 0 }, { name := "depth", type := .int, accessFlags := 130, slot := 4, constantValue := 0 }, { name := "SUPPRESSED_SENTINEL", type := (.object "java/util/List"), accessFlags := 26, slot := 2, constantValue := 0 }, { name := "suppressedExceptions", type := (.object "java/util/List"), accessFlags := 2, slot := 5, constantValue := 0 }, { name := "NULL_CAUSE_MESSAGE", type := (.object "java/lang/String"), accessFlags := 26, slot := 3, constantValue := 0 }, { name := "SELF_SUPPRESSION_MESSAGE", type := (.object "java/lang/String"), accessFlags := 26, slot := 4, constantValue := 0 }, { name := "CAUSE_CAPTION", type := (.object "java/lang/String"), accessFlags := 26, slot := 5, constantValue := 0 }, { name := "SUPPRESSED_CAPTION", type := (.object "java/lang/String"), accessFlags := 26, slot := 6, constantValue := 0 }, { name := "EMPTY_THROWABLE_ARRAY", type := (.array (.object "java/lang/Throwable")), accessFlags := 26, slot := 7, constantValue := 0 }, { name := "$assertionsDisabled", type := .boolean, accessFlags := 4120, slot := 8, constantValue := 0 }]
  methods := #[k11m0, k11m1, k11m2, k11m3, k11m4]
  instanceTypes := #[(.object "java/lang/Object"), (.object "java/lang/String"), (.object "java/lang/Throwable"), (.array (.object "java/lang/StackTraceElement")), .int, (.object "java/util/List")]
  staticTypes := #[.long, (.array (.object "java/lang/StackTraceElement")), (.object "java/util/List"), (.object "java/lang/String"), (.object "java/lang/String"), (.object "java/lang/String"), (.object "java/lang/String"), (.array (.object "java/lang/Throwable")), .boolean]
  resolved := Array.replicate 404 none
  statics := some 1 }

def pool12 : Array CpInfo := pool [(2, .class_ 4), (1, u "java/lang/Throwable"), (0, u "<init>"), (0, u "()V"), (0, .methodref 2 8), (0, .nameAndType 5 9), (0, u "(Ljava/lang/String;)V"), (9, .class_ 20), (0, u "java/lang/Exception"), (0, u "serialVersionUID"), (0, u "J")] 17

def k12m0 : Method := { name := "<init>", desc := "()V", sig := { parameters := [], returnType := none }, accessFlags := 1, code := none }
def k12c1 : Code := { maxStack := 2, maxLocals := 2, code := jdk_59_method_2_code, exceptionTable := #[], attributes := #[] }
def k12m1 : Method := { name := "<init>", desc := "(Ljava/lang/String;)V", sig := { parameters := [(.object "java/lang/String")], returnType := none }, accessFlags := 1, code := some k12c1 }
/-- java/lang/Exception -/
def k12 : Class := { plain "java/lang/Exception" (some 11) with
  accessFlags := 33
  interfaces := #[]
  cf := some (fileOf pool12 19 #[] #[{ accessFlags := 1, nameIndex := 5, descriptorIndex := 6, attributes := #[] }, { accessFlags := 1, nameIndex := 5, descriptorIndex := 9, attributes := #[] }] 33 2 #[] #[{ accessFlags := 24, nameIndex := 21, descriptorIndex := 22, attributes := #[] }])
  fields := #[{ name := "serialVersionUID", type := .long, accessFlags := 24, slot := 0, constantValue := 0 }]
  methods := #[k12m0, k12m1]
  instanceTypes := #[(.object "java/lang/Object"), (.object "java/lang/String"), (.object "java/lang/Throwable"), (.array (.object "java/lang/StackTraceElement")), .int, (.object "java/util/List")]
  staticTypes := #[.long]
  resolved := Array.replicate 40 none
  statics := none }

def pool13 : Array CpInfo := pool [(1, .class_ 2), (0, u "java/lang/StringBuilder"), (0, .methodref 1 4), (0, .nameAndType 5 6), (0, u "<init>"), (0, u "()V"), (0, .methodref 1 8), (0, .nameAndType 9 10), (0, u "append"), (0, u "(Ljava/lang/String;)Ljava/lang/StringBuilder;"), (0, .string 12), (0, u ":"), (0, .methodref 1 14), (0, .nameAndType 9 15), (0, u "(I)Ljava/lang/StringBuilder;"), (0, .string 17), (0, u ": "), (0, .methodref 1 19), (0, .nameAndType 20 21), (0, u "toString"), (0, u "()Ljava/lang/String;"), (0, .methodref 23 24), (0, .class_ 25), (0, .nameAndType 5 26), (0, u "java/lang/Exception"), (0, u "(Ljava/lang/String;)V"), (0, .class_ 28), (0, u "quadrille/SyntaxException"), (0, u "serialVersionUID"), (0, u "J"), (3, u "(Ljava/lang/String;IILjava/lang/String;)V")] 4

def k13c0 : Code := { maxStack := 3, maxLocals := 5, code := prog_176_method_1_code, exceptionTable := #[], attributes := #[] }
def k13m0 : Method := { name := "<init>", desc := "(Ljava/lang/String;IILjava/lang/String;)V", sig := { parameters := [(.object "java/lang/String"), .int, .int, (.object "java/lang/String")], returnType := none }, accessFlags := 0, code := some k13c0 }
/-- quadrille/SyntaxException -/
def k13 : Class := { plain "quadrille/SyntaxException" (some 12) with
  accessFlags := 48
  interfaces := #[]
  cf := some (fileOf pool13 27 #[] #[{ accessFlags := 0, nameIndex := 5, descriptorIndex := 34, attributes := #[] }] 48 23 #[] #[{ accessFlags := 26, nameIndex := 29, descriptorIndex := 30, attributes := #[] }])
  fields := #[{ name := "serialVersionUID", type := .long, accessFlags := 26, slot := 0, constantValue := 0 }]
  methods := #[k13m0]
  instanceTypes := #[(.object "java/lang/Object"), (.object "java/lang/String"), (.object "java/lang/Throwable"), (.array (.object "java/lang/StackTraceElement")), .int, (.object "java/util/List")]
  staticTypes := #[.long]
  resolved := Array.replicate 39 none
  statics := none }

def pool14 : Array CpInfo := pool [(1, .class_ 2), (0, u "java/lang/Appendable"), (0, .class_ 4), (0, u "java/lang/Object")] 9

/-- java/lang/Appendable -/
def k14 : Class := { plain "java/lang/Appendable" (some 0) with
  accessFlags := 1537
  interfaces := #[]
  cf := some (fileOf pool14 1 #[] #[] 1537 3 #[] #[])
  fields := #[]
  methods := #[]
  instanceTypes := #[]
  staticTypes := #[]
  resolved := Array.replicate 14 none
  statics := none }

def pool15 : Array CpInfo := pool [(1, .class_ 2), (0, u "java/lang/String"), (0, .methodref 4 5), (0, .class_ 6), (0, .nameAndType 7 8), (0, u "java/lang/Object"), (0, u "<init>"), (0, u "()V"), (1, .class_ 12), (1, u "java/lang/AbstractStringBuilder"), (0, u "EMPTYVALUE"), (0, u "[B"), (0, .fieldref 10 16), (0, .nameAndType 17 14), (0, u "value"), (0, .fieldref 1 19), (0, .nameAndType 20 21), (0, u "COMPACT_STRINGS"), (0, u "Z"), (0, .fieldref 10 23), (0, .nameAndType 24 25), (0, u "coder"), (0, u "B"), (6, .methodref 1 33), (0, .nameAndType 34 35), (0, u "length"), (0, u "()I"), (0, .class_ 37), (0, u "java/lang/Integer"), (1, .integer 2147483647), (0, .methodref 1 41), (0, .nameAndType 24 42), (0, u "()B"), (2, u "append"), (0, u "(Ljava/lang/String;)Ljava/lang/AbstractStringBuilder;"), (1, .class_ 49), (0, u "java/lang/CharSequence"), (19, u "(Ljava/lang/String;)V"), (5, u "maybeLatin1"), (3, .fieldref 10 80), (0, .nameAndType 81 82), (0, u "count"), (0, u "I"), (0, .methodref 10 84), (0, .nameAndType 85 86), (0, u "isLatin1"), (0, u "()Z"), (13, .methodref 10 101), (0, .nameAndType 102 103), (0, u "ensureCapacityInternal"), (0, u "(I)V"), (0, .methodref 10 105), (0, .nameAndType 106 107), (0, u "newCapacity"), (0, u "(I)I"), (0, .methodref 109 110), (0, .class_ 111), (0, .nameAndType 112 113), (0, u "java/util/Arrays"), (0, u "copyOf"), (0, u "([BI)[B"), (0, .methodref 115 116), (0, .class_ 117), (0, .nameAndType 118 119), (0, u "jdk/internal/util/ArraysSupport"), (0, u "newLength"), (0, u "(III)I"), (68, u "getChars"), (19, .methodref 10 209), (0, .nameAndType 210 211), (0, u "putStringAt"), (0, u "(ILjava/lang/String;)V"), (5, u "inflateIfNeededFor"), (2, .nameAndType 221 222), (0, u "getBytes"), (0, u "([BIB)V"), (22, .methodref 36 246), (0, .nameAndType 247 107), (0, u "stringSize"), (0, .methodref 36 249), (0, .nameAndType 188 250), (0, u "(II[B)I"), (146, .methodref 10 398), (0, .nameAndType 217 69), (0, .methodref 1 220), (3, u "()[B"), (40, .class_ 445), (0, u "java/lang/Appendable"), (65, u "(I)Ljava/lang/AbstractStringBuilder;"), (40, u "getValue")] 56

def k15m0 : Method := { name := "<init>", desc := "()V", sig := { parameters := [], returnType := none }, accessFlags := 0, code := none }
def k15c1 : Code := { maxStack := 2, maxLocals := 2, code := jdk_68_method_2_code, exceptionTable := #[], attributes := #[] }
def k15m1 : Method := { name := "<init>", desc := "(I)V", sig := { parameters := [.int], returnType := none }, accessFlags := 0, code := some k15c1 }
def k15c2 : Code := { maxStack := 1, maxLocals := 1, code := jdk_68_method_6_code, exceptionTable := #[], attributes := #[] }
def k15m2 : Method := { name := "length", desc := "()I", sig := { parameters := [], returnType := some .int }, accessFlags := 1, code := some k15c2 }
def k15c3 : Code := { maxStack := 4, maxLocals := 3, code := jdk_68_method_9_code, exceptionTable := #[], attributes := #[] }
def k15m3 : Method := { name := "ensureCapacityInternal", desc := "(I)V", sig := { parameters := [.int], returnType := none }, accessFlags := 2, code := some k15c3 }
def k15c4 : Code := { maxStack := 5, maxLocals := 6, code := jdk_68_method_10_code, exceptionTable := #[], attributes := #[] }
def k15m4 : Method := { name := "newCapacity", desc := "(I)I", sig := { parameters := [.int], returnType := some .int }, accessFlags := 2, code := some k15c4 }
def k15c5 : Code := { maxStack := 3, maxLocals := 3, code := jdk_68_method_22_code, exceptionTable := #[], attributes := #[] }
def k15m5 : Method := { name := "append", desc := "(Ljava/lang/String;)Ljava/lang/AbstractStringBuilder;", sig := { parameters := [(.object "java/lang/String")], returnType := some (.object "java/lang/AbstractStringBuilder") }, accessFlags := 1, code := some k15c5 }
def k15c6 : Code := { maxStack := 4, maxLocals := 4, code := jdk_68_method_32_code, exceptionTable := #[], attributes := #[] }
def k15m6 : Method := { name := "append", desc := "(I)Ljava/lang/AbstractStringBuilder;", sig := { parameters := [.int], returnType := some (.object "java/lang/AbstractStringBuilder") }, accessFlags := 1, code := some k15c6 }
def k15c7 : Code := { maxStack := 1, maxLocals := 1, code := jdk_68_method_64_code, exceptionTable := #[], attributes := #[] }
def k15m7 : Method := { name := "getValue", desc := "()[B", sig := { parameters := [], returnType := some (.array .byte) }, accessFlags := 16, code := some k15c7 }
def k15c8 : Code := { maxStack := 1, maxLocals := 1, code := jdk_68_method_68_code, exceptionTable := #[], attributes := #[] }
def k15m8 : Method := { name := "isLatin1", desc := "()Z", sig := { parameters := [], returnType := some .boolean }, accessFlags := 16, code := some k15c8 }
def k15c9 : Code := { maxStack := 2, maxLocals := 2, code := jdk_68_method_71_code, exceptionTable := #[], attributes := #[] }
def k15m9 : Method := { name := "inflateIfNeededFor", desc := "(Ljava/lang/String;)V", sig := { parameters := [(.object "java/lang/String")], returnType := none }, accessFlags := 2, code := some k15c9 }
def k15c10 : Code := { maxStack := 4, maxLocals := 3, code := jdk_68_method_73_code, exceptionTable := #[], attributes := #[] }
def k15m10 : Method := { name := "putStringAt", desc := "(ILjava/lang/String;)V", sig := { parameters := [.int, (.object "java/lang/String")], returnType := none }, accessFlags := 2, code := some k15c10 }
/-- java/lang/AbstractStringBuilder -/
def k15 : Class := { plain "java/lang/AbstractStringBuilder" (some 0) with
  accessFlags := 1056
  interfaces := #[14, 4]
  cf := some (fileOf pool15 10 #[] #[{ accessFlags := 0, nameIndex := 7, descriptorIndex := 8, attributes := #[] }, { accessFlags := 0, nameIndex := 7, descriptorIndex := 103, attributes := #[] }, { accessFlags := 1, nameIndex := 34, descriptorIndex := 35, attributes := #[] }, { accessFlags := 2, nameIndex := 102, descriptorIndex := 103, attributes := #[] }, { accessFlags := 2, nameIndex := 106, descriptorIndex := 107, attributes := #[] }, { accessFlags := 1, nameIndex := 45, descriptorIndex := 46, attributes := #[] }, { accessFlags := 1, nameIndex := 45, descriptorIndex := 511, attributes := #[] }, { accessFlags := 16, nameIndex := 552, descriptorIndex := 403, attributes := #[] }, { accessFlags := 16, nameIndex := 85, descriptorIndex := 86, attributes := #[] }, { accessFlags := 2, nameIndex := 217, descriptorIndex := 69, attributes := #[] }, { accessFlags := 2, nameIndex := 210, descriptorIndex := 211, attributes := #[] }] 1056 4 #[444, 48] #[{ accessFlags := 0, nameIndex := 17, descriptorIndex := 14, attributes := #[] }, { accessFlags := 0, nameIndex := 24, descriptorIndex := 25, attributes := #[] }, { accessFlags := 0, nameIndex := 75, descriptorIndex := 21, attributes := #[] }, { accessFlags := 0, nameIndex := 81, descriptorIndex := 82, attributes := #[] }, { accessFlags := 26, nameIndex := 13, descriptorIndex := 14, attributes := #[] }])
  fields := #[{ name := "value", type := (.array .byte), accessFlags := 0, slot := 0, constantValue := 0 }, { name := "coder", type := .byte, accessFlags := 0, slot := 1, constantValue := 0 }, { name := "maybeLatin1", type := .boolean, accessFlags := 0, slot := 2, constantValue := 0 }, { name := "count", type := .int, accessFlags := 0, slot := 3, constantValue := 0 }, { name := "EMPTYVALUE", type := (.array .byte), accessFlags := 26, slot := 0, constantValue := 0 }]
  methods := #[k15m0, k15m1, k15m2, k15m3, k15m4, k15m5, k15m6, k15m7, k15m8, k15m9, k15m10]
  instanceTypes := #[(.array .byte), .byte, .boolean, .int]
  staticTypes := #[(.array .byte)]
  resolved := Array.replicate 609 none
  statics := none }

def pool16 : Array CpInfo := pool [(1, .methodref 2 3), (0, .class_ 4), (0, .nameAndType 5 6), (0, u "java/lang/AbstractStringBuilder"), (0, u "<init>"), (0, u "(I)V"), (11, .class_ 20), (1, u "java/lang/String"), (3, .class_ 26), (1, u "java/lang/StringBuilder"), (0, u "append"), (0, u "(Ljava/lang/String;)Ljava/lang/StringBuilder;"), (0, .methodref 2 30), (0, .nameAndType 27 31), (0, u "(Ljava/lang/String;)Ljava/lang/AbstractStringBuilder;"), (21, .methodref 2 54), (0, .nameAndType 27 55), (0, u "(I)Ljava/lang/AbstractStringBuilder;"), (81, .methodref 18 138), (0, .nameAndType 5 139), (0, u "(Ljava/lang/StringBuilder;)V"), (5, u "()V"), (10, u "()I"), (111, u "(I)Ljava/lang/StringBuilder;"), (74, .methodref 2 344), (0, .nameAndType 345 156), (0, u "length"), (3, .class_ 350), (0, u "java/lang/Appendable"), (0, .class_ 352), (0, u "java/io/Serializable"), (0, .class_ 354), (0, u "java/lang/Comparable"), (0, .class_ 356), (0, u "java/lang/CharSequence"), (0, u "serialVersionUID"), (0, u "J"), (40, u "toString"), (0, u "()Ljava/lang/String;")] 21

def k16c0 : Code := { maxStack := 2, maxLocals := 1, code := jdk_67_method_1_code, exceptionTable := #[], attributes := #[] }
def k16m0 : Method := { name := "<init>", desc := "()V", sig := { parameters := [], returnType := none }, accessFlags := 1, code := some k16c0 }
def k16c1 : Code := { maxStack := 2, maxLocals := 2, code := jdk_67_method_7_code, exceptionTable := #[], attributes := #[] }
def k16m1 : Method := { name := "append", desc := "(Ljava/lang/String;)Ljava/lang/StringBuilder;", sig := { parameters := [(.object "java/lang/String")], returnType := some (.object "java/lang/StringBuilder") }, accessFlags := 1, code := some k16c1 }
def k16c2 : Code := { maxStack := 2, maxLocals := 2, code := jdk_67_method_15_code, exceptionTable := #[], attributes := #[] }
def k16m2 : Method := { name := "append", desc := "(I)Ljava/lang/StringBuilder;", sig := { parameters := [.int], returnType := some (.object "java/lang/StringBuilder") }, accessFlags := 1, code := some k16c2 }
def k16c3 : Code := { maxStack := 3, maxLocals := 1, code := jdk_67_method_42_code, exceptionTable := #[], attributes := #[] }
def k16m3 : Method := { name := "toString", desc := "()Ljava/lang/String;", sig := { parameters := [], returnType := some (.object "java/lang/String") }, accessFlags := 1, code := some k16c3 }
def k16c4 : Code := { maxStack := 1, maxLocals := 1, code := jdk_67_method_93_code, exceptionTable := #[], attributes := #[] }
def k16m4 : Method := { name := "length", desc := "()I", sig := { parameters := [], returnType := some .int }, accessFlags := 4161, code := some k16c4 }
/-- java/lang/StringBuilder -/
def k16 : Class := { plain "java/lang/StringBuilder" (some 15) with
  accessFlags := 49
  interfaces := #[14, 2, 3, 4]
  cf := some (fileOf pool16 24 #[] #[{ accessFlags := 1, nameIndex := 5, descriptorIndex := 145, attributes := #[] }, { accessFlags := 1, nameIndex := 27, descriptorIndex := 28, attributes := #[] }, { accessFlags := 1, nameIndex := 27, descriptorIndex := 268, attributes := #[] }, { accessFlags := 1, nameIndex := 399, descriptorIndex := 400, attributes := #[] }, { accessFlags := 4161, nameIndex := 345, descriptorIndex := 156, attributes := #[] }] 49 2 #[349, 351, 353, 355] #[{ accessFlags := 24, nameIndex := 357, descriptorIndex := 358, attributes := #[] }])
  fields := #[{ name := "serialVersionUID", type := .long, accessFlags := 24, slot := 0, constantValue := 0 }]
  methods := #[k16m0, k16m1, k16m2, k16m3, k16m4]
  instanceTypes := #[(.array .byte), .byte, .boolean, .int]
  staticTypes := #[.long]
  resolved := Array.replicate 422 none
  statics := none }

def pool17 : Array CpInfo := pool [(2, .class_ 4), (1, u "java/lang/Object"), (0, u "<init>"), (0, u "()V"), (1, .class_ 10), (1, u "java/lang/System"), (0, u "allowSecurityManager"), (0, u "I"), (16, u "cons"), (0, u "Ljava/io/Console;"), (77, .class_ 110), (1, u "java/lang/System$CallersHolder"), (43, u "initialErrStream"), (0, u "Ljava/io/PrintStream;"), (19, u "security"), (0, u "Ljava/lang/SecurityManager;"), (31, .class_ 209), (0, u "java/lang/System$1"), (7, u "props"), (0, u "Ljava/util/Properties;"), (2, u "lineSeparator"), (0, u "Ljava/lang/String;"), (96, .class_ 321), (1, u "java/lang/System$LoggerFinder"), (5, .class_ 328), (0, u "java/lang/System$Logger"), (67, u "err"), (2, u "out"), (91, u "notSupportedJnuEncoding"), (15, u "in"), (17, u "initialIn"), (0, u "Ljava/io/InputStream;"), (35, u "bootLayer"), (0, u "Ljava/lang/ModuleLayer;"), (99, .class_ 664), (0, u "java/lang/System$2"), (9, u "NEVER"), (2, u "MAYBE"), (49, u "arraycopy"), (0, u "(Ljava/lang/Object;ILjava/lang/Object;II)V"), (72, .class_ 802), (0, u "java/lang/System$Logger$Level")] 31

def k17m0 : Method := { name := "<init>", desc := "()V", sig := { parameters := [], returnType := none }, accessFlags := 2, code := none }
def k17m1 : Method := { name := "arraycopy", desc := "(Ljava/lang/Object;ILjava/lang/Object;II)V", sig := { parameters := [(.object "java/lang/Object"), .int, (.object "java/lang/Object"), .int, .int], returnType := none }, accessFlags := 265, code := none }
/-- java/lang/System -/
def k17 : Class := { plain "java/lang/System" (some 0) with
  accessFlags := 49
  interfaces := #[]
  cf := some (fileOf pool17 8 #[.nestMembers #[319, 327, 801, 108, 663, 208]] #[{ accessFlags := 2, nameIndex := 5, descriptorIndex := 6, attributes := #[] }, { accessFlags := 265, nameIndex := 727, descriptorIndex := 728, attributes := #[] }] 49 2 #[] #[{ accessFlags := 25, nameIndex := 507, descriptorIndex := 526, attributes := #[] }, { accessFlags := 25, nameIndex := 399, descriptorIndex := 155, attributes := #[] }, { accessFlags := 25, nameIndex := 396, descriptorIndex := 155, attributes := #[] }, { accessFlags := 10, nameIndex := 525, descriptorIndex := 526, attributes := #[] }, { accessFlags := 26, nameIndex := 674, descriptorIndex := 12, attributes := #[] }, { accessFlags := 26, nameIndex := 677, descriptorIndex := 12, attributes := #[] }, { accessFlags := 10, nameIndex := 11, descriptorIndex := 12, attributes := #[] }, { accessFlags := 74, nameIndex := 175, descriptorIndex := 176, attributes := #[] }, { accessFlags := 10, nameIndex := 491, descriptorIndex := 222, attributes := #[] }, { accessFlags := 74, nameIndex := 29, descriptorIndex := 30, attributes := #[] }, { accessFlags := 74, nameIndex := 154, descriptorIndex := 155, attributes := #[] }, { accessFlags := 10, nameIndex := 217, descriptorIndex := 218, attributes := #[] }, { accessFlags := 10, nameIndex := 221, descriptorIndex := 222, attributes := #[] }, { accessFlags := 8, nameIndex := 562, descriptorIndex := 563, attributes := #[] }])
  fields := #[{ name := "in", type := (.object "java/io/InputStream"), accessFlags := 25, slot := 0, constantValue := 0 }, { name := "out", type := (.object "java/io/PrintStream"), accessFlags := 25, slot := 1, constantValue := 0 }, { name := "err", type := (.object "java/io/PrintStream"), accessFlags := 25, slot := 2, constantValue := 0 }, { name := "initialIn", type := (.object "java/io/InputStream"), accessFlags := 10, slot := 3, constantValue := 0 }, { name := "NEVER", type := .int, accessFlags := 26, slot := 4, constantValue := 0 }, { name := "MAYBE", type := .int, accessFlags := 26, slot := 5, constantValue := 0 }, { name := "allowSecurityManager", type := .int, accessFlags := 10, slot := 6, constantValue := 0 }, { name := "security", type := (.object "java/lang/SecurityManager"), accessFlags := 74, slot := 7, constantValue := 0 }, { name := "notSupportedJnuEncoding", type := (.object "java/lang/String"), accessFlags := 10, slot := 8, constantValue := 0 }, { name := "cons", type := (.object "java/io/Console"), accessFlags := 74, slot := 9, constantValue := 0 }, { name := "initialErrStream", type := (.object "java/io/PrintStream"), accessFlags := 74, slot := 10, constantValue := 0 }, { name := "props", type := (.object "java/util/Properties"), accessFlags := 10, slot := 11, constantValue := 0 }, { name := "lineSeparator", type := (.object "java/lang/String"), accessFlags := 10, slot := 12, constantValue := 0 }, { name := "bootLayer", type := (.object "java/lang/ModuleLayer"), accessFlags := 8, slot := 13, constantValue := 0 }]
  methods := #[k17m0, k17m1]
  instanceTypes := #[]
  staticTypes := #[(.object "java/io/InputStream"), (.object "java/io/PrintStream"), (.object "java/io/PrintStream"), (.object "java/io/InputStream"), .int, .int, .int, (.object "java/lang/SecurityManager"), (.object "java/lang/String"), (.object "java/io/Console"), (.object "java/io/PrintStream"), (.object "java/util/Properties"), (.object "java/lang/String"), (.object "java/lang/ModuleLayer")]
  resolved := Array.replicate 834 none
  statics := none }

def pool18 : Array CpInfo := pool [(2, .class_ 4), (1, u "java/lang/Object"), (0, u "<init>"), (0, u "()V"), (1, .class_ 10), (1, u "java/lang/Number"), (2, .class_ 14), (0, u "java/io/Serializable"), (0, u "serialVersionUID"), (0, u "J")] 20

def k18m0 : Method := { name := "<init>", desc := "()V", sig := { parameters := [], returnType := none }, accessFlags := 1, code := none }
/-- java/lang/Number -/
def k18 : Class := { plain "java/lang/Number" (some 0) with
  accessFlags := 1057
  interfaces := #[2]
  cf := some (fileOf pool18 8 #[] #[{ accessFlags := 1, nameIndex := 5, descriptorIndex := 6, attributes := #[] }] 1057 2 #[13] #[{ accessFlags := 26, nameIndex := 15, descriptorIndex := 16, attributes := #[] }])
  fields := #[{ name := "serialVersionUID", type := .long, accessFlags := 26, slot := 0, constantValue := 0 }]
  methods := #[k18m0]
  instanceTypes := #[]
  staticTypes := #[.long]
  resolved := Array.replicate 37 none
  statics := none }

def pool19 : Array CpInfo := pool [(1, .class_ 2), (0, u "java/lang/Integer"), (16, u "digits"), (0, u "[C"), (33, u "(I)I"), (19, u "stringSize"), (2, u "getChars"), (0, u "(II[B)I"), (4, .fieldref 1 84), (0, .nameAndType 85 86), (0, u "DigitOnes"), (0, u "[B"), (0, .fieldref 1 88), (0, .nameAndType 89 86), (0, u "DigitTens"), (99, .class_ 190), (0, u "java/lang/Integer$IntegerCache"), (3, u "I"), (8, .class_ 204), (0, u "java/lang/Number"), (2, u "value"), (94, u "TYPE"), (0, u "Ljava/lang/Class;"), (0, .class_ 305), (0, u "java/lang/Comparable"), (0, .class_ 307), (0, u "java/lang/constant/Constable"), (0, .class_ 309), (0, u "java/lang/constant/ConstantDesc"), (0, u "MIN_VALUE"), (1, u "MAX_VALUE"), (3, u "SIZE"), (1, u "BYTES"), (1, u "serialVersionUID"), (0, u "J")] 131

def k19c0 : Code := { maxStack := 4, maxLocals := 7, code := jdk_33_method_12_code, exceptionTable := #[], attributes := #[] }
def k19m0 : Method := { name := "getChars", desc := "(II[B)I", sig := { parameters := [.int, .int, (.array .byte)], returnType := some .int }, accessFlags := 8, code := some k19c0 }
def k19c1 : Code := { maxStack := 2, maxLocals := 4, code := jdk_33_method_13_code, exceptionTable := #[], attributes := #[] }
def k19m1 : Method := { name := "stringSize", desc := "(I)I", sig := { parameters := [.int], returnType := some .int }, accessFlags := 8, code := some k19c1 }
/-- java/lang/Integer -/
def k19 : Class := { plain "java/lang/Integer" (some 18) with
  accessFlags := 49
  interfaces := #[3, 5, 6]
  cf := some (fileOf pool19 1 #[.nestMembers #[189]] #[{ accessFlags := 8, nameIndex := 77, descriptorIndex := 78, attributes := #[] }, { accessFlags := 8, nameIndex := 74, descriptorIndex := 54, attributes := #[] }] 49 203 #[304, 306, 308] #[{ accessFlags := 25, nameIndex := 310, descriptorIndex := 194, attributes := #[] }, { accessFlags := 25, nameIndex := 312, descriptorIndex := 194, attributes := #[] }, { accessFlags := 25, nameIndex := 302, descriptorIndex := 303, attributes := #[] }, { accessFlags := 24, nameIndex := 19, descriptorIndex := 20, attributes := #[] }, { accessFlags := 24, nameIndex := 89, descriptorIndex := 86, attributes := #[] }, { accessFlags := 24, nameIndex := 85, descriptorIndex := 86, attributes := #[] }, { accessFlags := 18, nameIndex := 207, descriptorIndex := 194, attributes := #[] }, { accessFlags := 25, nameIndex := 316, descriptorIndex := 194, attributes := #[] }, { accessFlags := 25, nameIndex := 318, descriptorIndex := 194, attributes := #[] }, { accessFlags := 26, nameIndex := 320, descriptorIndex := 321, attributes := #[] }])
  fields := #[{ name := "MIN_VALUE", type := .int, accessFlags := 25, slot := 0, constantValue := 0 }, { name := "MAX_VALUE", type := .int, accessFlags := 25, slot := 1, constantValue := 0 }, { name := "TYPE", type := (.object "java/lang/Class"), accessFlags := 25, slot := 2, constantValue := 0 }, { name := "digits", type := (.array .char), accessFlags := 24, slot := 3, constantValue := 0 }, { name := "DigitTens", type := (.array .byte), accessFlags := 24, slot := 4, constantValue := 0 }, { name := "DigitOnes", type := (.array .byte), accessFlags := 24, slot := 5, constantValue := 0 }, { name := "value", type := .int, accessFlags := 18, slot := 0, constantValue := 0 }, { name := "SIZE", type := .int, accessFlags := 25, slot := 6, constantValue := 0 }, { name := "BYTES", type := .int, accessFlags := 25, slot := 7, constantValue := 0 }, { name := "serialVersionUID", type := .long, accessFlags := 26, slot := 8, constantValue := 0 }]
  methods := #[k19m0, k19m1]
  instanceTypes := #[.int]
  staticTypes := #[.int, .int, (.object "java/lang/Class"), (.array .char), (.array .byte), (.array .byte), .int, .int, .long]
  resolved := Array.replicate 453 none
  statics := some 2 }

def pool20 : Array CpInfo := pool [(2, .class_ 4), (1, u "java/lang/Object"), (0, u "<init>"), (0, u "()V"), (7, .class_ 16), (1, u "java/util/Arrays"), (57, .class_ 76), (1, u "java/util/Arrays$NaturalOrder"), (32, u "()Ljava/lang/Object;"), (3, .class_ 115), (1, u "java/util/Arrays$LegacyMergeSort"), (1, u "Z"), (10, .nameAndType 129 109), (0, u "clone"), (9, u "copyOfRange"), (10, .methodref 151 152), (0, .class_ 153), (0, .nameAndType 154 155), (0, u "java/lang/System"), (0, u "arraycopy"), (0, u "(Ljava/lang/Object;ILjava/lang/Object;II)V"), (146, u "copyOf"), (1, .methodref 305 306), (0, .class_ 307), (0, .nameAndType 308 309), (0, u "java/lang/Math"), (0, u "min"), (0, u "(II)I"), (0, .methodref 311 128), (0, .class_ 312), (0, u "[B"), (26, .methodref 14 340), (0, .nameAndType 341 342), (0, u "copyOfRangeByte"), (0, u "([BII)[B"), (0, .methodref 14 344), (0, .nameAndType 345 346), (0, u "checkLength"), (0, u "(II)V"), (28, .class_ 376), (0, u "java/util/Arrays$ArrayList"), (68, u "$assertionsDisabled"), (269, u "MIN_ARRAY_SORT_GRAN"), (0, u "I"), (2, u "INSERTIONSORT_THRESHOLD"), (149, u "([BI)[B"), (105, .class_ 976), (0, u "java/util/Arrays$ArrayItr")] 52

def k20m0 : Method := { name := "<init>", desc := "()V", sig := { parameters := [], returnType := none }, accessFlags := 2, code := none }
def k20c1 : Code := { maxStack := 6, maxLocals := 3, code := jdk_65_method_121_code, exceptionTable := #[], attributes := #[] }
def k20m1 : Method := { name := "copyOf", desc := "([BI)[B", sig := { parameters := [(.array .byte), .int], returnType := some (.array .byte) }, accessFlags := 9, code := some k20c1 }
def k20c2 : Code := { maxStack := 4, maxLocals := 2, code := jdk_65_method_131_code, exceptionTable := #[], attributes := #[] }
def k20m2 : Method := { name := "checkLength", desc := "(II)V", sig := { parameters := [.int, .int], returnType := none }, accessFlags := 10, code := some k20c2 }
def k20c3 : Code := { maxStack := 3, maxLocals := 3, code := jdk_65_method_132_code, exceptionTable := #[], attributes := #[] }
def k20m3 : Method := { name := "copyOfRange", desc := "([BII)[B", sig := { parameters := [(.array .byte), .int, .int], returnType := some (.array .byte) }, accessFlags := 9, code := some k20c3 }
def k20c4 : Code := { maxStack := 6, maxLocals := 5, code := jdk_65_method_133_code, exceptionTable := #[], attributes := #[] }
def k20m4 : Method := { name := "copyOfRangeByte", desc := "([BII)[B", sig := { parameters := [(.array .byte), .int, .int], returnType := some (.array .byte) }, accessFlags := 10, code := some k20c4 }
/-- java/util/Arrays -/
def k20 : Class := { plain "java/util/Arrays" (some 0) with
  accessFlags := 49
  interfaces := #[]
  cf := some (fileOf pool20 14 #[.nestMembers #[975, 375, 113, 74]] #[{ accessFlags := 2, nameIndex := 5, descriptorIndex := 6, attributes := #[] }, { accessFlags := 9, nameIndex := 302, descriptorIndex := 869, attributes := #[] }, { accessFlags := 10, nameIndex := 345, descriptorIndex := 346, attributes := #[] }, { accessFlags := 9, nameIndex := 139, descriptorIndex := 342, attributes := #[] }, { accessFlags := 10, nameIndex := 341, descriptorIndex := 342, attributes := #[] }] 49 2 #[] #[{ accessFlags := 26, nameIndex := 715, descriptorIndex := 716, attributes := #[] }, { accessFlags := 26, nameIndex := 719, descriptorIndex := 716, attributes := #[] }, { accessFlags := 4120, nameIndex := 445, descriptorIndex := 117, attributes := #[] }])
  fields := #[{ name := "MIN_ARRAY_SORT_GRAN", type := .int, accessFlags := 26, slot := 0, constantValue := 0 }, { name := "INSERTIONSORT_THRESHOLD", type := .int, accessFlags := 26, slot := 1, constantValue := 0 }, { name := "$assertionsDisabled", type := .boolean, accessFlags := 4120, slot := 2, constantValue := 0 }]
  methods := #[k20m0, k20m1, k20m2, k20m3, k20m4]
  instanceTypes := #[]
  staticTypes := #[.int, .int, .boolean]
  resolved := Array.replicate 1029 none
  statics := none }

def pool21 : Array CpInfo := pool [(1, .class_ 2), (0, u "java/lang/Math"), (1, .class_ 6), (1, u "java/lang/Object"), (0, u "<init>"), (0, u "()V"), (89, .class_ 100), (1, u "java/lang/Math$RandomNumberGeneratorHolder"), (71, u "negativeZeroFloatBits"), (0, u "J"), (2, u "negativeZeroDoubleBits"), (21, u "max"), (2, u "min"), (43, u "$assertionsDisabled"), (0, u "Z"), (88, u "(II)I"), (2, u "twoToTheDoubleScaleDown"), (0, u "D"), (4, u "twoToTheDoubleScaleUp"), (9, u "E"), (3, u "PI"), (2, u "TAU"), (2, u "DEGREES_TO_RADIANS"), (0, u "RADIANS_TO_DEGREES")] 94

def k21m0 : Method := { name := "<init>", desc := "()V", sig := { parameters := [], returnType := none }, accessFlags := 2, code := none }
def k21c1 : Code := { maxStack := 2, maxLocals := 2, code := jdk_29_method_65_code, exceptionTable := #[], attributes := #[] }
def k21m1 : Method := { name := "max", desc := "(II)I", sig := { parameters := [.int, .int], returnType := some .int }, accessFlags := 9, code := some k21c1 }
def k21c2 : Code := { maxStack := 2, maxLocals := 2, code := jdk_29_method_69_code, exceptionTable := #[], attributes := #[] }
def k21m2 : Method := { name := "min", desc := "(II)I", sig := { parameters := [.int, .int], returnType := some .int }, accessFlags := 9, code := some k21c2 }
/-- java/lang/Math -/
def k21 : Class := { plain "java/lang/Math" (some 0) with
  accessFlags := 49
  interfaces := #[]
  cf := some (fileOf pool21 1 #[.nestMembers #[98]] #[{ accessFlags := 2, nameIndex := 7, descriptorIndex := 8, attributes := #[] }, { accessFlags := 9, nameIndex := 198, descriptorIndex := 335, attributes := #[] }, { accessFlags := 9, nameIndex := 201, descriptorIndex := 335, attributes := #[] }] 49 4 #[] #[{ accessFlags := 25, nameIndex := 354, descriptorIndex := 339, attributes := #[] }, { accessFlags := 25, nameIndex := 358, descriptorIndex := 339, attributes := #[] }, { accessFlags := 25, nameIndex := 361, descriptorIndex := 339, attributes := #[] }, { accessFlags := 26, nameIndex := 364, descriptorIndex := 339, attributes := #[] }, { accessFlags := 26, nameIndex := 365, descriptorIndex := 339, attributes := #[] }, { accessFlags := 26, nameIndex := 172, descriptorIndex := 173, attributes := #[] }, { accessFlags := 26, nameIndex := 176, descriptorIndex := 173, attributes := #[] }, { accessFlags := 8, nameIndex := 344, descriptorIndex := 339, attributes := #[] }, { accessFlags := 8, nameIndex := 338, descriptorIndex := 339, attributes := #[] }, { accessFlags := 4120, nameIndex := 245, descriptorIndex := 246, attributes := #[] }])
  fields := #[{ name := "E", type := .double, accessFlags := 25, slot := 0, constantValue := 0 }, { name := "PI", type := .double, accessFlags := 25, slot := 1, constantValue := 0 }, { name := "TAU", type := .double, accessFlags := 25, slot := 2, constantValue := 0 }, { name := "DEGREES_TO_RADIANS", type := .double, accessFlags := 26, slot := 3, constantValue := 0 }, { name := "RADIANS_TO_DEGREES", type := .double, accessFlags := 26, slot := 4, constantValue := 0 }, { name := "negativeZeroFloatBits", type := .long, accessFlags := 26, slot := 5, constantValue := 0 }, { name := "negativeZeroDoubleBits", type := .long, accessFlags := 26, slot := 6, constantValue := 0 }, { name := "twoToTheDoubleScaleUp", type := .double, accessFlags := 8, slot := 7, constantValue := 0 }, { name := "twoToTheDoubleScaleDown", type := .double, accessFlags := 8, slot := 8, constantValue := 0 }, { name := "$assertionsDisabled", type := .boolean, accessFlags := 4120, slot := 9, constantValue := 0 }]
  methods := #[k21m0, k21m1, k21m2]
  instanceTypes := #[]
  staticTypes := #[.double, .double, .double, .double, .double, .long, .long, .double, .double, .boolean]
  resolved := Array.replicate 460 none
  statics := none }

def pool22 : Array CpInfo := pool [(4, .class_ 6), (1, u "java/lang/Object"), (0, u "<init>"), (0, u "()V"), (5, .class_ 16), (1, u "java/lang/StringLatin1"), (104, u "$assertionsDisabled"), (0, u "Z"), (98, .class_ 223), (1, u "java/lang/StringLatin1$LinesSpliterator"), (57, u "equals"), (0, u "([B[B)Z"), (107, .class_ 391), (0, u "java/lang/StringLatin1$CharsSpliterator")] 3

def k22m0 : Method := { name := "<init>", desc := "()V", sig := { parameters := [], returnType := none }, accessFlags := 0, code := none }
def k22c1 : Code := { maxStack := 3, maxLocals := 3, code := jdk_43_method_13_code, exceptionTable := #[], attributes := #[] }
def k22m1 : Method := { name := "equals", desc := "([B[B)Z", sig := { parameters := [(.array .byte), (.array .byte)], returnType := some .boolean }, accessFlags := 9, code := some k22c1 }
/-- java/lang/StringLatin1 -/
def k22 : Class := { plain "java/lang/StringLatin1" (some 0) with
  accessFlags := 48
  interfaces := #[]
  cf := some (fileOf pool22 14 #[.nestMembers #[390, 221]] #[{ accessFlags := 0, nameIndex := 7, descriptorIndex := 8, attributes := #[] }, { accessFlags := 9, nameIndex := 281, descriptorIndex := 282, attributes := #[] }] 48 4 #[] #[{ accessFlags := 4120, nameIndex := 121, descriptorIndex := 122, attributes := #[] }])
  fields := #[{ name := "$assertionsDisabled", type := .boolean, accessFlags := 4120, slot := 0, constantValue := 0 }]
  methods := #[k22m0, k22m1]
  instanceTypes := #[]
  staticTypes := #[.boolean]
  resolved := Array.replicate 395 none
  statics := none }

def pool23 : Array CpInfo := pool [(9, u "<init>"), (6, .class_ 18), (1, u "java/lang/Object"), (0, u "()V"), (1, .class_ 23), (1, u "jdk/internal/util/ArraysSupport"), (0, u "LOG2_ARRAY_LONG_INDEX_SCALE"), (0, u "I"), (2, u "U"), (0, u "Ljdk/internal/misc/Unsafe;"), (8, u "BIG_ENDIAN"), (0, u "Z"), (8, u "LOG2_BYTE_BIT_SIZE"), (4, u "LOG2_ARRAY_INT_INDEX_SCALE"), (54, u "JLA"), (0, u "Ljdk/internal/access/JavaLangAccess;"), (11, u "LOG2_ARRAY_BOOLEAN_INDEX_SCALE"), (9, u "LOG2_ARRAY_BYTE_INDEX_SCALE"), (5, u "LOG2_ARRAY_CHAR_INDEX_SCALE"), (5, u "LOG2_ARRAY_SHORT_INDEX_SCALE"), (5, u "mismatch"), (12, u "LOG2_ARRAY_FLOAT_INDEX_SCALE"), (24, u "LOG2_ARRAY_DOUBLE_INDEX_SCALE"), (6, .methodref 195 196), (0, .class_ 197), (0, .nameAndType 198 199), (0, u "java/lang/Math"), (0, u "max"), (0, u "(II)I"), (0, .integer 2147483639), (76, u "T_BOOLEAN"), (2, u "T_CHAR"), (1, u "T_FLOAT"), (1, u "T_DOUBLE"), (1, u "T_BYTE"), (1, u "T_SHORT"), (1, u "T_INT"), (1, u "T_LONG"), (1, u "SOFT_MAX_ARRAY_LENGTH"), (42, u "([BI[BII)I"), (13, u "newLength"), (0, u "(III)I")] 25

def k23m0 : Method := { name := "<init>", desc := "()V", sig := { parameters := [], returnType := none }, accessFlags := 2, code := none }
def k23c1 : Code := { maxStack := 8, maxLocals := 8, code := jdk_48_method_14_code, exceptionTable := #[], attributes := #[] }
def k23m1 : Method := { name := "mismatch", desc := "([BI[BII)I", sig := { parameters := [(.array .byte), .int, (.array .byte), .int, .int], returnType := some .int }, accessFlags := 9, code := some k23c1 }
def k23c2 : Code := { maxStack := 3, maxLocals := 4, code := jdk_48_method_27_code, exceptionTable := #[], attributes := #[] }
def k23m2 : Method := { name := "newLength", desc := "(III)I", sig := { parameters := [.int, .int, .int], returnType := some .int }, accessFlags := 9, code := some k23c2 }
/-- jdk/internal/util/ArraysSupport -/
def k23 : Class := { plain "jdk/internal/util/ArraysSupport" (some 0) with
  accessFlags := 33
  interfaces := #[]
  cf := some (fileOf pool23 21 #[] #[{ accessFlags := 2, nameIndex := 9, descriptorIndex := 19, attributes := #[] }, { accessFlags := 9, nameIndex := 149, descriptorIndex := 337, attributes := #[] }, { accessFlags := 9, nameIndex := 351, descriptorIndex := 352, attributes := #[] }] 33 16 #[] #[{ accessFlags := 24, nameIndex := 28, descriptorIndex := 29, attributes := #[] }, { accessFlags := 26, nameIndex := 38, descriptorIndex := 39, attributes := #[] }, { accessFlags := 25, nameIndex := 121, descriptorIndex := 25, attributes := #[] }, { accessFlags := 25, nameIndex := 131, descriptorIndex := 25, attributes := #[] }, { accessFlags := 25, nameIndex := 137, descriptorIndex := 25, attributes := #[] }, { accessFlags := 25, nameIndex := 143, descriptorIndex := 25, attributes := #[] }, { accessFlags := 25, nameIndex := 53, descriptorIndex := 25, attributes := #[] }, { accessFlags := 25, nameIndex := 24, descriptorIndex := 25, attributes := #[] }, { accessFlags := 25, nameIndex := 162, descriptorIndex := 25, attributes := #[] }, { accessFlags := 25, nameIndex := 187, descriptorIndex := 25, attributes := #[] }, { accessFlags := 26, nameIndex := 48, descriptorIndex := 25, attributes := #[] }, { accessFlags := 25, nameIndex := 277, descriptorIndex := 25, attributes := #[] }, { accessFlags := 25, nameIndex := 280, descriptorIndex := 25, attributes := #[] }, { accessFlags := 25, nameIndex := 282, descriptorIndex := 25, attributes := #[] }, { accessFlags := 25, nameIndex := 284, descriptorIndex := 25, attributes := #[] }, { accessFlags := 25, nameIndex := 286, descriptorIndex := 25, attributes := #[] }, { accessFlags := 25, nameIndex := 288, descriptorIndex := 25, attributes := #[] }, { accessFlags := 25, nameIndex := 290, descriptorIndex := 25, attributes := #[] }, { accessFlags := 25, nameIndex := 292, descriptorIndex := 25, attributes := #[] }, { accessFlags := 26, nameIndex := 108, descriptorIndex := 109, attributes := #[] }, { accessFlags := 25, nameIndex := 294, descriptorIndex := 25, attributes := #[] }])
  fields := #[{ name := "U", type := (.object "jdk/internal/misc/Unsafe"), accessFlags := 24, slot := 0, constantValue := 0 }, { name := "BIG_ENDIAN", type := .boolean, accessFlags := 26, slot := 1, constantValue := 0 }, { name := "LOG2_ARRAY_BOOLEAN_INDEX_SCALE", type := .int, accessFlags := 25, slot := 2, constantValue := 0 }, { name := "LOG2_ARRAY_BYTE_INDEX_SCALE", type := .int, accessFlags := 25, slot := 3, constantValue := 0 }, { name := "LOG2_ARRAY_CHAR_INDEX_SCALE", type := .int, accessFlags := 25, slot := 4, constantValue := 0 }, { name := "LOG2_ARRAY_SHORT_INDEX_SCALE", type := .int, accessFlags := 25, slot := 5, constantValue := 0 }, { name := "LOG2_ARRAY_INT_INDEX_SCALE", type := .int, accessFlags := 25, slot := 6, constantValue := 0 }, { name := "LOG2_ARRAY_LONG_INDEX_SCALE", type := .int, accessFlags := 25, slot := 7, constantValue := 0 }, { name := "LOG2_ARRAY_FLOAT_INDEX_SCALE", type := .int, accessFlags := 25, slot := 8, constantValue := 0 }, { name := "LOG2_ARRAY_DOUBLE_INDEX_SCALE", type := .int, accessFlags := 25, slot := 9, constantValue := 0 }, { name := "LOG2_BYTE_BIT_SIZE", type := .int, accessFlags := 26, slot := 10, constantValue := 0 }, { name := "T_BOOLEAN", type := .int, accessFlags := 25, slot := 11, constantValue := 0 }, { name := "T_CHAR", type := .int, accessFlags := 25, slot := 12, constantValue := 0 }, { name := "T_FLOAT", type := .int, accessFlags := 25, slot := 13, constantValue := 0 }, { name := "T_DOUBLE", type := .int, accessFlags := 25, slot := 14, constantValue := 0 }, { name := "T_BYTE", type := .int, accessFlags := 25, slot := 15, constantValue := 0 }, { name := "T_SHORT", type := .int, accessFlags := 25, slot := 16, constantValue := 0 }, { name := "T_INT", type := .int, accessFlags := 25, slot := 17, constantValue := 0 }, { name := "T_LONG", type := .int, accessFlags := 25, slot := 18, constantValue := 0 }, { name := "JLA", type := (.object "jdk/internal/access/JavaLangAccess"), accessFlags := 26, slot := 19, constantValue := 0 }, { name := "SOFT_MAX_ARRAY_LENGTH", type := .int, accessFlags := 25, slot := 20, constantValue := 0 }]
  methods := #[k23m0, k23m1, k23m2]
  instanceTypes := #[]
  staticTypes := #[(.object "jdk/internal/misc/Unsafe"), .boolean, .int, .int, .int, .int, .int, .int, .int, .int, .int, .int, .int, .int, .int, .int, .int, .int, .int, (.object "jdk/internal/access/JavaLangAccess"), .int]
  resolved := Array.replicate 378 none
  statics := none }

def pool24 : Array CpInfo := pool [(1, .class_ 2), (0, u "java/lang/Cloneable"), (0, .class_ 4), (0, u "java/lang/Object")] 2

/-- java/lang/Cloneable -/
def k24 : Class := { plain "java/lang/Cloneable" (some 0) with
  accessFlags := 1537
  interfaces := #[]
  cf := some (fileOf pool24 1 #[] #[] 1537 3 #[] #[])
  fields := #[]
  methods := #[]
  instanceTypes := #[]
  staticTypes := #[]
  resolved := Array.replicate 7 none
  statics := none }

def pool25 : Array CpInfo := pool [(2, .class_ 4), (1, u "java/lang/Object"), (0, u "<init>"), (0, u "()V"), (17, .class_ 26), (1, u "jdk/internal/util/Preconditions"), (28, .class_ 56), (0, u "jdk/internal/util/Preconditions$4"), (57, .class_ 115), (0, u "jdk/internal/util/Preconditions$1"), (7, u "SIOOBE_FORMATTER"), (0, u "Ljava/util/function/BiFunction;"), (0, .class_ 126), (0, u "jdk/internal/util/Preconditions$2"), (3, u "AIOOBE_FORMATTER"), (0, .class_ 132), (0, u "jdk/internal/util/Preconditions$3"), (3, u "IOOBE_FORMATTER")] 57

def k25m0 : Method := { name := "<init>", desc := "()V", sig := { parameters := [], returnType := none }, accessFlags := 1, code := none }
/-- jdk/internal/util/Preconditions -/
def k25 : Class := { plain "jdk/internal/util/Preconditions" (some 0) with
  accessFlags := 33
  interfaces := #[]
  cf := some (fileOf pool25 24 #[.nestMembers #[55, 131, 125, 114]] #[{ accessFlags := 1, nameIndex := 5, descriptorIndex := 6, attributes := #[] }] 33 2 #[] #[{ accessFlags := 25, nameIndex := 123, descriptorIndex := 124, attributes := #[] }, { accessFlags := 25, nameIndex := 130, descriptorIndex := 124, attributes := #[] }, { accessFlags := 25, nameIndex := 136, descriptorIndex := 124, attributes := #[] }])
  fields := #[{ name := "SIOOBE_FORMATTER", type := (.object "java/util/function/BiFunction"), accessFlags := 25, slot := 0, constantValue := 0 }, { name := "AIOOBE_FORMATTER", type := (.object "java/util/function/BiFunction"), accessFlags := 25, slot := 1, constantValue := 0 }, { name := "IOOBE_FORMATTER", type := (.object "java/util/function/BiFunction"), accessFlags := 25, slot := 2, constantValue := 0 }]
  methods := #[k25m0]
  instanceTypes := #[]
  staticTypes := #[(.object "java/util/function/BiFunction"), (.object "java/util/function/BiFunction"), (.object "java/util/function/BiFunction")]
  resolved := Array.replicate 194 none
  statics := some 3 }

def pool26 : Array CpInfo := pool [(2, .class_ 4), (1, u "java/lang/Object"), (0, u "<init>"), (0, u "()V"), (12, .class_ 20), (0, u "java/util/Collections"), (63, u "r"), (0, u "Ljava/util/Random;"), (80, .class_ 167), (0, u "java/util/Collections$UnmodifiableCollection"), (6, .class_ 175), (0, u "java/util/Collections$UnmodifiableSequencedCollection"), (6, .class_ 183), (0, u "java/util/Collections$UnmodifiableSet"), (6, .class_ 191), (0, u "java/util/Collections$UnmodifiableSequencedSet"), (6, .class_ 199), (0, u "java/util/Collections$UnmodifiableSortedSet"), (6, .class_ 207), (0, u "java/util/Collections$UnmodifiableNavigableSet"), (4, .class_ 213), (0, u "java/util/Collections$UnmodifiableList"), (1, .class_ 216), (0, u "java/util/Collections$UnmodifiableRandomAccessList"), (6, .class_ 224), (0, u "java/util/Collections$UnmodifiableMap"), (6, .class_ 232), (0, u "java/util/Collections$UnmodifiableSequencedMap"), (4, .class_ 238), (0, u "java/util/Collections$UnmodifiableSortedMap"), (6, .class_ 246), (0, u "java/util/Collections$UnmodifiableNavigableMap"), (3, .class_ 251), (0, u "java/util/Collections$SynchronizedCollection"), (4, .class_ 257), (0, u "java/util/Collections$SynchronizedSet"), (4, .class_ 263), (0, u "java/util/Collections$SynchronizedSortedSet"), (1, .class_ 266), (0, u "java/util/Collections$SynchronizedNavigableSet"), (1, .class_ 269), (0, u "java/util/Collections$SynchronizedRandomAccessList"), (1, .class_ 272), (0, u "java/util/Collections$SynchronizedList"), (5, .class_ 279), (0, u "java/util/Collections$SynchronizedMap"), (1, .class_ 282), (0, u "java/util/Collections$SynchronizedSortedMap"), (1, .class_ 285), (0, u "java/util/Collections$SynchronizedNavigableMap"), (1, .class_ 288), (0, u "java/util/Collections$CheckedCollection"), (11, .class_ 301), (0, u "java/util/Collections$CheckedQueue"), (3, .class_ 306), (0, u "java/util/Collections$CheckedSet"), (3, .class_ 311), (0, u "java/util/Collections$CheckedSortedSet"), (3, .class_ 316), (0, u "java/util/Collections$CheckedNavigableSet"), (3, .class_ 321), (0, u "java/util/Collections$CheckedRandomAccessList"), (3, .class_ 326), (0, u "java/util/Collections$CheckedList"), (1, .class_ 329), (0, u "java/util/Collections$CheckedMap"), (3, .class_ 334), (0, u "java/util/Collections$CheckedSortedMap"), (3, .class_ 339), (0, u "java/util/Collections$CheckedNavigableMap"), (4, .class_ 346), (1, u "java/util/Collections$EmptyIterator"), (3, .class_ 352), (1, u "java/util/Collections$EmptyListIterator"), (2, .class_ 357), (1, u "java/util/Collections$EmptyEnumeration"), (4, u "EMPTY_SET"), (0, u "Ljava/util/Set;"), (6, u "EMPTY_LIST"), (0, u "Ljava/util/List;"), (2, u "EMPTY_MAP"), (0, u "Ljava/util/Map;"), (4, .class_ 381), (0, u "java/util/Collections$SingletonSet"), (2, .class_ 385), (0, u "java/util/Collections$1"), (1, .class_ 388), (0, u "java/util/Collections$2"), (1, .class_ 391), (0, u "java/util/Collections$SingletonList"), (1, .class_ 394), (0, u "java/util/Collections$SingletonMap"), (22, .class_ 418), (0, u "java/util/Collections$CopiesList"), (4, .class_ 425), (1, u "java/util/Collections$ReverseComparator"), (8, .class_ 435), (0, u "java/util/Collections$ReverseComparator2"), (6, .class_ 443), (0, u "java/util/Collections$3"), (25, .class_ 470), (0, u "java/util/Collections$SetFromMap"), (2, .class_ 474), (0, u "java/util/Collections$SequencedSetFromMap"), (3, .class_ 479), (0, u "java/util/Collections$AsLIFOQueue"), (11, .class_ 492), (0, u "java/util/Collections$EmptySet"), (1, .class_ 495), (0, u "java/util/Collections$EmptyList"), (1, .class_ 498), (0, u "java/util/Collections$EmptyMap"), (1, u "BINARYSEARCH_THRESHOLD"), (0, u "I"), (2, u "REVERSE_THRESHOLD"), (1, u "SHUFFLE_THRESHOLD"), (1, u "FILL_THRESHOLD"), (1, u "ROTATE_THRESHOLD"), (1, u "COPY_THRESHOLD"), (1, u "REPLACEALL_THRESHOLD"), (1, u "INDEXOFSUBLIST_THRESHOLD"), (333, .class_ 851), (0, u "java/util/Collections$CheckedMap$CheckedEntrySet"), (0, .class_ 853), (0, u "java/util/Collections$CheckedMap$CheckedEntrySet$CheckedEntry"), (0, .class_ 855), (0, u "java/util/Collections$CheckedMap$CheckedEntrySet$1"), (0, .class_ 857), (0, u "java/util/Collections$CheckedList$1"), (0, .class_ 859), (0, u "java/util/Collections$CheckedCollection$1"), (0, .class_ 861), (0, u "java/util/Collections$UnmodifiableNavigableMap$EmptyNavigableMap"), (0, .class_ 863), (0, u "java/util/Collections$UnmodifiableMap$UnmodifiableEntrySet"), (0, .class_ 865), (0, u "java/util/Collections$UnmodifiableMap$UnmodifiableEntrySet$UnmodifiableEntry"), (0, .class_ 867), (0, u "java/util/Collections$UnmodifiableMap$UnmodifiableEntrySet$UnmodifiableEntrySetSpliterator"), (0, .class_ 869), (0, u "java/util/Collections$UnmodifiableMap$UnmodifiableEntrySet$1"), (0, .class_ 871), (0, u "java/util/Collections$UnmodifiableList$1"), (0, .class_ 873), (0, u "java/util/Collections$UnmodifiableNavigableSet$EmptyNavigableSet"), (0, .class_ 875), (0, u "java/util/Collections$UnmodifiableCollection$1")] 57

def k26m0 : Method := { name := "<init>", desc := "()V", sig := { parameters := [], returnType := none }, accessFlags := 2, code := none }
/-- java/util/Collections -/
def k26 : Class := { plain "java/util/Collections" (some 0) with
  accessFlags := 33
  interfaces := #[]
  cf := some (fileOf pool26 19 #[.nestMembers #[478, 473, 469, 434, 423, 417, 393, 390, 380, 497, 494, 491, 355, 350, 344, 338, 333, 328, 850, 852, 854, 320, 325, 856, 315, 310, 305, 300, 287, 858, 284, 281, 278, 268, 271, 265, 262, 256, 250, 245, 860, 237, 231, 223, 862, 864, 866, 868, 215, 212, 870, 206, 872, 198, 190, 182, 174, 166, 874, 442, 387, 384]] #[{ accessFlags := 2, nameIndex := 5, descriptorIndex := 6, attributes := #[] }] 33 2 #[] #[{ accessFlags := 26, nameIndex := 500, descriptorIndex := 501, attributes := #[] }, { accessFlags := 26, nameIndex := 504, descriptorIndex := 501, attributes := #[] }, { accessFlags := 26, nameIndex := 506, descriptorIndex := 501, attributes := #[] }, { accessFlags := 26, nameIndex := 508, descriptorIndex := 501, attributes := #[] }, { accessFlags := 26, nameIndex := 510, descriptorIndex := 501, attributes := #[] }, { accessFlags := 26, nameIndex := 512, descriptorIndex := 501, attributes := #[] }, { accessFlags := 26, nameIndex := 514, descriptorIndex := 501, attributes := #[] }, { accessFlags := 26, nameIndex := 516, descriptorIndex := 501, attributes := #[] }, { accessFlags := 10, nameIndex := 84, descriptorIndex := 85, attributes := #[] }, { accessFlags := 25, nameIndex := 362, descriptorIndex := 363, attributes := #[] }, { accessFlags := 25, nameIndex := 370, descriptorIndex := 371, attributes := #[] }, { accessFlags := 25, nameIndex := 374, descriptorIndex := 375, attributes := #[] }])
  fields := #[{ name := "BINARYSEARCH_THRESHOLD", type := .int, accessFlags := 26, slot := 0, constantValue := 0 }, { name := "REVERSE_THRESHOLD", type := .int, accessFlags := 26, slot := 1, constantValue := 0 }, { name := "SHUFFLE_THRESHOLD", type := .int, accessFlags := 26, slot := 2, constantValue := 0 }, { name := "FILL_THRESHOLD", type := .int, accessFlags := 26, slot := 3, constantValue := 0 }, { name := "ROTATE_THRESHOLD", type := .int, accessFlags := 26, slot := 4, constantValue := 0 }, { name := "COPY_THRESHOLD", type := .int, accessFlags := 26, slot := 5, constantValue := 0 }, { name := "REPLACEALL_THRESHOLD", type := .int, accessFlags := 26, slot := 6, constantValue := 0 }, { name := "INDEXOFSUBLIST_THRESHOLD", type := .int, accessFlags := 26, slot := 7, constantValue := 0 }, { name := "r", type := (.object "java/util/Random"), accessFlags := 10, slot := 8, constantValue := 0 }, { name := "EMPTY_SET", type := (.object "java/util/Set"), accessFlags := 25, slot := 9, constantValue := 0 }, { name := "EMPTY_LIST", type := (.object "java/util/List"), accessFlags := 25, slot := 10, constantValue := 0 }, { name := "EMPTY_MAP", type := (.object "java/util/Map"), accessFlags := 25, slot := 11, constantValue := 0 }]
  methods := #[k26m0]
  instanceTypes := #[]
  staticTypes := #[.int, .int, .int, .int, .int, .int, .int, .int, (.object "java/util/Random"), (.object "java/util/Set"), (.object "java/util/List"), (.object "java/util/Map")]
  resolved := Array.replicate 933 none
  statics := some 4 }

def pool27 : Array CpInfo := pool [(8, .class_ 10), (1, u "java/lang/Iterable"), (24, .class_ 36), (0, u "java/lang/Object")] 25

/-- java/lang/Iterable -/
def k27 : Class := { plain "java/lang/Iterable" (some 0) with
  accessFlags := 1537
  interfaces := #[]
  cf := some (fileOf pool27 8 #[] #[] 1537 35 #[] #[])
  fields := #[]
  methods := #[]
  instanceTypes := #[]
  staticTypes := #[]
  resolved := Array.replicate 62 none
  statics := none }

def pool28 : Array CpInfo := pool [(10, .class_ 12), (1, u "java/util/Collection"), (47, .class_ 61), (0, u "java/lang/Object"), (0, .class_ 63), (0, u "java/lang/Iterable")] 51

/-- java/util/Collection -/
def k28 : Class := { plain "java/util/Collection" (some 0) with
  accessFlags := 1537
  interfaces := #[27]
  cf := some (fileOf pool28 10 #[] #[] 1537 60 #[62] #[])
  fields := #[]
  methods := #[]
  instanceTypes := #[]
  staticTypes := #[]
  resolved := Array.replicate 115 none
  statics := none }

def pool29 : Array CpInfo := pool [(2, .class_ 4), (1, u "java/lang/Object"), (0, u "<init>"), (0, u "()V"), (1, .class_ 10), (1, u "java/util/AbstractCollection"), (66, .class_ 78), (0, u "java/util/Collection")] 81

def k29m0 : Method := { name := "<init>", desc := "()V", sig := { parameters := [], returnType := none }, accessFlags := 4, code := none }
/-- java/util/AbstractCollection -/
def k29 : Class := { plain "java/util/AbstractCollection" (some 0) with
  accessFlags := 1057
  interfaces := #[28]
  cf := some (fileOf pool29 8 #[] #[{ accessFlags := 4, nameIndex := 5, descriptorIndex := 6, attributes := #[] }] 1057 2 #[77] #[])
  fields := #[]
  methods := #[k29m0]
  instanceTypes := #[]
  staticTypes := #[]
  resolved := Array.replicate 160 none
  statics := none }

def pool30 : Array CpInfo := pool [(8, .class_ 10), (1, u "java/util/SequencedCollection"), (15, .class_ 27), (0, u "java/lang/Object"), (0, .class_ 29), (0, u "java/util/Collection")] 27

/-- java/util/SequencedCollection -/
def k30 : Class := { plain "java/util/SequencedCollection" (some 0) with
  accessFlags := 1537
  interfaces := #[28]
  cf := some (fileOf pool30 8 #[] #[] 1537 26 #[28] #[])
  fields := #[]
  methods := #[]
  instanceTypes := #[]
  staticTypes := #[]
  resolved := Array.replicate 57 none
  statics := none }

def pool31 : Array CpInfo := pool [(8, .class_ 10), (1, u "java/util/List"), (92, .class_ 104), (0, u "java/lang/Object"), (15, .class_ 121), (0, u "java/util/SequencedCollection")] 129

/-- java/util/List -/
def k31 : Class := { plain "java/util/List" (some 0) with
  accessFlags := 1537
  interfaces := #[30]
  cf := some (fileOf pool31 8 #[] #[] 1537 103 #[120] #[])
  fields := #[]
  methods := #[]
  instanceTypes := #[]
  staticTypes := #[]
  resolved := Array.replicate 251 none
  statics := none }

def pool32 : Array CpInfo := pool [(2, .class_ 4), (1, u "java/util/AbstractCollection"), (0, u "<init>"), (0, u "()V"), (1, .class_ 10), (1, u "java/util/AbstractList"), (0, u "modCount"), (0, u "I"), (64, .class_ 78), (0, u "java/util/AbstractList$Itr"), (3, .class_ 83), (0, u "java/util/AbstractList$ListItr"), (9, .class_ 94), (0, u "java/util/AbstractList$RandomAccessSubList"), (3, .class_ 99), (0, u "java/util/AbstractList$SubList"), (33, .class_ 134), (0, u "java/util/List"), (73, .class_ 209), (0, u "java/util/AbstractList$SubList$1"), (0, .class_ 211), (0, u "java/util/AbstractList$RandomAccessSpliterator")] 6

def k32m0 : Method := { name := "<init>", desc := "()V", sig := { parameters := [], returnType := none }, accessFlags := 4, code := none }
/-- java/util/AbstractList -/
def k32 : Class := { plain "java/util/AbstractList" (some 29) with
  accessFlags := 1057
  interfaces := #[31]
  cf := some (fileOf pool32 8 #[.nestMembers #[93, 98, 208, 210, 82, 77]] #[{ accessFlags := 4, nameIndex := 5, descriptorIndex := 6, attributes := #[] }] 1057 2 #[133] #[{ accessFlags := 132, nameIndex := 11, descriptorIndex := 12, attributes := #[] }])
  fields := #[{ name := "modCount", type := .int, accessFlags := 132, slot := 0, constantValue := 0 }]
  methods := #[k32m0]
  instanceTypes := #[.int]
  staticTypes := #[]
  resolved := Array.replicate 218 none
  statics := none }

def pool33 : Array CpInfo := pool [(1, .class_ 2), (0, u "java/util/RandomAccess"), (0, .class_ 4), (0, u "java/lang/Object")] 2

/-- java/util/RandomAccess -/
def k33 : Class := { plain "java/util/RandomAccess" (some 0) with
  accessFlags := 1537
  interfaces := #[]
  cf := some (fileOf pool33 1 #[] #[] 1537 3 #[] #[])
  fields := #[]
  methods := #[]
  instanceTypes := #[]
  staticTypes := #[]
  resolved := Array.replicate 7 none
  statics := none }

def pool34 : Array CpInfo := pool [(2, .class_ 4), (1, u "java/util/AbstractList"), (0, u "<init>"), (0, u "()V"), (1, .class_ 10), (1, u "java/util/Collections"), (54, .class_ 66), (0, u "java/util/Collections$EmptyList"), (0, .class_ 68), (0, u "java/util/RandomAccess"), (0, .class_ 70), (0, u "java/io/Serializable"), (0, u "serialVersionUID"), (0, u "J")] 77

def k34m0 : Method := { name := "<init>", desc := "()V", sig := { parameters := [], returnType := none }, accessFlags := 2, code := none }
/-- java/util/Collections$EmptyList -/
def k34 : Class := { plain "java/util/Collections$EmptyList" (some 32) with
  accessFlags := 32
  interfaces := #[33, 2]
  cf := some (fileOf pool34 65 #[.nestHost 8] #[{ accessFlags := 2, nameIndex := 5, descriptorIndex := 6, attributes := #[] }] 32 2 #[67, 69] #[{ accessFlags := 26, nameIndex := 71, descriptorIndex := 72, attributes := #[] }])
  fields := #[{ name := "serialVersionUID", type := .long, accessFlags := 26, slot := 0, constantValue := 0 }]
  methods := #[k34m0]
  instanceTypes := #[.int]
  staticTypes := #[.long]
  resolved := Array.replicate 150 none
  statics := none }

def pool35 : Array CpInfo := pool [(2, .class_ 4), (1, u "java/lang/StackTraceElement"), (0, u "<init>"), (2, .class_ 10), (1, u "java/lang/Object"), (0, u "()V"), (2, u "format"), (0, u "B"), (2, u "classLoaderName"), (0, u "Ljava/lang/String;"), (2, u "moduleName"), (2, u "moduleVersion"), (12, u "declaringClass"), (4, u "methodName"), (2, u "fileName"), (2, u "lineNumber"), (0, u "I"), (65, u "declaringClassObject"), (0, u "Ljava/lang/Class;"), (33, .class_ 153), (1, u "java/lang/StackTraceElement$HashedModules"), (17, .class_ 172), (0, u "java/io/Serializable"), (0, u "NATIVE_METHOD"), (1, u "UNKNOWN_SOURCE"), (2, u "BUILTIN_CLASS_LOADER"), (1, u "JDK_NON_UPGRADEABLE_MODULE"), (1, u "serialVersionUID"), (0, u "J")] 51

def k35m0 : Method := { name := "<init>", desc := "()V", sig := { parameters := [], returnType := none }, accessFlags := 2, code := none }
/-- java/lang/StackTraceElement -/
def k35 : Class := { plain "java/lang/StackTraceElement" (some 0) with
  accessFlags := 49
  interfaces := #[2]
  cf := some (fileOf pool35 2 #[.nestMembers #[151]] #[{ accessFlags := 2, nameIndex := 5, descriptorIndex := 11, attributes := #[] }] 49 8 #[171] #[{ accessFlags := 26, nameIndex := 173, descriptorIndex := 19, attributes := #[] }, { accessFlags := 26, nameIndex := 175, descriptorIndex := 19, attributes := #[] }, { accessFlags := 130, nameIndex := 116, descriptorIndex := 117, attributes := #[] }, { accessFlags := 2, nameIndex := 18, descriptorIndex := 19, attributes := #[] }, { accessFlags := 2, nameIndex := 22, descriptorIndex := 19, attributes := #[] }, { accessFlags := 2, nameIndex := 25, descriptorIndex := 19, attributes := #[] }, { accessFlags := 2, nameIndex := 38, descriptorIndex := 19, attributes := #[] }, { accessFlags := 2, nameIndex := 43, descriptorIndex := 19, attributes := #[] }, { accessFlags := 2, nameIndex := 46, descriptorIndex := 19, attributes := #[] }, { accessFlags := 2, nameIndex := 49, descriptorIndex := 50, attributes := #[] }, { accessFlags := 2, nameIndex := 14, descriptorIndex := 15, attributes := #[] }, { accessFlags := 26, nameIndex := 178, descriptorIndex := 15, attributes := #[] }, { accessFlags := 26, nameIndex := 180, descriptorIndex := 15, attributes := #[] }, { accessFlags := 26, nameIndex := 182, descriptorIndex := 183, attributes := #[] }])
  fields := #[{ name := "NATIVE_METHOD", type := (.object "java/lang/String"), accessFlags := 26, slot := 0, constantValue := 0 }, { name := "UNKNOWN_SOURCE", type := (.object "java/lang/String"), accessFlags := 26, slot := 1, constantValue := 0 }, { name := "declaringClassObject", type := (.object "java/lang/Class"), accessFlags := 130, slot := 0, constantValue := 0 }, { name := "classLoaderName", type := (.object "java/lang/String"), accessFlags := 2, slot := 1, constantValue := 0 }, { name := "moduleName", type := (.object "java/lang/String"), accessFlags := 2, slot := 2, constantValue := 0 }, { name := "moduleVersion", type := (.object "java/lang/String"), accessFlags := 2, slot := 3, constantValue := 0 }, { name := "declaringClass", type := (.object "java/lang/String"), accessFlags := 2, slot := 4, constantValue := 0 }, { name := "methodName", type := (.object "java/lang/String"), accessFlags := 2, slot := 5, constantValue := 0 }, { name := "fileName", type := (.object "java/lang/String"), accessFlags := 2, slot := 6, constantValue := 0 }, { name := "lineNumber", type := .int, accessFlags := 2, slot := 7, constantValue := 0 }, { name := "format", type := .byte, accessFlags := 2, slot := 8, constantValue := 0 }, { name := "BUILTIN_CLASS_LOADER", type := .byte, accessFlags := 26, slot := 2, constantValue := 0 }, { name := "JDK_NON_UPGRADEABLE_MODULE", type := .byte, accessFlags := 26, slot := 3, constantValue := 0 }, { name := "serialVersionUID", type := .long, accessFlags := 26, slot := 4, constantValue := 0 }]
  methods := #[k35m0]
  instanceTypes := #[(.object "java/lang/Class"), (.object "java/lang/String"), (.object "java/lang/String"), (.object "java/lang/String"), (.object "java/lang/String"), (.object "java/lang/String"), (.object "java/lang/String"), .int, .byte]
  staticTypes := #[(.object "java/lang/String"), (.object "java/lang/String"), .byte, .byte, .long]
  resolved := Array.replicate 235 none
  statics := none }

/-- the primitive byte -/
def k36 : Class := { plain "byte" none with kind := .primitive 'B', accessFlags := 0x411 }
/-- [B -/
def k37 : Class := { plain "[B" (some 0) with kind := .array 36 .byte, interfaces := #[24, 2], accessFlags := 1041 }

/-- the primitive char -/
def k38 : Class := { plain "char" none with kind := .primitive 'C', accessFlags := 0x411 }
/-- [C -/
def k39 : Class := { plain "[C" (some 0) with kind := .array 38 .char, interfaces := #[24, 2], accessFlags := 1041 }

/-- the primitive int -/
def k40 : Class := { plain "int" none with kind := .primitive 'I', accessFlags := 0x411 }
/-- [I -/
def k41 : Class := { plain "[I" (some 0) with kind := .array 40 .int, interfaces := #[24, 2], accessFlags := 1041 }

/-- [Ljava/lang/Object; -/
def k42 : Class := { plain "[Ljava/lang/Object;" (some 0) with kind := .array 0 (.object "java/lang/Object"), interfaces := #[24, 2], accessFlags := 1041 }

/-- [Ljava/lang/StackTraceElement; -/
def k43 : Class := { plain "[Ljava/lang/StackTraceElement;" (some 0) with kind := .array 35 (.object "java/lang/StackTraceElement"), interfaces := #[24, 2], accessFlags := 1041 }

/-- [Ljava/lang/Throwable; -/
def k44 : Class := { plain "[Ljava/lang/Throwable;" (some 0) with kind := .array 11 (.object "java/lang/Throwable"), interfaces := #[24, 2], accessFlags := 1041 }

def heap : Heap := #[{ cls := 7, slots := #[.long 0, .int 1, .null, .int 0, .null, .int 0, .int 0], vm := .statics 7 },
  { cls := 11, slots := #[.long 0, .ref 7, .ref 8, .null, .null, .null, .null, .ref 9, .int 1], vm := .statics 11 },
  { cls := 19, slots := #[.int 0, .int 0, .null, .null, .ref 6, .ref 5, .int 0, .int 0, .long 0], vm := .statics 19 },
  { cls := 25, slots := #[.null, .null, .null], vm := .statics 25 },
  { cls := 26, slots := #[.int 0, .int 0, .int 0, .int 0, .int 0, .int 0, .int 0, .int 0, .null, .null, .ref 8, .null], vm := .statics 26 },
  { cls := 37, slots := #[.int 48, .int 49, .int 50, .int 51, .int 52, .int 53, .int 54, .int 55, .int 56, .int 57, .int 48, .int 49, .int 50, .int 51, .int 52, .int 53, .int 54, .int 55, .int 56, .int 57, .int 48, .int 49, .int 50, .int 51, .int 52, .int 53, .int 54, .int 55, .int 56, .int 57, .int 48, .int 49, .int 50, .int 51, .int 52, .int 53, .int 54, .int 55, .int 56, .int 57, .int 48, .int 49, .int 50, .int 51, .int 52, .int 53, .int 54, .int 55, .int 56, .int 57, .int 48, .int 49, .int 50, .int 51, .int 52, .int 53, .int 54, .int 55, .int 56, .int 57, .int 48, .int 49, .int 50, .int 51, .int 52, .int 53, .int 54, .int 55, .int 56, .int 57, .int 48, .int 49, .int 50, .int 51, .int 52, .int 53, .int 54, .int 55, .int 56, .int 57, .int 48, .int 49, .int 50, .int 51, .int 52, .int 53, .int 54, .int 55, .int 56, .int 57, .int 48, .int 49, .int 50, .int 51, .int 52, .int 53, .int 54, .int 55, .int 56, .int 57], vm := .none },
  { cls := 37, slots := #[.int 48, .int 48, .int 48, .int 48, .int 48, .int 48, .int 48, .int 48, .int 48, .int 48, .int 49, .int 49, .int 49, .int 49, .int 49, .int 49, .int 49, .int 49, .int 49, .int 49, .int 50, .int 50, .int 50, .int 50, .int 50, .int 50, .int 50, .int 50, .int 50, .int 50, .int 51, .int 51, .int 51, .int 51, .int 51, .int 51, .int 51, .int 51, .int 51, .int 51, .int 52, .int 52, .int 52, .int 52, .int 52, .int 52, .int 52, .int 52, .int 52, .int 52, .int 53, .int 53, .int 53, .int 53, .int 53, .int 53, .int 53, .int 53, .int 53, .int 53, .int 54, .int 54, .int 54, .int 54, .int 54, .int 54, .int 54, .int 54, .int 54, .int 54, .int 55, .int 55, .int 55, .int 55, .int 55, .int 55, .int 55, .int 55, .int 55, .int 55, .int 56, .int 56, .int 56, .int 56, .int 56, .int 56, .int 56, .int 56, .int 56, .int 56, .int 57, .int 57, .int 57, .int 57, .int 57, .int 57, .int 57, .int 57, .int 57, .int 57], vm := .none },
  { cls := 43, slots := #[], vm := .none },
  { cls := 34, slots := #[.int 0], vm := .none },
  { cls := 44, slots := #[], vm := .none }]
def classes : Array Class := #[k0, k1, k2, k3, k4, k5, k6, k7, k8, k9, k10, k11, k12, k13, k14, k15, k16, k17, k18, k19, k20, k21, k22, k23, k24, k25, k26, k27, k28, k29, k30, k31, k32, k33, k34, k35, k36, k37, k38, k39, k40, k41, k42, k43, k44]
def interned : List (Array UInt16 × Addr) := []
def slotsUsed : Nat := 241
def theMethod : MethodId := ⟨1, 2⟩
def args0 : Array Value := #[.int 0, .int 0, .int 0, .int 7, .int 0, .int 7]
def aboutOver (below : List Frame) : State where
  vm := { classes := classes, interned := interned.toArray }
  heap := heap
  slotsUsed := slotsUsed
  threads := #[{ frames := .invoking theMethod args0 :: below }]
def below0 : List Frame := [.native { method := ⟨0, 0⟩, args := #[] }]
def about1 : State := aboutOver below0
def p0 : Program := .bare "" "" ""
def e0 : Env := launch0.env 0 0 0
theorem w_frames : about1.frames = Frame.invoking theMethod args0 :: below0 := rfl
set_option maxRecDepth 65536 in
theorem w_args : argsFit about1.vm theMethod args0 = true := by decide +kernel
set_option maxRecDepth 65536 in
theorem w_heap : heapFits about1 = true := by decide +kernel
set_option maxRecDepth 65536 in
theorem w_runnable : about1.curStatus? = some .runnable := by decide +kernel
set_option maxRecDepth 65536 in
theorem w_alone : about1.alone = true := by decide +kernel
set_option maxRecDepth 65536 in
theorem w_named : about1.methodNamed? x = some theMethod := by decide +kernel
set_option maxRecDepth 65536 in
theorem w_hears : about1.hears theMethod below0 = true := by decide +kernel
set_option maxRecDepth 65536 in
theorem w_ripe : about1.ripe theMethod args0 below0 = true := by decide +kernel
theorem w_running : about1.status = .running := rfl
set_option maxRecDepth 65536 in
theorem w_room : about1.hasRoom e0.platform room_1 = true :=
  launch0.hasRoom_least _ room_1 (by decide +kernel) (by decide +kernel) (by decide +kernel) (by decide +kernel) (by decide +kernel) (by decide +kernel)
theorem allAtoms_all (ts : List Jvm.Cond) (a : Array Jvm.Value) (st : Jvm.State) : (allAtoms ts).before a st = ts.all (fun c => c.before a st) := by
  induction ts with
  | nil => rfl
  | cons c t ih =>
    show (Jvm.Cond.and c (allAtoms t)).before a st = _
    rw [Jvm.Cond.before_and, ih, List.all_cons]
def words1 : List Jvm.Cond := Jvm.Cond.code x code maxLocals ret :: tables_1
/-- a 'code' word, met by the world's own term for the bytes: nothing is compared byte by byte -/
theorem code_word {y : MethodName} {bytes : ByteArray} {mx : Nat} {rt : Option FieldType} {a : Array Value} {s : State} {m : MethodId} {meth : Method} {c : Code} (h1 : s.methodNamed? y = some m) (h2 : s.vm.method? m = some meth) (h3 : meth.code = some c) (h4 : c.code = bytes)
    (h5 : (c.maxLocals == mx && c.exceptionTable.isEmpty && decide (c.maxStack ≤ mostOperands) && decide (meth.sig.returnType = rt) && !meth.locks && decide (parseMethodDescriptor y.desc = some meth.sig)) = true) : (Jvm.Cond.code y bytes mx rt).before a s = true := by
  simp only [Bool.and_eq_true, beq_iff_eq, Bool.not_eq_true', decide_eq_true_eq] at h5
  obtain ⟨⟨⟨⟨⟨g1, g2⟩, g3⟩, g4⟩, g5⟩, g6⟩ := h5
  simp [Cond.before, Cond.holds, Cond.value, h1, h2, h3, h4, g1, g2, g3, g4, g5, g6]
def isCode : Jvm.Cond → Bool
  | .code _ _ _ _ => true
  | _ => false
theorem all_split {L : List Jvm.Cond} {P : Jvm.Cond → Bool} (h1 : L.all (fun c => isCode c || P c) = true) (h2 : ∀ c ∈ L.filter isCode, P c = true) : L.all P = true := by
  refine List.all_eq_true.mpr fun c hc => ?_
  have h := List.all_eq_true.mp h1 c hc
  rcases Bool.eq_false_or_eq_true (isCode c) with hi | hi
  · exact h2 c (List.mem_filter.mpr ⟨hc, hi⟩)
  · simpa [hi] using h
set_option maxRecDepth 65536 in
theorem w_c0 : (Jvm.Cond.code x code maxLocals ret).before args0 about1 = true := code_word (m := ⟨1, 2⟩) (meth := k1m2) (c := k1c2) (by decide +kernel) rfl rfl rfl (by decide +kernel)
set_option maxRecDepth 65536 in
theorem w_c1 : (Jvm.Cond.code ({ cls := "quadrille/LexerResetPinLaw", name := "make", desc := "(ICCC)Ljava/lang/String;" } : Jvm.MethodName) method_2_code (4 : Nat) (Option.some (Jvm.ClassFile.FieldType.object "java/lang/String"))).before args0 about1 = true := code_word (m := ⟨1, 1⟩) (meth := k1m1) (c := k1c1) (by decide +kernel) rfl rfl rfl (by decide +kernel)
set_option maxRecDepth 65536 in
theorem w_c2 : (Jvm.Cond.code ({ cls := "java/lang/String", name := "<init>", desc := "([C)V" } : Jvm.MethodName) jdk_42_method_3_code (2 : Nat) (Option.none : Option Jvm.ClassFile.FieldType)).before args0 about1 = true := code_word (m := ⟨7, 1⟩) (meth := k7m1) (c := k7c1) (by decide +kernel) rfl rfl rfl (by decide +kernel)
set_option maxRecDepth 65536 in
theorem w_c3 : (Jvm.Cond.code ({ cls := "java/lang/String", name := "<init>", desc := "([CIILjava/lang/Void;)V" } : Jvm.MethodName) jdk_42_method_149_code (6 : Nat) (Option.none : Option Jvm.ClassFile.FieldType)).before args0 about1 = true := code_word (m := ⟨7, 7⟩) (meth := k7m7) (c := k7c7) (by decide +kernel) rfl rfl rfl (by decide +kernel)
set_option maxRecDepth 65536 in
theorem w_c4 : (Jvm.Cond.code ({ cls := "java/lang/Object", name := "<init>", desc := "()V" } : Jvm.MethodName) object_method_1_code (1 : Nat) (Option.none : Option Jvm.ClassFile.FieldType)).before args0 about1 = true := code_word (m := ⟨0, 0⟩) (meth := k0m0) (c := k0c0) (by decide +kernel) rfl rfl rfl (by decide +kernel)
set_option maxRecDepth 65536 in
theorem w_c5 : (Jvm.Cond.code ({ cls := "java/lang/StringUTF16", name := "compress", desc := "([CII)[B" } : Jvm.MethodName) jdk_52_method_16_code (6 : Nat) (Option.some (Jvm.ClassFile.FieldType.array Jvm.ClassFile.FieldType.byte))).before args0 about1 = true := code_word (m := ⟨8, 2⟩) (meth := k8m2) (c := k8c2) (by decide +kernel) rfl rfl rfl (by decide +kernel)
set_option maxRecDepth 65536 in
theorem w_c6 : (Jvm.Cond.code ({ cls := "java/lang/StringUTF16", name := "compress", desc := "([CI[BII)I" } : Jvm.MethodName) jdk_52_method_21_code (7 : Nat) (Option.some Jvm.ClassFile.FieldType.int)).before args0 about1 = true := code_word (m := ⟨8, 3⟩) (meth := k8m3) (c := k8c3) (by decide +kernel) rfl rfl rfl (by decide +kernel)
set_option maxRecDepth 65536 in
theorem w_c7 : (Jvm.Cond.code ({ cls := "java/lang/StringUTF16", name := "coderFromArrayLen", desc := "([BI)B" } : Jvm.MethodName) jdk_52_method_15_code (2 : Nat) (Option.some Jvm.ClassFile.FieldType.byte)).before args0 about1 = true := code_word (m := ⟨8, 1⟩) (meth := k8m1) (c := k8c1) (by decide +kernel) rfl rfl rfl (by decide +kernel)
set_option maxRecDepth 65536 in
theorem w_c8 : (Jvm.Cond.code ({ cls := "quadrille/Lexer", name := "<init>", desc := "(Ljava/lang/String;Ljava/lang/String;)V" } : Jvm.MethodName) prog_70_method_1_code (3 : Nat) (Option.none : Option Jvm.ClassFile.FieldType)).before args0 about1 = true := code_word (m := ⟨9, 0⟩) (meth := k9m0) (c := k9c0) (by decide +kernel) rfl rfl rfl (by decide +kernel)
set_option maxRecDepth 65536 in
theorem w_c9 : (Jvm.Cond.code ({ cls := "quadrille/Lexer", name := "reset", desc := "(Ljava/lang/String;I)V" } : Jvm.MethodName) prog_70_method_2_code (3 : Nat) (Option.none : Option Jvm.ClassFile.FieldType)).before args0 about1 = true := code_word (m := ⟨9, 1⟩) (meth := k9m1) (c := k9c1) (by decide +kernel) rfl rfl rfl (by decide +kernel)
set_option maxRecDepth 65536 in
theorem w_c10 : (Jvm.Cond.code ({ cls := "quadrille/Lexer", name := "moveTo", desc := "(I)V" } : Jvm.MethodName) prog_70_method_7_code (2 : Nat) (Option.none : Option Jvm.ClassFile.FieldType)).before args0 about1 = true := code_word (m := ⟨9, 3⟩) (meth := k9m3) (c := k9c3) (by decide +kernel) rfl rfl rfl (by decide +kernel)
set_option maxRecDepth 65536 in
theorem w_c11 : (Jvm.Cond.code ({ cls := "quadrille/Lexer", name := "position", desc := "()I" } : Jvm.MethodName) prog_70_method_6_code (1 : Nat) (Option.some Jvm.ClassFile.FieldType.int)).before args0 about1 = true := code_word (m := ⟨9, 2⟩) (meth := k9m2) (c := k9c2) (by decide +kernel) rfl rfl rfl (by decide +kernel)
set_option maxRecDepth 65536 in
theorem w_c12 : (Jvm.Cond.code ({ cls := "quadrille/Lexer", name := "error", desc := "(ILjava/lang/String;)Lquadrille/SyntaxException;" } : Jvm.MethodName) prog_70_method_19_code (5 : Nat) (Option.some (Jvm.ClassFile.FieldType.object "quadrille/SyntaxException"))).before args0 about1 = true := code_word (m := ⟨9, 6⟩) (meth := k9m6) (c := k9c6) (by decide +kernel) rfl rfl rfl (by decide +kernel)
set_option maxRecDepth 65536 in
theorem w_c13 : (Jvm.Cond.code ({ cls := "quadrille/LineColumn", name := "<init>", desc := "(I)V" } : Jvm.MethodName) prog_72_method_1_code (2 : Nat) (Option.none : Option Jvm.ClassFile.FieldType)).before args0 about1 = true := code_word (m := ⟨10, 0⟩) (meth := k10m0) (c := k10c0) (by decide +kernel) rfl rfl rfl (by decide +kernel)
set_option maxRecDepth 65536 in
theorem w_c14 : (Jvm.Cond.code ({ cls := "quadrille/LineColumn", name := "line", desc := "()I" } : Jvm.MethodName) prog_72_method_3_code (1 : Nat) (Option.some Jvm.ClassFile.FieldType.int)).before args0 about1 = true := code_word (m := ⟨10, 1⟩) (meth := k10m1) (c := k10c1) (by decide +kernel) rfl rfl rfl (by decide +kernel)
set_option maxRecDepth 65536 in
theorem w_c15 : (Jvm.Cond.code ({ cls := "quadrille/LineColumn", name := "column", desc := "()I" } : Jvm.MethodName) prog_72_method_4_code (1 : Nat) (Option.some Jvm.ClassFile.FieldType.int)).before args0 about1 = true := code_word (m := ⟨10, 2⟩) (meth := k10m2) (c := k10c2) (by decide +kernel) rfl rfl rfl (by decide +kernel)
set_option maxRecDepth 65536 in
theorem w_c16 : (Jvm.Cond.code ({ cls := "quadrille/SyntaxException", name := "<init>", desc := "(Ljava/lang/String;IILjava/lang/String;)V" } : Jvm.MethodName) prog_176_method_1_code (5 : Nat) (Option.none : Option Jvm.ClassFile.FieldType)).before args0 about1 = true := code_word (m := ⟨13, 0⟩) (meth := k13m0) (c := k13c0) (by decide +kernel) rfl rfl rfl (by decide +kernel)
set_option maxRecDepth 65536 in
theorem w_c17 : (Jvm.Cond.code ({ cls := "java/lang/StringBuilder", name := "<init>", desc := "()V" } : Jvm.MethodName) jdk_67_method_1_code (1 : Nat) (Option.none : Option Jvm.ClassFile.FieldType)).before args0 about1 = true := code_word (m := ⟨16, 0⟩) (meth := k16m0) (c := k16c0) (by decide +kernel) rfl rfl rfl (by decide +kernel)
set_option maxRecDepth 65536 in
theorem w_c18 : (Jvm.Cond.code ({ cls := "java/lang/AbstractStringBuilder", name := "<init>", desc := "(I)V" } : Jvm.MethodName) jdk_68_method_2_code (2 : Nat) (Option.none : Option Jvm.ClassFile.FieldType)).before args0 about1 = true := code_word (m := ⟨15, 1⟩) (meth := k15m1) (c := k15c1) (by decide +kernel) rfl rfl rfl (by decide +kernel)
set_option maxRecDepth 65536 in
theorem w_c19 : (Jvm.Cond.code ({ cls := "java/lang/StringBuilder", name := "append", desc := "(Ljava/lang/String;)Ljava/lang/StringBuilder;" } : Jvm.MethodName) jdk_67_method_7_code (2 : Nat) (Option.some (Jvm.ClassFile.FieldType.object "java/lang/StringBuilder"))).before args0 about1 = true := code_word (m := ⟨16, 1⟩) (meth := k16m1) (c := k16c1) (by decide +kernel) rfl rfl rfl (by decide +kernel)
set_option maxRecDepth 65536 in
theorem w_c20 : (Jvm.Cond.code ({ cls := "java/lang/AbstractStringBuilder", name := "append", desc := "(Ljava/lang/String;)Ljava/lang/AbstractStringBuilder;" } : Jvm.MethodName) jdk_68_method_22_code (3 : Nat) (Option.some (Jvm.ClassFile.FieldType.object "java/lang/AbstractStringBuilder"))).before args0 about1 = true := code_word (m := ⟨15, 5⟩) (meth := k15m5) (c := k15c5) (by decide +kernel) rfl rfl rfl (by decide +kernel)
set_option maxRecDepth 65536 in
theorem w_c21 : (Jvm.Cond.code ({ cls := "java/lang/String", name := "length", desc := "()I" } : Jvm.MethodName) jdk_42_method_54_code (1 : Nat) (Option.some Jvm.ClassFile.FieldType.int)).before args0 about1 = true := code_word (m := ⟨7, 3⟩) (meth := k7m3) (c := k7c3) (by decide +kernel) rfl rfl rfl (by decide +kernel)
set_option maxRecDepth 65536 in
theorem w_c22 : (Jvm.Cond.code ({ cls := "java/lang/String", name := "coder", desc := "()B" } : Jvm.MethodName) jdk_42_method_152_code (1 : Nat) (Option.some Jvm.ClassFile.FieldType.byte)).before args0 about1 = true := code_word (m := ⟨7, 9⟩) (meth := k7m9) (c := k7c9) (by decide +kernel) rfl rfl rfl (by decide +kernel)
set_option maxRecDepth 65536 in
theorem w_c23 : (Jvm.Cond.code ({ cls := "java/lang/AbstractStringBuilder", name := "ensureCapacityInternal", desc := "(I)V" } : Jvm.MethodName) jdk_68_method_9_code (3 : Nat) (Option.none : Option Jvm.ClassFile.FieldType)).before args0 about1 = true := code_word (m := ⟨15, 3⟩) (meth := k15m3) (c := k15c3) (by decide +kernel) rfl rfl rfl (by decide +kernel)
set_option maxRecDepth 65536 in
theorem w_c24 : (Jvm.Cond.code ({ cls := "java/lang/AbstractStringBuilder", name := "putStringAt", desc := "(ILjava/lang/String;)V" } : Jvm.MethodName) jdk_68_method_73_code (3 : Nat) (Option.none : Option Jvm.ClassFile.FieldType)).before args0 about1 = true := code_word (m := ⟨15, 10⟩) (meth := k15m10) (c := k15c10) (by decide +kernel) rfl rfl rfl (by decide +kernel)
set_option maxRecDepth 65536 in
theorem w_c25 : (Jvm.Cond.code ({ cls := "java/lang/AbstractStringBuilder", name := "inflateIfNeededFor", desc := "(Ljava/lang/String;)V" } : Jvm.MethodName) jdk_68_method_71_code (2 : Nat) (Option.none : Option Jvm.ClassFile.FieldType)).before args0 about1 = true := code_word (m := ⟨15, 9⟩) (meth := k15m9) (c := k15c9) (by decide +kernel) rfl rfl rfl (by decide +kernel)
set_option maxRecDepth 65536 in
theorem w_c26 : (Jvm.Cond.code ({ cls := "java/lang/String", name := "getBytes", desc := "([BIB)V" } : Jvm.MethodName) jdk_42_method_147_code (4 : Nat) (Option.none : Option Jvm.ClassFile.FieldType)).before args0 about1 = true := code_word (m := ⟨7, 6⟩) (meth := k7m6) (c := k7c6) (by decide +kernel) rfl rfl rfl (by decide +kernel)
set_option maxRecDepth 65536 in
theorem w_c27 : (Jvm.Cond.code ({ cls := "java/lang/StringBuilder", name := "append", desc := "(I)Ljava/lang/StringBuilder;" } : Jvm.MethodName) jdk_67_method_15_code (2 : Nat) (Option.some (Jvm.ClassFile.FieldType.object "java/lang/StringBuilder"))).before args0 about1 = true := code_word (m := ⟨16, 2⟩) (meth := k16m2) (c := k16c2) (by decide +kernel) rfl rfl rfl (by decide +kernel)
set_option maxRecDepth 65536 in
theorem w_c28 : (Jvm.Cond.code ({ cls := "java/lang/AbstractStringBuilder", name := "append", desc := "(I)Ljava/lang/AbstractStringBuilder;" } : Jvm.MethodName) jdk_68_method_32_code (4 : Nat) (Option.some (Jvm.ClassFile.FieldType.object "java/lang/AbstractStringBuilder"))).before args0 about1 = true := code_word (m := ⟨15, 6⟩) (meth := k15m6) (c := k15c6) (by decide +kernel) rfl rfl rfl (by decide +kernel)
set_option maxRecDepth 65536 in
theorem w_c29 : (Jvm.Cond.code ({ cls := "java/lang/Integer", name := "stringSize", desc := "(I)I" } : Jvm.MethodName) jdk_33_method_13_code (4 : Nat) (Option.some Jvm.ClassFile.FieldType.int)).before args0 about1 = true := code_word (m := ⟨19, 1⟩) (meth := k19m1) (c := k19c1) (by decide +kernel) rfl rfl rfl (by decide +kernel)
set_option maxRecDepth 65536 in
theorem w_c30 : (Jvm.Cond.code ({ cls := "java/lang/AbstractStringBuilder", name := "isLatin1", desc := "()Z" } : Jvm.MethodName) jdk_68_method_68_code (1 : Nat) (Option.some Jvm.ClassFile.FieldType.boolean)).before args0 about1 = true := code_word (m := ⟨15, 8⟩) (meth := k15m8) (c := k15c8) (by decide +kernel) rfl rfl rfl (by decide +kernel)
set_option maxRecDepth 65536 in
theorem w_c31 : (Jvm.Cond.code ({ cls := "java/lang/Integer", name := "getChars", desc := "(II[B)I" } : Jvm.MethodName) jdk_33_method_12_code (7 : Nat) (Option.some Jvm.ClassFile.FieldType.int)).before args0 about1 = true := code_word (m := ⟨19, 0⟩) (meth := k19m0) (c := k19c0) (by decide +kernel) rfl rfl rfl (by decide +kernel)
set_option maxRecDepth 65536 in
theorem w_c32 : (Jvm.Cond.code ({ cls := "java/lang/StringBuilder", name := "toString", desc := "()Ljava/lang/String;" } : Jvm.MethodName) jdk_67_method_42_code (1 : Nat) (Option.some (Jvm.ClassFile.FieldType.object "java/lang/String"))).before args0 about1 = true := code_word (m := ⟨16, 3⟩) (meth := k16m3) (c := k16c3) (by decide +kernel) rfl rfl rfl (by decide +kernel)
set_option maxRecDepth 65536 in
theorem w_c33 : (Jvm.Cond.code ({ cls := "java/lang/String", name := "<init>", desc := "(Ljava/lang/StringBuilder;)V" } : Jvm.MethodName) jdk_42_method_53_code (2 : Nat) (Option.none : Option Jvm.ClassFile.FieldType)).before args0 about1 = true := code_word (m := ⟨7, 2⟩) (meth := k7m2) (c := k7c2) (by decide +kernel) rfl rfl rfl (by decide +kernel)
set_option maxRecDepth 65536 in
theorem w_c34 : (Jvm.Cond.code ({ cls := "java/lang/String", name := "<init>", desc := "(Ljava/lang/AbstractStringBuilder;Ljava/lang/Void;)V" } : Jvm.MethodName) jdk_42_method_150_code (5 : Nat) (Option.none : Option Jvm.ClassFile.FieldType)).before args0 about1 = true := code_word (m := ⟨7, 8⟩) (meth := k7m8) (c := k7c8) (by decide +kernel) rfl rfl rfl (by decide +kernel)
set_option maxRecDepth 65536 in
theorem w_c35 : (Jvm.Cond.code ({ cls := "java/lang/AbstractStringBuilder", name := "getValue", desc := "()[B" } : Jvm.MethodName) jdk_68_method_64_code (1 : Nat) (Option.some (Jvm.ClassFile.FieldType.array Jvm.ClassFile.FieldType.byte))).before args0 about1 = true := code_word (m := ⟨15, 7⟩) (meth := k15m7) (c := k15c7) (by decide +kernel) rfl rfl rfl (by decide +kernel)
set_option maxRecDepth 65536 in
theorem w_c36 : (Jvm.Cond.code ({ cls := "java/lang/StringBuilder", name := "length", desc := "()I" } : Jvm.MethodName) jdk_67_method_93_code (1 : Nat) (Option.some Jvm.ClassFile.FieldType.int)).before args0 about1 = true := code_word (m := ⟨16, 4⟩) (meth := k16m4) (c := k16c4) (by decide +kernel) rfl rfl rfl (by decide +kernel)
set_option maxRecDepth 65536 in
theorem w_c37 : (Jvm.Cond.code ({ cls := "java/lang/AbstractStringBuilder", name := "length", desc := "()I" } : Jvm.MethodName) jdk_68_method_6_code (1 : Nat) (Option.some Jvm.ClassFile.FieldType.int)).before args0 about1 = true := code_word (m := ⟨15, 2⟩) (meth := k15m2) (c := k15c2) (by decide +kernel) rfl rfl rfl (by decide +kernel)
set_option maxRecDepth 65536 in
theorem w_c38 : (Jvm.Cond.code ({ cls := "java/util/Arrays", name := "copyOfRange", desc := "([BII)[B" } : Jvm.MethodName) jdk_65_method_132_code (3 : Nat) (Option.some (Jvm.ClassFile.FieldType.array Jvm.ClassFile.FieldType.byte))).before args0 about1 = true := code_word (m := ⟨20, 3⟩) (meth := k20m3) (c := k20c3) (by decide +kernel) rfl rfl rfl (by decide +kernel)
set_option maxRecDepth 65536 in
theorem w_c39 : (Jvm.Cond.code ({ cls := "java/util/Arrays", name := "copyOfRangeByte", desc := "([BII)[B" } : Jvm.MethodName) jdk_65_method_133_code (5 : Nat) (Option.some (Jvm.ClassFile.FieldType.array Jvm.ClassFile.FieldType.byte))).before args0 about1 = true := code_word (m := ⟨20, 4⟩) (meth := k20m4) (c := k20c4) (by decide +kernel) rfl rfl rfl (by decide +kernel)
set_option maxRecDepth 65536 in
theorem w_c40 : (Jvm.Cond.code ({ cls := "java/util/Arrays", name := "checkLength", desc := "(II)V" } : Jvm.MethodName) jdk_65_method_131_code (2 : Nat) (Option.none : Option Jvm.ClassFile.FieldType)).before args0 about1 = true := code_word (m := ⟨20, 2⟩) (meth := k20m2) (c := k20c2) (by decide +kernel) rfl rfl rfl (by decide +kernel)
set_option maxRecDepth 65536 in
theorem w_c41 : (Jvm.Cond.code ({ cls := "java/lang/Math", name := "min", desc := "(II)I" } : Jvm.MethodName) jdk_29_method_69_code (2 : Nat) (Option.some Jvm.ClassFile.FieldType.int)).before args0 about1 = true := code_word (m := ⟨21, 2⟩) (meth := k21m2) (c := k21c2) (by decide +kernel) rfl rfl rfl (by decide +kernel)
set_option maxRecDepth 65536 in
theorem w_c42 : (Jvm.Cond.code ({ cls := "java/lang/Exception", name := "<init>", desc := "(Ljava/lang/String;)V" } : Jvm.MethodName) jdk_59_method_2_code (2 : Nat) (Option.none : Option Jvm.ClassFile.FieldType)).before args0 about1 = true := code_word (m := ⟨12, 1⟩) (meth := k12m1) (c := k12c1) (by decide +kernel) rfl rfl rfl (by decide +kernel)
set_option maxRecDepth 65536 in
theorem w_c43 : (Jvm.Cond.code ({ cls := "java/lang/Throwable", name := "<init>", desc := "(Ljava/lang/String;)V" } : Jvm.MethodName) jdk_78_method_2_code (2 : Nat) (Option.none : Option Jvm.ClassFile.FieldType)).before args0 about1 = true := code_word (m := ⟨11, 1⟩) (meth := k11m1) (c := k11c1) (by decide +kernel) rfl rfl rfl (by decide +kernel)
set_option maxRecDepth 65536 in
theorem w_c44 : (Jvm.Cond.code ({ cls := "java/lang/Throwable", name := "<init>", desc := "()V" } : Jvm.MethodName) jdk_78_method_1_code (1 : Nat) (Option.none : Option Jvm.ClassFile.FieldType)).before args0 about1 = true := code_word (m := ⟨11, 0⟩) (meth := k11m0) (c := k11c0) (by decide +kernel) rfl rfl rfl (by decide +kernel)
set_option maxRecDepth 65536 in
theorem w_c45 : (Jvm.Cond.code ({ cls := "java/lang/Throwable", name := "getMessage", desc := "()Ljava/lang/String;" } : Jvm.MethodName) jdk_78_method_6_code (1 : Nat) (Option.some (Jvm.ClassFile.FieldType.object "java/lang/String"))).before args0 about1 = true := code_word (m := ⟨11, 2⟩) (meth := k11m2) (c := k11c2) (by decide +kernel) rfl rfl rfl (by decide +kernel)
set_option maxRecDepth 65536 in
theorem w_c46 : (Jvm.Cond.code ({ cls := "java/lang/String", name := "equals", desc := "(Ljava/lang/Object;)Z" } : Jvm.MethodName) jdk_42_method_66_code (3 : Nat) (Option.some Jvm.ClassFile.FieldType.boolean)).before args0 about1 = true := code_word (m := ⟨7, 4⟩) (meth := k7m4) (c := k7c4) (by decide +kernel) rfl rfl rfl (by decide +kernel)
set_option maxRecDepth 65536 in
theorem w_c47 : (Jvm.Cond.code ({ cls := "java/lang/StringLatin1", name := "equals", desc := "([B[B)Z" } : Jvm.MethodName) jdk_43_method_13_code (3 : Nat) (Option.some Jvm.ClassFile.FieldType.boolean)).before args0 about1 = true := code_word (m := ⟨22, 1⟩) (meth := k22m1) (c := k22c1) (by decide +kernel) rfl rfl rfl (by decide +kernel)
set_option maxRecDepth 65536 in
theorem w_c48 : (Jvm.Cond.code ({ cls := "quadrille/Lexer", name := "consume", desc := "(Ljava/lang/String;)Z" } : Jvm.MethodName) prog_70_method_12_code (2 : Nat) (Option.some Jvm.ClassFile.FieldType.boolean)).before args0 about1 = true := code_word (m := ⟨9, 5⟩) (meth := k9m5) (c := k9c5) (by decide +kernel) rfl rfl rfl (by decide +kernel)
set_option maxRecDepth 65536 in
theorem w_c49 : (Jvm.Cond.code ({ cls := "java/lang/String", name := "startsWith", desc := "(Ljava/lang/String;I)Z" } : Jvm.MethodName) jdk_42_method_75_code (8 : Nat) (Option.some Jvm.ClassFile.FieldType.boolean)).before args0 about1 = true := code_word (m := ⟨7, 5⟩) (meth := k7m5) (c := k7c5) (by decide +kernel) rfl rfl rfl (by decide +kernel)
set_option maxRecDepth 65536 in
theorem w_c50 : (Jvm.Cond.code ({ cls := "jdk/internal/util/ArraysSupport", name := "mismatch", desc := "([BI[BII)I" } : Jvm.MethodName) jdk_48_method_14_code (8 : Nat) (Option.some Jvm.ClassFile.FieldType.int)).before args0 about1 = true := code_word (m := ⟨23, 1⟩) (meth := k23m1) (c := k23c1) (by decide +kernel) rfl rfl rfl (by decide +kernel)
set_option maxRecDepth 65536 in
theorem w_c51 : (Jvm.Cond.code ({ cls := "quadrille/Lexer", name := "atEnd", desc := "()Z" } : Jvm.MethodName) prog_70_method_8_code (1 : Nat) (Option.some Jvm.ClassFile.FieldType.boolean)).before args0 about1 = true := code_word (m := ⟨9, 4⟩) (meth := k9m4) (c := k9c4) (by decide +kernel) rfl rfl rfl (by decide +kernel)
set_option maxRecDepth 65536 in
theorem w_c52 : (Jvm.Cond.code ({ cls := "java/lang/AbstractStringBuilder", name := "newCapacity", desc := "(I)I" } : Jvm.MethodName) jdk_68_method_10_code (6 : Nat) (Option.some Jvm.ClassFile.FieldType.int)).before args0 about1 = true := code_word (m := ⟨15, 4⟩) (meth := k15m4) (c := k15c4) (by decide +kernel) rfl rfl rfl (by decide +kernel)
set_option maxRecDepth 65536 in
theorem w_c53 : (Jvm.Cond.code ({ cls := "jdk/internal/util/ArraysSupport", name := "newLength", desc := "(III)I" } : Jvm.MethodName) jdk_48_method_27_code (4 : Nat) (Option.some Jvm.ClassFile.FieldType.int)).before args0 about1 = true := code_word (m := ⟨23, 2⟩) (meth := k23m2) (c := k23c2) (by decide +kernel) rfl rfl rfl (by decide +kernel)
set_option maxRecDepth 65536 in
theorem w_c54 : (Jvm.Cond.code ({ cls := "java/lang/Math", name := "max", desc := "(II)I" } : Jvm.MethodName) jdk_29_method_65_code (2 : Nat) (Option.some Jvm.ClassFile.FieldType.int)).before args0 about1 = true := code_word (m := ⟨21, 1⟩) (meth := k21m1) (c := k21c1) (by decide +kernel) rfl rfl rfl (by decide +kernel)
set_option maxRecDepth 65536 in
theorem w_c55 : (Jvm.Cond.code ({ cls := "java/util/Arrays", name := "copyOf", desc := "([BI)[B" } : Jvm.MethodName) jdk_65_method_121_code (3 : Nat) (Option.some (Jvm.ClassFile.FieldType.array Jvm.ClassFile.FieldType.byte))).before args0 about1 = true := code_word (m := ⟨20, 1⟩) (meth := k20m1) (c := k20c1) (by decide +kernel) rfl rfl rfl (by decide +kernel)
def codes1 : List Jvm.Cond := [Jvm.Cond.code x code maxLocals ret, Jvm.Cond.code ({ cls := "quadrille/LexerResetPinLaw", name := "make", desc := "(ICCC)Ljava/lang/String;" } : Jvm.MethodName) method_2_code (4 : Nat) (Option.some (Jvm.ClassFile.FieldType.object "java/lang/String")), Jvm.Cond.code ({ cls := "java/lang/String", name := "<init>", desc := "([C)V" } : Jvm.MethodName) jdk_42_method_3_code (2 : Nat) (Option.none : Option Jvm.ClassFile.FieldType), Jvm.Cond.code ({ cls := "java/lang/String", name := "<init>", desc := "([CIILjava/lang/Void;)V" } : Jvm.MethodName) jdk_42_method_149_code (6 : Nat) (Option.none : Option Jvm.ClassFile.FieldType), Jvm.Cond.code ({ cls := "java/lang/Object", name := "<init>", desc := "()V" } : Jvm.MethodName) object_method_1_code (1 : Nat) (Option.none : Option Jvm.ClassFile.FieldType), Jvm.Cond.code ({ cls := "java/lang/StringUTF16", name := "compress", desc := "([CII)[B" } : Jvm.MethodName) jdk_52_method_16_code (6 : Nat) (Option.some (Jvm.ClassFile.FieldType.array Jvm.ClassFile.FieldType.byte)), Jvm.Cond.code ({ cls := "java/lang/StringUTF16", name := "compress", desc := "([CI[BII)I" } : Jvm.MethodName) jdk_52_method_21_code (7 : Nat) (Option.some Jvm.ClassFile.FieldType.int), Jvm.Cond.code ({ cls := "java/lang/StringUTF16", name := "coderFromArrayLen", desc := "([BI)B" } : Jvm.MethodName) jdk_52_method_15_code (2 : Nat) (Option.some Jvm.ClassFile.FieldType.byte), Jvm.Cond.code ({ cls := "quadrille/Lexer", name := "<init>", desc := "(Ljava/lang/String;Ljava/lang/String;)V" } : Jvm.MethodName) prog_70_method_1_code (3 : Nat) (Option.none : Option Jvm.ClassFile.FieldType), Jvm.Cond.code ({ cls := "quadrille/Lexer", name := "reset", desc := "(Ljava/lang/String;I)V" } : Jvm.MethodName) prog_70_method_2_code (3 : Nat) (Option.none : Option Jvm.ClassFile.FieldType), Jvm.Cond.code ({ cls := "quadrille/Lexer", name := "moveTo", desc := "(I)V" } : Jvm.MethodName) prog_70_method_7_code (2 : Nat) (Option.none : Option Jvm.ClassFile.FieldType), Jvm.Cond.code ({ cls := "quadrille/Lexer", name := "position", desc := "()I" } : Jvm.MethodName) prog_70_method_6_code (1 : Nat) (Option.some Jvm.ClassFile.FieldType.int), Jvm.Cond.code ({ cls := "quadrille/Lexer", name := "error", desc := "(ILjava/lang/String;)Lquadrille/SyntaxException;" } : Jvm.MethodName) prog_70_method_19_code (5 : Nat) (Option.some (Jvm.ClassFile.FieldType.object "quadrille/SyntaxException")), Jvm.Cond.code ({ cls := "quadrille/LineColumn", name := "<init>", desc := "(I)V" } : Jvm.MethodName) prog_72_method_1_code (2 : Nat) (Option.none : Option Jvm.ClassFile.FieldType), Jvm.Cond.code ({ cls := "quadrille/LineColumn", name := "line", desc := "()I" } : Jvm.MethodName) prog_72_method_3_code (1 : Nat) (Option.some Jvm.ClassFile.FieldType.int), Jvm.Cond.code ({ cls := "quadrille/LineColumn", name := "column", desc := "()I" } : Jvm.MethodName) prog_72_method_4_code (1 : Nat) (Option.some Jvm.ClassFile.FieldType.int), Jvm.Cond.code ({ cls := "quadrille/SyntaxException", name := "<init>", desc := "(Ljava/lang/String;IILjava/lang/String;)V" } : Jvm.MethodName) prog_176_method_1_code (5 : Nat) (Option.none : Option Jvm.ClassFile.FieldType), Jvm.Cond.code ({ cls := "java/lang/StringBuilder", name := "<init>", desc := "()V" } : Jvm.MethodName) jdk_67_method_1_code (1 : Nat) (Option.none : Option Jvm.ClassFile.FieldType), Jvm.Cond.code ({ cls := "java/lang/AbstractStringBuilder", name := "<init>", desc := "(I)V" } : Jvm.MethodName) jdk_68_method_2_code (2 : Nat) (Option.none : Option Jvm.ClassFile.FieldType), Jvm.Cond.code ({ cls := "java/lang/StringBuilder", name := "append", desc := "(Ljava/lang/String;)Ljava/lang/StringBuilder;" } : Jvm.MethodName) jdk_67_method_7_code (2 : Nat) (Option.some (Jvm.ClassFile.FieldType.object "java/lang/StringBuilder")), Jvm.Cond.code ({ cls := "java/lang/AbstractStringBuilder", name := "append", desc := "(Ljava/lang/String;)Ljava/lang/AbstractStringBuilder;" } : Jvm.MethodName) jdk_68_method_22_code (3 : Nat) (Option.some (Jvm.ClassFile.FieldType.object "java/lang/AbstractStringBuilder")), Jvm.Cond.code ({ cls := "java/lang/String", name := "length", desc := "()I" } : Jvm.MethodName) jdk_42_method_54_code (1 : Nat) (Option.some Jvm.ClassFile.FieldType.int), Jvm.Cond.code ({ cls := "java/lang/String", name := "coder", desc := "()B" } : Jvm.MethodName) jdk_42_method_152_code (1 : Nat) (Option.some Jvm.ClassFile.FieldType.byte), Jvm.Cond.code ({ cls := "java/lang/AbstractStringBuilder", name := "ensureCapacityInternal", desc := "(I)V" } : Jvm.MethodName) jdk_68_method_9_code (3 : Nat) (Option.none : Option Jvm.ClassFile.FieldType), Jvm.Cond.code ({ cls := "java/lang/AbstractStringBuilder", name := "putStringAt", desc := "(ILjava/lang/String;)V" } : Jvm.MethodName) jdk_68_method_73_code (3 : Nat) (Option.none : Option Jvm.ClassFile.FieldType), Jvm.Cond.code ({ cls := "java/lang/AbstractStringBuilder", name := "inflateIfNeededFor", desc := "(Ljava/lang/String;)V" } : Jvm.MethodName) jdk_68_method_71_code (2 : Nat) (Option.none : Option Jvm.ClassFile.FieldType), Jvm.Cond.code ({ cls := "java/lang/String", name := "getBytes", desc := "([BIB)V" } : Jvm.MethodName) jdk_42_method_147_code (4 : Nat) (Option.none : Option Jvm.ClassFile.FieldType), Jvm.Cond.code ({ cls := "java/lang/StringBuilder", name := "append", desc := "(I)Ljava/lang/StringBuilder;" } : Jvm.MethodName) jdk_67_method_15_code (2 : Nat) (Option.some (Jvm.ClassFile.FieldType.object "java/lang/StringBuilder")), Jvm.Cond.code ({ cls := "java/lang/AbstractStringBuilder", name := "append", desc := "(I)Ljava/lang/AbstractStringBuilder;" } : Jvm.MethodName) jdk_68_method_32_code (4 : Nat) (Option.some (Jvm.ClassFile.FieldType.object "java/lang/AbstractStringBuilder")), Jvm.Cond.code ({ cls := "java/lang/Integer", name := "stringSize", desc := "(I)I" } : Jvm.MethodName) jdk_33_method_13_code (4 : Nat) (Option.some Jvm.ClassFile.FieldType.int), Jvm.Cond.code ({ cls := "java/lang/AbstractStringBuilder", name := "isLatin1", desc := "()Z" } : Jvm.MethodName) jdk_68_method_68_code (1 : Nat) (Option.some Jvm.ClassFile.FieldType.boolean), Jvm.Cond.code ({ cls := "java/lang/Integer", name := "getChars", desc := "(II[B)I" } : Jvm.MethodName) jdk_33_method_12_code (7 : Nat) (Option.some Jvm.ClassFile.FieldType.int), Jvm.Cond.code ({ cls := "java/lang/StringBuilder", name := "toString", desc := "()Ljava/lang/String;" } : Jvm.MethodName) jdk_67_method_42_code (1 : Nat) (Option.some (Jvm.ClassFile.FieldType.object "java/lang/String")), Jvm.Cond.code ({ cls := "java/lang/String", name := "<init>", desc := "(Ljava/lang/StringBuilder;)V" } : Jvm.MethodName) jdk_42_method_53_code (2 : Nat) (Option.none : Option Jvm.ClassFile.FieldType), Jvm.Cond.code ({ cls := "java/lang/String", name := "<init>", desc := "(Ljava/lang/AbstractStringBuilder;Ljava/lang/Void;)V" } : Jvm.MethodName) jdk_42_method_150_code (5 : Nat) (Option.none : Option Jvm.ClassFile.FieldType), Jvm.Cond.code ({ cls := "java/lang/AbstractStringBuilder", name := "getValue", desc := "()[B" } : Jvm.MethodName) jdk_68_method_64_code (1 : Nat) (Option.some (Jvm.ClassFile.FieldType.array Jvm.ClassFile.FieldType.byte)), Jvm.Cond.code ({ cls := "java/lang/StringBuilder", name := "length", desc := "()I" } : Jvm.MethodName) jdk_67_method_93_code (1 : Nat) (Option.some Jvm.ClassFile.FieldType.int), Jvm.Cond.code ({ cls := "java/lang/AbstractStringBuilder", name := "length", desc := "()I" } : Jvm.MethodName) jdk_68_method_6_code (1 : Nat) (Option.some Jvm.ClassFile.FieldType.int), Jvm.Cond.code ({ cls := "java/util/Arrays", name := "copyOfRange", desc := "([BII)[B" } : Jvm.MethodName) jdk_65_method_132_code (3 : Nat) (Option.some (Jvm.ClassFile.FieldType.array Jvm.ClassFile.FieldType.byte)), Jvm.Cond.code ({ cls := "java/util/Arrays", name := "copyOfRangeByte", desc := "([BII)[B" } : Jvm.MethodName) jdk_65_method_133_code (5 : Nat) (Option.some (Jvm.ClassFile.FieldType.array Jvm.ClassFile.FieldType.byte)), Jvm.Cond.code ({ cls := "java/util/Arrays", name := "checkLength", desc := "(II)V" } : Jvm.MethodName) jdk_65_method_131_code (2 : Nat) (Option.none : Option Jvm.ClassFile.FieldType), Jvm.Cond.code ({ cls := "java/lang/Math", name := "min", desc := "(II)I" } : Jvm.MethodName) jdk_29_method_69_code (2 : Nat) (Option.some Jvm.ClassFile.FieldType.int), Jvm.Cond.code ({ cls := "java/lang/Exception", name := "<init>", desc := "(Ljava/lang/String;)V" } : Jvm.MethodName) jdk_59_method_2_code (2 : Nat) (Option.none : Option Jvm.ClassFile.FieldType), Jvm.Cond.code ({ cls := "java/lang/Throwable", name := "<init>", desc := "(Ljava/lang/String;)V" } : Jvm.MethodName) jdk_78_method_2_code (2 : Nat) (Option.none : Option Jvm.ClassFile.FieldType), Jvm.Cond.code ({ cls := "java/lang/Throwable", name := "<init>", desc := "()V" } : Jvm.MethodName) jdk_78_method_1_code (1 : Nat) (Option.none : Option Jvm.ClassFile.FieldType), Jvm.Cond.code ({ cls := "java/lang/Throwable", name := "getMessage", desc := "()Ljava/lang/String;" } : Jvm.MethodName) jdk_78_method_6_code (1 : Nat) (Option.some (Jvm.ClassFile.FieldType.object "java/lang/String")), Jvm.Cond.code ({ cls := "java/lang/String", name := "equals", desc := "(Ljava/lang/Object;)Z" } : Jvm.MethodName) jdk_42_method_66_code (3 : Nat) (Option.some Jvm.ClassFile.FieldType.boolean), Jvm.Cond.code ({ cls := "java/lang/StringLatin1", name := "equals", desc := "([B[B)Z" } : Jvm.MethodName) jdk_43_method_13_code (3 : Nat) (Option.some Jvm.ClassFile.FieldType.boolean), Jvm.Cond.code ({ cls := "quadrille/Lexer", name := "consume", desc := "(Ljava/lang/String;)Z" } : Jvm.MethodName) prog_70_method_12_code (2 : Nat) (Option.some Jvm.ClassFile.FieldType.boolean), Jvm.Cond.code ({ cls := "java/lang/String", name := "startsWith", desc := "(Ljava/lang/String;I)Z" } : Jvm.MethodName) jdk_42_method_75_code (8 : Nat) (Option.some Jvm.ClassFile.FieldType.boolean), Jvm.Cond.code ({ cls := "jdk/internal/util/ArraysSupport", name := "mismatch", desc := "([BI[BII)I" } : Jvm.MethodName) jdk_48_method_14_code (8 : Nat) (Option.some Jvm.ClassFile.FieldType.int), Jvm.Cond.code ({ cls := "quadrille/Lexer", name := "atEnd", desc := "()Z" } : Jvm.MethodName) prog_70_method_8_code (1 : Nat) (Option.some Jvm.ClassFile.FieldType.boolean), Jvm.Cond.code ({ cls := "java/lang/AbstractStringBuilder", name := "newCapacity", desc := "(I)I" } : Jvm.MethodName) jdk_68_method_10_code (6 : Nat) (Option.some Jvm.ClassFile.FieldType.int), Jvm.Cond.code ({ cls := "jdk/internal/util/ArraysSupport", name := "newLength", desc := "(III)I" } : Jvm.MethodName) jdk_48_method_27_code (4 : Nat) (Option.some Jvm.ClassFile.FieldType.int), Jvm.Cond.code ({ cls := "java/lang/Math", name := "max", desc := "(II)I" } : Jvm.MethodName) jdk_29_method_65_code (2 : Nat) (Option.some Jvm.ClassFile.FieldType.int), Jvm.Cond.code ({ cls := "java/util/Arrays", name := "copyOf", desc := "([BI)[B" } : Jvm.MethodName) jdk_65_method_121_code (3 : Nat) (Option.some (Jvm.ClassFile.FieldType.array Jvm.ClassFile.FieldType.byte))]
set_option maxRecDepth 65536 in
theorem codes_eq : words1.filter isCode = codes1 := rfl
theorem w_codes : ∀ c ∈ words1.filter isCode, c.before args0 about1 = true := by
  rw [codes_eq]
  intro c hc
  simp only [codes1, List.mem_cons, List.not_mem_nil, or_false] at hc
  rcases hc with rfl | rfl | rfl | rfl | rfl | rfl | rfl | rfl | rfl | rfl | rfl | rfl | rfl | rfl | rfl | rfl | rfl | rfl | rfl | rfl | rfl | rfl | rfl | rfl | rfl | rfl | rfl | rfl | rfl | rfl | rfl | rfl | rfl | rfl | rfl | rfl | rfl | rfl | rfl | rfl | rfl | rfl | rfl | rfl | rfl | rfl | rfl | rfl | rfl | rfl | rfl | rfl | rfl | rfl | rfl | rfl
  · exact w_c0
  · exact w_c1
  · exact w_c2
  · exact w_c3
  · exact w_c4
  · exact w_c5
  · exact w_c6
  · exact w_c7
  · exact w_c8
  · exact w_c9
  · exact w_c10
  · exact w_c11
  · exact w_c12
  · exact w_c13
  · exact w_c14
  · exact w_c15
  · exact w_c16
  · exact w_c17
  · exact w_c18
  · exact w_c19
  · exact w_c20
  · exact w_c21
  · exact w_c22
  · exact w_c23
  · exact w_c24
  · exact w_c25
  · exact w_c26
  · exact w_c27
  · exact w_c28
  · exact w_c29
  · exact w_c30
  · exact w_c31
  · exact w_c32
  · exact w_c33
  · exact w_c34
  · exact w_c35
  · exact w_c36
  · exact w_c37
  · exact w_c38
  · exact w_c39
  · exact w_c40
  · exact w_c41
  · exact w_c42
  · exact w_c43
  · exact w_c44
  · exact w_c45
  · exact w_c46
  · exact w_c47
  · exact w_c48
  · exact w_c49
  · exact w_c50
  · exact w_c51
  · exact w_c52
  · exact w_c53
  · exact w_c54
  · exact w_c55
set_option maxRecDepth 65536 in
theorem w_t1 : (words1.take 24).all (fun c => isCode c || c.before args0 about1) = true := by decide +kernel
set_option maxRecDepth 65536 in
theorem w_t2 : ((words1.drop 24).take 24).all (fun c => isCode c || c.before args0 about1) = true := by decide +kernel
set_option maxRecDepth 65536 in
theorem w_t3 : (((words1.drop 24).drop 24).take 24).all (fun c => isCode c || c.before args0 about1) = true := by decide +kernel
set_option maxRecDepth 65536 in
theorem w_t4 : ((((words1.drop 24).drop 24).drop 24).take 24).all (fun c => isCode c || c.before args0 about1) = true := by decide +kernel
set_option maxRecDepth 65536 in
theorem w_t5 : (((((words1.drop 24).drop 24).drop 24).drop 24).take 24).all (fun c => isCode c || c.before args0 about1) = true := by decide +kernel
set_option maxRecDepth 65536 in
theorem w_t6 : ((((((words1.drop 24).drop 24).drop 24).drop 24).drop 24).take 24).all (fun c => isCode c || c.before args0 about1) = true := by decide +kernel
set_option maxRecDepth 65536 in
theorem w_t7 : (((((((words1.drop 24).drop 24).drop 24).drop 24).drop 24).drop 24).take 24).all (fun c => isCode c || c.before args0 about1) = true := by decide +kernel
set_option maxRecDepth 65536 in
theorem w_t8 : ((((((((words1.drop 24).drop 24).drop 24).drop 24).drop 24).drop 24).drop 24).take 24).all (fun c => isCode c || c.before args0 about1) = true := by decide +kernel
set_option maxRecDepth 65536 in
theorem w_t9 : (((((((((words1.drop 24).drop 24).drop 24).drop 24).drop 24).drop 24).drop 24).drop 24).take 24).all (fun c => isCode c || c.before args0 about1) = true := by decide +kernel
set_option maxRecDepth 65536 in
theorem w_t10 : ((((((((((words1.drop 24).drop 24).drop 24).drop 24).drop 24).drop 24).drop 24).drop 24).drop 24).take 24).all (fun c => isCode c || c.before args0 about1) = true := by decide +kernel
set_option maxRecDepth 65536 in
theorem w_t11 : (((((((((((words1.drop 24).drop 24).drop 24).drop 24).drop 24).drop 24).drop 24).drop 24).drop 24).drop 24).take 24).all (fun c => isCode c || c.before args0 about1) = true := by decide +kernel
set_option maxRecDepth 65536 in
theorem w_t12 : ((((((((((((words1.drop 24).drop 24).drop 24).drop 24).drop 24).drop 24).drop 24).drop 24).drop 24).drop 24).drop 24).take 24).all (fun c => isCode c || c.before args0 about1) = true := by decide +kernel
set_option maxRecDepth 65536 in
theorem w_t13 : (((((((((((((words1.drop 24).drop 24).drop 24).drop 24).drop 24).drop 24).drop 24).drop 24).drop 24).drop 24).drop 24).drop 24).take 24).all (fun c => isCode c || c.before args0 about1) = true := by decide +kernel
set_option maxRecDepth 65536 in
theorem w_t14 : ((((((((((((((words1.drop 24).drop 24).drop 24).drop 24).drop 24).drop 24).drop 24).drop 24).drop 24).drop 24).drop 24).drop 24).drop 24).take 24).all (fun c => isCode c || c.before args0 about1) = true := by decide +kernel
set_option maxRecDepth 65536 in
theorem w_t15 : ((((((((((((((words1.drop 24).drop 24).drop 24).drop 24).drop 24).drop 24).drop 24).drop 24).drop 24).drop 24).drop 24).drop 24).drop 24).drop 24).all (fun c => isCode c || c.before args0 about1) = true := by decide +kernel
theorem w_tables : (allAtoms (Jvm.Cond.code x code maxLocals ret :: tables_1)).before args0 about1 = true := by
  rw [allAtoms_all]
  show words1.all (fun c => c.before args0 about1) = true
  refine all_split ?_ w_codes
  rw [← List.take_append_drop 24 words1, List.all_append, w_t1, ← List.take_append_drop 24 (words1.drop 24), List.all_append, w_t2, ← List.take_append_drop 24 ((words1.drop 24).drop 24), List.all_append, w_t3, ← List.take_append_drop 24 (((words1.drop 24).drop 24).drop 24), List.all_append, w_t4, ← List.take_append_drop 24 ((((words1.drop 24).drop 24).drop 24).drop 24), List.all_append, w_t5, ← List.take_append_drop 24 (((((words1.drop 24).drop 24).drop 24).drop 24).drop 24), List.all_append, w_t6, ← List.take_append_drop 24 ((((((words1.drop 24).drop 24).drop 24).drop 24).drop 24).drop 24), List.all_append, w_t7, ← List.take_append_drop 24 (((((((words1.drop 24).drop 24).drop 24).drop 24).drop 24).drop 24).drop 24), List.all_append, w_t8, ← List.take_append_drop 24 ((((((((words1.drop 24).drop 24).drop 24).drop 24).drop 24).drop 24).drop 24).drop 24), List.all_append, w_t9, ← List.take_append_drop 24 (((((((((words1.drop 24).drop 24).drop 24).drop 24).drop 24).drop 24).drop 24).drop 24).drop 24), List.all_append, w_t10, ← List.take_append_drop 24 ((((((((((words1.drop 24).drop 24).drop 24).drop 24).drop 24).drop 24).drop 24).drop 24).drop 24).drop 24), List.all_append, w_t11, ← List.take_append_drop 24 (((((((((((words1.drop 24).drop 24).drop 24).drop 24).drop 24).drop 24).drop 24).drop 24).drop 24).drop 24).drop 24), List.all_append, w_t12, ← List.take_append_drop 24 ((((((((((((words1.drop 24).drop 24).drop 24).drop 24).drop 24).drop 24).drop 24).drop 24).drop 24).drop 24).drop 24).drop 24), List.all_append, w_t13, ← List.take_append_drop 24 (((((((((((((words1.drop 24).drop 24).drop 24).drop 24).drop 24).drop 24).drop 24).drop 24).drop 24).drop 24).drop 24).drop 24).drop 24), List.all_append, w_t14, w_t15]
  rfl
set_option maxRecDepth 65536 in
theorem w_rest : rest_1_c.before args0 about1 = true := by decide +kernel
set_option maxRecDepth 65536 in
theorem w_case : (Jvm.Cond.and given_1 narrow_1).before args0 about1 = true := by decide +kernel
set_option maxRecDepth 65536 in
theorem w_consts : constsHeld consts_1 about1 := Jvm.Lit.constsHeldB_iff.mp (by decide +kernel)
theorem w_applies : (headSpec (Jvm.Cond.code x code maxLocals ret :: tables_1) room_1).applies x e0.platform about1 = true :=
  (Spec.applies_iff w_frames).mpr ⟨w_running, w_runnable, w_alone, w_named, w_hears, w_ripe, w_room, w_tables⟩
theorem atStart : AtStart classFile x code maxLocals ret World_1 tables_1 room_1 Calls_1 rest_1 Pre_1 launch0 p0 e0 about1 theMethod args0 below0 :=
  ⟨lists_1, trivial, launch0.admits_env _ _ _, launch0.least_env, fairChoices_fair.cas, fairChoices_fair.clock, w_frames, w_args, w_heap, w_applies, ⟨(by decide +kernel : framesKnown about1 = true), ⟨(by decide +kernel : tablesKnown about1 = true), ⟨w_consts, trivial⟩⟩⟩, w_rest, w_case⟩
end start1
theorem witness_1 : WitnessClaimed_1 := ⟨start1.p0, start1.e0, start1.about1, start1.theMethod, start1.args0, start1.below0, start1.atStart⟩
end Jvm.Pilot.@@N@@
