import JvmDerived
import JvmDerived.Pilot.@@N@@Statement
import JvmDerived.Pilot.@@N@@Code
set_option linter.unusedVariables false
set_option linter.unusedSimpArgs false
@@BLOCK:HandJ.lean.txt@@
@@BLOCK:SymMore.lean.txt@@
namespace Jvm.OwnKit
open Sem ClassFile Op Lib Jvm.Stand Jvm.Free Jvm.LawKit Jvm.RoadKit
/-- what is fixed in the whole proof: the launch, the start (whose tables the words speak of), its arguments, the least new address -/
abbrev Gx := Launch × State × Array Value × Nat
abbrev Gx.l (G : Gx) : Launch := G.1
abbrev Gx.Z (G : Gx) : State := G.2.1
abbrev Gx.a0 (G : Gx) : Array Value := G.2.2.1
abbrev Gx.n0 (G : Gx) : Nat := G.2.2.2
/-- what is fixed in one body's walk -/
abbrev Kx := Program × Env × State × MethodId × Array Value × List Frame × Method × Code
abbrev Kx.p (K : Kx) : Program := K.1
abbrev Kx.e (K : Kx) : Env := K.2.1
abbrev Kx.s (K : Kx) : State := K.2.2.1
abbrev Kx.m (K : Kx) : MethodId := K.2.2.2.1
abbrev Kx.args (K : Kx) : Array Value := K.2.2.2.2.1
abbrev Kx.below (K : Kx) : List Frame := K.2.2.2.2.2.1
abbrev Kx.meth (K : Kx) : Method := K.2.2.2.2.2.2.1
abbrev Kx.c (K : Kx) : Code := K.2.2.2.2.2.2.2
def Cx (G : Gx) (K : Kx) (own nm : String) (bytes : ByteArray) (maxL : Nat) (ret : Option FieldType) (W : List Jvm.Cond) : Prop :=
  K.p.tables.exec = Jvm.exec ∧ G.Z.Warmed39 K.s.vm ∧ K.c.code = bytes ∧ K.c.maxLocals = maxL ∧ K.s.vm.findClass own = some K.m.cls ∧ K.meth.name = nm ∧ K.meth.sig.returnType = ret ∧ K.meth.locks = false ∧ ∀ d ∈ W, d.before G.a0 G.Z = true
section Cxs
variable {G : Gx} {K : Kx} {own nm : String} {bytes : ByteArray} {maxL : Nat} {ret : Option FieldType} {W : List Jvm.Cond}
theorem Cx.hx (C : Cx G K own nm bytes maxL ret W) : K.p.tables.exec = Jvm.exec := C.1
theorem Cx.hZ (C : Cx G K own nm bytes maxL ret W) : G.Z.Warmed39 K.s.vm := C.2.1
theorem Cx.by (C : Cx G K own nm bytes maxL ret W) : K.c.code = bytes := C.2.2.1
theorem Cx.ml (C : Cx G K own nm bytes maxL ret W) : K.c.maxLocals = maxL := C.2.2.2.1
theorem Cx.ow (C : Cx G K own nm bytes maxL ret W) : K.s.vm.findClass own = some K.m.cls := C.2.2.2.2.1
theorem Cx.name (C : Cx G K own nm bytes maxL ret W) : K.meth.name = nm := C.2.2.2.2.2.1
theorem Cx.rt (C : Cx G K own nm bytes maxL ret W) : K.meth.sig.returnType = ret := C.2.2.2.2.2.2.1
theorem Cx.lk (C : Cx G K own nm bytes maxL ret W) : K.meth.locks = false := C.2.2.2.2.2.2.2.1
theorem Cx.w (C : Cx G K own nm bytes maxL ret W) {i : Nat} {d : Jvm.Cond} (h : W[i]? = some d) : d.before G.a0 G.Z = true := C.2.2.2.2.2.2.2.2 d (List.mem_of_getElem? h)
end Cxs
/-- the run stands in this body at pc with these locals and this stack, over the heap h, having made so many cells and slots: it ends as Q says -/
def NE (G : Gx) (K : Kx) (rm : Room) (Q : State → Outcome → Prop) (h : Heap) (cells slots pc : Nat) (ls : Array Slot) (st : List Value) : Prop :=
  ∀ (T : State) (locs : List Loc), Stand K.p G.l K.e rm K.s K.m K.args K.below K.meth K.c T locs cells slots → T.heap = h → Fr G.n0 locs →
    ∃ s₂ o, Steps K.p.tables K.e K.below (T.setTop (mkF K.m pc ls st)) s₂ ∧ s₂.status = .running ∧ Ended s₂ K.below o ∧ Q s₂ o
/-- the end of a body that interns nothing -/
def EndP (G : Gx) (K : Kx) (rm : Room) (Q : Option Value → Heap → Prop) : State → Outcome → Prop := fun s₂ o => ∃ v L, o = .returned v ∧ (Q v s₂.heap ∧ Fr G.n0 L) ∧ FrameEnd K.s o s₂ L rm.cells rm.slots
abbrev N (G : Gx) (K : Kx) (rm : Room) (Q : Option Value → Heap → Prop) (h : Heap) (cells slots pc : Nat) (ls : Array Slot) (st : List Value) : Prop := NE G K rm (EndP G K rm Q) h cells slots pc ls st
/-- a body's contract -/
def Con (G : Gx) (y : MethodName) (bytes : ByteArray) (maxL : Nat) (ret : Option FieldType) (rm : Room) (as : Array Value) (h : Heap) (Q : Option Value → Heap → Prop) : Prop :=
  ∀ ws : List Jvm.Cond, MetFree G.l y (head1 (Jvm.Cond.code y bytes maxL ret :: ws) rm) (fun a U => a = as ∧ G.Z.Warmed39 U.vm ∧ U.heap = h) (fun _ _ _ _ _ => True) (fun _ U o U' => ∃ v L, o = .returned v ∧ (Q v U'.heap ∧ Fr G.n0 L) ∧ FrameEnd U o U' L rm.cells rm.slots)
theorem Con.of {G : Gx} {y : MethodName} {bytes : ByteArray} {maxL : Nat} {ret : Option FieldType} {rm : Room} {as : Array Value} {h : Heap} {Q : Option Value → Heap → Prop} {W : List Jvm.Cond} {ls : Array Slot} (hpl : plainFor y = true) (hW : ∀ d ∈ W, d.before G.a0 G.Z = true)
    (he : ∀ m, entryFrame m as maxL = mkF m 0 ls []) (body : ∀ K : Kx, Cx G K y.cls y.name bytes maxL ret W → N G K rm Q h 0 0 0 ls []) : Con G y bytes maxL ret rm as h Q := fun ws => by
  refine MetFree.of_bodySF hpl hisR ?_
  intro p e s m args below meth c s₁ Bd hml hP hK
  obtain ⟨rfl, hZ, hh⟩ := hP
  have X0 : Stand p G.l e rm s m args below meth c s₁ [] 0 0 := Stand.of_body Bd
  obtain ⟨s₂, o, h1, h2, h3, h4⟩ := body (p, e, s, m, args, below, meth, c) ⟨Bd.exec, hZ, Bd.bytes, hml, findClass_of_methodNamed Bd.named, (name_of_methodNamed Bd.named Bd.method).1, Bd.returns, BodyLoose.notSynchronized Bd, hW⟩ s₁ [] X0 (by rw [← hh, Bd.state]; rfl) (Fr.nil _)
  exact ⟨s₂, o, castTop (he m) h1, h2, h3, h4⟩
theorem Con.mono {G : Gx} {y : MethodName} {bytes : ByteArray} {maxL : Nat} {ret : Option FieldType} {rm : Room} {as : Array Value} {h : Heap} {Q Q' : Option Value → Heap → Prop} (M : Con G y bytes maxL ret rm as h Q) (f : ∀ v h', Q v h' → Q' v h') : Con G y bytes maxL ret rm as h Q' := fun ws p e ha hc hk s m args below hf happ hP hK => by
  obtain ⟨n, o, h1, h2, h3, v, L, h4, ⟨h5, h6⟩, h7⟩ := M ws p e ha hc hk s m args below hf happ hP hK
  exact ⟨n, o, h1, h2, h3, v, L, h4, ⟨f _ _ h5, h6⟩, h7⟩
def cmpP : ClassFile.Cond → Int32 → Int32 → Prop
  | .eq, x, y => x = y
  | .ne, x, y => ¬ x = y
  | .lt, x, y => x.toInt < y.toInt
  | .ge, x, y => y.toInt ≤ x.toInt
  | .gt, x, y => y.toInt < x.toInt
  | .le, x, y => x.toInt ≤ y.toInt
def cmpN : ClassFile.Cond → Int32 → Int32 → Prop
  | .eq, x, y => ¬ x = y
  | .ne, x, y => x = y
  | .lt, x, y => y.toInt ≤ x.toInt
  | .ge, x, y => x.toInt < y.toInt
  | .gt, x, y => x.toInt ≤ y.toInt
  | .le, x, y => y.toInt < x.toInt
theorem cmp_or (cd : ClassFile.Cond) (x y : Int32) : (if_icmp.holds cd x y = true ∧ cmpP cd x y) ∨ (if_icmp.holds cd x y = false ∧ cmpN cd x y) := by
  have e1 := @Int32.lt_iff_toInt_lt x y
  have e2 := @Int32.lt_iff_toInt_lt y x
  by_cases h1 : x < y
  · obtain ⟨a1, a2, a3, a4⟩ := tlt h1
    have q := e1.mp h1
    have n : ¬ x = y := fun e => by subst e; omega
    obtain ⟨b1, b2⟩ := feq n
    have n' : ¬ y < x := fun z => by have := e2.mp z; omega
    obtain ⟨c1, c2, c3, c4⟩ := flt n'
    cases cd <;> simp only [cmpP, cmpN] <;> simp_all <;> omega
  · obtain ⟨a1, a2, a3, a4⟩ := flt h1
    have q : ¬ x.toInt < y.toInt := fun z => h1 (e1.mpr z)
    by_cases h2 : x = y
    · obtain ⟨b1, b2⟩ := teq h2
      subst h2
      obtain ⟨c1, c2, c3, c4⟩ := flt h1
      cases cd <;> simp only [cmpP, cmpN] <;> simp_all
    · obtain ⟨b1, b2⟩ := feq h2
      have q2 : ¬ x.toInt = y.toInt := fun z => h2 (Int32.toInt_inj.mp z)
      obtain ⟨c1, c2, c3, c4⟩ := tlt (e2.mpr (by omega : y.toInt < x.toInt))
      cases cd <;> simp only [cmpP, cmpN] <;> simp_all <;> omega
def cmpPL : ClassFile.Cond → Int64 → Int64 → Prop
  | .eq, x, y => x = y
  | .ne, x, y => ¬ x = y
  | .lt, x, y => x.toInt < y.toInt
  | .ge, x, y => y.toInt ≤ x.toInt
  | .gt, x, y => y.toInt < x.toInt
  | .le, x, y => x.toInt ≤ y.toInt
def cmpNL : ClassFile.Cond → Int64 → Int64 → Prop
  | .eq, x, y => ¬ x = y
  | .ne, x, y => x = y
  | .lt, x, y => y.toInt ≤ x.toInt
  | .ge, x, y => x.toInt < y.toInt
  | .gt, x, y => x.toInt ≤ y.toInt
  | .le, x, y => y.toInt < x.toInt
theorem cmp_orL (cd : ClassFile.Cond) (x y : Int64) : (ifCond.holds cd (lcmpW x y) = true ∧ cmpPL cd x y) ∨ (ifCond.holds cd (lcmpW x y) = false ∧ cmpNL cd x y) := by
  have hl : (lcmpW x y).toInt < (0 : Int32).toInt ↔ x.toInt < y.toInt := by rw [← Int32.lt_iff_toInt_lt, ← Int64.lt_iff_toInt_lt]; exact lw_lt x y
  have hg : (0 : Int32).toInt < (lcmpW x y).toInt ↔ y.toInt < x.toInt := by rw [← Int32.lt_iff_toInt_lt, ← Int64.lt_iff_toInt_lt]; exact lw_gt x y
  have he := lw_eq x y
  generalize lcmpW x y = z at *
  rw [if0]
  rcases cmp_or cd z 0 with ⟨h1, h2⟩ | ⟨h1, h2⟩
  · refine Or.inl ⟨h1, ?_⟩
    cases cd <;> simp only [cmpP, cmpPL] at h2 ⊢ <;> first | exact he.mp h2 | exact fun q => h2 (he.mpr q) | omega
  · refine Or.inr ⟨h1, ?_⟩
    cases cd <;> simp only [cmpN, cmpNL] at h2 ⊢ <;> first | exact he.mp h2 | exact fun q => h2 (he.mpr q) | omega
/-- the array at x, of that type, holds just these -/
def Av (Z : State) (h : Heap) (x : Addr) (ty : FieldType) (vs : List Value) : Prop := ∃ c : Cell, Arr Z h x c ty ∧ c.slots.toList = vs
theorem ix {j : Int32} {i : Nat} (h : j.toInt = (i : Int)) : ¬ j < 0 ∧ j.toNatClampNeg = i := by
  refine ⟨fun q => ?_, ?_⟩
  · have := Int32.lt_iff_toInt_lt.mp q
    have e0 : (0 : Int32).toInt = 0 := by decide
    omega
  · show j.toInt.toNat = i
    omega
theorem ixin {j : Int32} {i n : Nat} (h : j.toInt = (i : Int)) (hi : i < n) : ¬ (j < 0 ∨ n ≤ j.toNatClampNeg) := by
  obtain ⟨h1, h2⟩ := ix h
  rintro (q | q)
  · exact h1 q
  · omega
theorem eqI {x y : Int32} (h : x = y) : x.toInt = y.toInt := h ▸ rfl
theorem neI {x y : Int32} (h : ¬ x = y) : ¬ x.toInt = y.toInt := fun q => h (Int32.toInt_inj.mp q)
theorem eqL {x y : Int64} (h : x = y) : x.toInt = y.toInt := h ▸ rfl
theorem neL {x y : Int64} (h : ¬ x = y) : ¬ x.toInt = y.toInt := fun q => h (Int64.toInt_inj.mp q)
section Avs
variable {Z : State} {h h' : Heap} {x y : Addr} {ty : FieldType} {vs : List Value} {i : Nat} {v : Value} {sl : Nat} {ws : List Addr}
theorem Av.lt (A : Av Z h x ty vs) : x < h.size := by obtain ⟨c, A, -⟩ := A; exact A.lt
theorem Av.ext (A : Av Z h x ty vs) (E : Ext h h') : Av Z h' x ty vs := by obtain ⟨c, A, r⟩ := A; exact ⟨c, A.ext E, r⟩
theorem Av.other (A : Av Z h x ty vs) (W : Wr h h' y sl v) (q : x ≠ y) : Av Z h' x ty vs := by obtain ⟨c, A, r⟩ := A; exact ⟨c, A.other W q, r⟩
theorem Av.keep (A : Av Z h x ty vs) (K : Keep h h' ws) (q : x ∉ ws) : Av Z h' x ty vs := by obtain ⟨c, A, r⟩ := A; exact ⟨c, ⟨K.2.1 x c A.1 q, A.2⟩, r⟩
theorem Av.same (A : Av Z h x ty vs) (W : Wr h h' x i v) : Av Z h' x ty (vs.set i v) := by
  obtain ⟨c, A, rfl⟩ := A
  exact ⟨_, A.same W, by simp [Cell.setSlot]⟩
theorem Av.new {k : ClassId} {z : Int32} (A : Arr Z h x (newA k ty z) ty) : Av Z h x ty (List.replicate z.toNatClampNeg (defaultValue ty)) := ⟨_, A, by simp [newA]⟩
end Avs
section Rules
variable {G : Gx} {K : Kx} {rm : Room} {own nm : String} {bytes : ByteArray} {maxL : Nat} {ret : Option FieldType} {W : List Jvm.Cond} {Q : State → Outcome → Prop} {Qv : Option Value → Heap → Prop} {h : Heap} {a b pc pc' : Nat} {ls ls' : Array Slot} {st st' : List Value}
theorem N.step (f : ∀ T, At T K.m K.c K.below → ∀ t, Steps K.p.tables K.e K.below (T.setTop (mkF K.m pc' ls' st')) t → Steps K.p.tables K.e K.below (T.setTop (mkF K.m pc ls st)) t) (k : NE G K rm Q h a b pc' ls' st') : NE G K rm Q h a b pc ls st := fun T locs X e F => by
  obtain ⟨s₂, o, hs, r⟩ := k T locs X e F
  exact ⟨s₂, o, f T X.here _ hs, r⟩
theorem N.stX (f : ∀ (T : State) (locs : List Loc), Stand K.p G.l K.e rm K.s K.m K.args K.below K.meth K.c T locs a b → T.heap = h → ∀ t, Steps K.p.tables K.e K.below (T.setTop (mkF K.m pc' ls' st')) t → Steps K.p.tables K.e K.below (T.setTop (mkF K.m pc ls st)) t) (k : NE G K rm Q h a b pc' ls' st') : NE G K rm Q h a b pc ls st := fun T locs X e F => by
  obtain ⟨s₂, o, hs, r⟩ := k T locs X e F
  exact ⟨s₂, o, f T locs X e _ hs, r⟩
theorem N.more {a' b' : Nat} (k : NE G K rm Q h a' b' pc ls st) (ha : a ≤ a') (hb : b ≤ b') : NE G K rm Q h a b pc ls st := fun T locs X e F => k T locs (X.more ha hb) e F

theorem N.iload (C : Cx G K own nm bytes maxL ret W) {k : Nat} {v : Int32} (hd : decode bytes pc = .ok (.iload k, 2)) (hl : ls[k]? = some (.val (.int v))) (hp : pc + 2 = pc') (k : NE G K rm Q h a b pc' ls (.int v :: st)) : NE G K rm Q h a b pc ls (st) := by
  subst hp; exact N.step (fun T A t ht => XS.iload A C.hx rfl (hb C.by hd) hl ht) k
theorem N.iloadN (C : Cx G K own nm bytes maxL ret W) {k : Fin 4} {v : Int32} (hd : decode bytes pc = .ok (.iload_n k, 1)) (hl : ls[k.val]? = some (.val (.int v))) (hp : pc + 1 = pc') (k : NE G K rm Q h a b pc' ls (.int v :: st)) : NE G K rm Q h a b pc ls (st) := by
  subst hp; exact N.step (fun T A t ht => XS.iloadN A C.hx rfl (hb C.by hd) hl ht) k
theorem N.istore (C : Cx G K own nm bytes maxL ret W) {k : Nat} {v : Int32} (hd : decode bytes pc = .ok (.istore k, 2)) (hl : storeLocals ls k (.int v) = some ls') (hp : pc + 2 = pc') (k : NE G K rm Q h a b pc' ls' (st)) : NE G K rm Q h a b pc ls (.int v :: st) := by
  subst hp; exact N.step (fun T A t ht => XS.istore A C.hx rfl (hb C.by hd) rfl hl ht) k
theorem N.istoreN (C : Cx G K own nm bytes maxL ret W) {k : Fin 4} {v : Int32} (hd : decode bytes pc = .ok (.istore_n k, 1)) (hl : storeLocals ls k.val (.int v) = some ls') (hp : pc + 1 = pc') (k : NE G K rm Q h a b pc' ls' (st)) : NE G K rm Q h a b pc ls (.int v :: st) := by
  subst hp; exact N.step (fun T A t ht => XS.istoreN A C.hx rfl (hb C.by hd) rfl hl ht) k
theorem N.iadd (C : Cx G K own nm bytes maxL ret W) {x y : Int32} (hd : decode bytes pc = .ok (.iadd, 1)) (hp : pc + 1 = pc') (k : NE G K rm Q h a b pc' ls (.int (x + y) :: st)) : NE G K rm Q h a b pc ls (.int y :: .int x :: st) := by
  subst hp; exact N.step (fun T A t ht => XS.iadd A C.hx rfl (hb C.by hd) rfl ht) k
theorem N.isub (C : Cx G K own nm bytes maxL ret W) {x y : Int32} (hd : decode bytes pc = .ok (.isub, 1)) (hp : pc + 1 = pc') (k : NE G K rm Q h a b pc' ls (.int (x - y) :: st)) : NE G K rm Q h a b pc ls (.int y :: .int x :: st) := by
  subst hp; exact N.step (fun T A t ht => XS.isub A C.hx rfl (hb C.by hd) rfl ht) k
theorem N.imul (C : Cx G K own nm bytes maxL ret W) {x y : Int32} (hd : decode bytes pc = .ok (.imul, 1)) (hp : pc + 1 = pc') (k : NE G K rm Q h a b pc' ls (.int (x * y) :: st)) : NE G K rm Q h a b pc ls (.int y :: .int x :: st) := by
  subst hp; exact N.step (fun T A t ht => XS.imul A C.hx rfl (hb C.by hd) rfl ht) k
theorem N.iand (C : Cx G K own nm bytes maxL ret W) {x y : Int32} (hd : decode bytes pc = .ok (.iand, 1)) (hp : pc + 1 = pc') (k : NE G K rm Q h a b pc' ls (.int (x &&& y) :: st)) : NE G K rm Q h a b pc ls (.int y :: .int x :: st) := by
  subst hp; exact N.step (fun T A t ht => XS.iand A C.hx rfl (hb C.by hd) rfl ht) k
theorem N.ior (C : Cx G K own nm bytes maxL ret W) {x y : Int32} (hd : decode bytes pc = .ok (.ior, 1)) (hp : pc + 1 = pc') (k : NE G K rm Q h a b pc' ls (.int (x ||| y) :: st)) : NE G K rm Q h a b pc ls (.int y :: .int x :: st) := by
  subst hp; exact N.step (fun T A t ht => XS.ior A C.hx rfl (hb C.by hd) rfl ht) k
theorem N.ixor (C : Cx G K own nm bytes maxL ret W) {x y : Int32} (hd : decode bytes pc = .ok (.ixor, 1)) (hp : pc + 1 = pc') (k : NE G K rm Q h a b pc' ls (.int (x ^^^ y) :: st)) : NE G K rm Q h a b pc ls (.int y :: .int x :: st) := by
  subst hp; exact N.step (fun T A t ht => XS.ixor A C.hx rfl (hb C.by hd) rfl ht) k
theorem N.idiv (C : Cx G K own nm bytes maxL ret W) {x y : Int32} (hd : decode bytes pc = .ok (.idiv, 1)) (hy : y ≠ 0) (hp : pc + 1 = pc') (k : NE G K rm Q h a b pc' ls (.int (x / y) :: st)) : NE G K rm Q h a b pc ls (.int y :: .int x :: st) := by
  subst hp; exact N.step (fun T A t ht => XS.idiv A C.hx rfl (hb C.by hd) rfl hy ht) k
theorem N.ineg (C : Cx G K own nm bytes maxL ret W) {x : Int32} (hd : decode bytes pc = .ok (.ineg, 1)) (hp : pc + 1 = pc') (k : NE G K rm Q h a b pc' ls (.int (-x) :: st)) : NE G K rm Q h a b pc ls (.int x :: st) := by
  subst hp; exact N.step (fun T A t ht => XS.ineg A C.hx rfl (hb C.by hd) rfl ht) k
theorem N.lload (C : Cx G K own nm bytes maxL ret W) {k : Nat} {v : Int64} (hd : decode bytes pc = .ok (.lload k, 2)) (hl : ls[k]? = some (.val (.long v))) (hp : pc + 2 = pc') (k : NE G K rm Q h a b pc' ls (.long v :: st)) : NE G K rm Q h a b pc ls (st) := by
  subst hp; exact N.step (fun T A t ht => XS.lload A C.hx rfl (hb C.by hd) hl ht) k
theorem N.lloadN (C : Cx G K own nm bytes maxL ret W) {k : Fin 4} {v : Int64} (hd : decode bytes pc = .ok (.lload_n k, 1)) (hl : ls[k.val]? = some (.val (.long v))) (hp : pc + 1 = pc') (k : NE G K rm Q h a b pc' ls (.long v :: st)) : NE G K rm Q h a b pc ls (st) := by
  subst hp; exact N.step (fun T A t ht => XS.lloadN A C.hx rfl (hb C.by hd) hl ht) k
theorem N.lstore (C : Cx G K own nm bytes maxL ret W) {k : Nat} {v : Int64} (hd : decode bytes pc = .ok (.lstore k, 2)) (hl : storeLocals ls k (.long v) = some ls') (hp : pc + 2 = pc') (k : NE G K rm Q h a b pc' ls' (st)) : NE G K rm Q h a b pc ls (.long v :: st) := by
  subst hp; exact N.step (fun T A t ht => XS.lstore A C.hx rfl (hb C.by hd) rfl hl ht) k
theorem N.lstoreN (C : Cx G K own nm bytes maxL ret W) {k : Fin 4} {v : Int64} (hd : decode bytes pc = .ok (.lstore_n k, 1)) (hl : storeLocals ls k.val (.long v) = some ls') (hp : pc + 1 = pc') (k : NE G K rm Q h a b pc' ls' (st)) : NE G K rm Q h a b pc ls (.long v :: st) := by
  subst hp; exact N.step (fun T A t ht => XS.lstoreN A C.hx rfl (hb C.by hd) rfl hl ht) k
theorem N.ladd (C : Cx G K own nm bytes maxL ret W) {x y : Int64} (hd : decode bytes pc = .ok (.ladd, 1)) (hp : pc + 1 = pc') (k : NE G K rm Q h a b pc' ls (.long (x + y) :: st)) : NE G K rm Q h a b pc ls (.long y :: .long x :: st) := by
  subst hp; exact N.step (fun T A t ht => XS.ladd A C.hx rfl (hb C.by hd) rfl ht) k
theorem N.lsub (C : Cx G K own nm bytes maxL ret W) {x y : Int64} (hd : decode bytes pc = .ok (.lsub, 1)) (hp : pc + 1 = pc') (k : NE G K rm Q h a b pc' ls (.long (x - y) :: st)) : NE G K rm Q h a b pc ls (.long y :: .long x :: st) := by
  subst hp; exact N.step (fun T A t ht => XS.lsub A C.hx rfl (hb C.by hd) rfl ht) k
theorem N.lmul (C : Cx G K own nm bytes maxL ret W) {x y : Int64} (hd : decode bytes pc = .ok (.lmul, 1)) (hp : pc + 1 = pc') (k : NE G K rm Q h a b pc' ls (.long (x * y) :: st)) : NE G K rm Q h a b pc ls (.long y :: .long x :: st) := by
  subst hp; exact N.step (fun T A t ht => XS.lmul A C.hx rfl (hb C.by hd) rfl ht) k
theorem N.land (C : Cx G K own nm bytes maxL ret W) {x y : Int64} (hd : decode bytes pc = .ok (.land, 1)) (hp : pc + 1 = pc') (k : NE G K rm Q h a b pc' ls (.long (x &&& y) :: st)) : NE G K rm Q h a b pc ls (.long y :: .long x :: st) := by
  subst hp; exact N.step (fun T A t ht => XS.land A C.hx rfl (hb C.by hd) rfl ht) k
theorem N.lor (C : Cx G K own nm bytes maxL ret W) {x y : Int64} (hd : decode bytes pc = .ok (.lor, 1)) (hp : pc + 1 = pc') (k : NE G K rm Q h a b pc' ls (.long (x ||| y) :: st)) : NE G K rm Q h a b pc ls (.long y :: .long x :: st) := by
  subst hp; exact N.step (fun T A t ht => XS.lor A C.hx rfl (hb C.by hd) rfl ht) k
theorem N.lxor (C : Cx G K own nm bytes maxL ret W) {x y : Int64} (hd : decode bytes pc = .ok (.lxor, 1)) (hp : pc + 1 = pc') (k : NE G K rm Q h a b pc' ls (.long (x ^^^ y) :: st)) : NE G K rm Q h a b pc ls (.long y :: .long x :: st) := by
  subst hp; exact N.step (fun T A t ht => XS.lxor A C.hx rfl (hb C.by hd) rfl ht) k
theorem N.ldiv (C : Cx G K own nm bytes maxL ret W) {x y : Int64} (hd : decode bytes pc = .ok (.ldiv, 1)) (hy : y ≠ 0) (hp : pc + 1 = pc') (k : NE G K rm Q h a b pc' ls (.long (x / y) :: st)) : NE G K rm Q h a b pc ls (.long y :: .long x :: st) := by
  subst hp; exact N.step (fun T A t ht => XS.ldiv A C.hx rfl (hb C.by hd) rfl hy ht) k
theorem N.lneg (C : Cx G K own nm bytes maxL ret W) {x : Int64} (hd : decode bytes pc = .ok (.lneg, 1)) (hp : pc + 1 = pc') (k : NE G K rm Q h a b pc' ls (.long (-x) :: st)) : NE G K rm Q h a b pc ls (.long x :: st) := by
  subst hp; exact N.step (fun T A t ht => XS.lneg A C.hx rfl (hb C.by hd) rfl ht) k
theorem N.irem (C : Cx G K own nm bytes maxL ret W) {x y : Int32} (hd : decode bytes pc = .ok (.irem, 1)) (hy : y ≠ 0) (hp : pc + 1 = pc') (k : NE G K rm Q h a b pc' ls (.int (x % y) :: st)) : NE G K rm Q h a b pc ls (.int y :: .int x :: st) := by
  subst hp; exact N.step (fun T A t ht => XS.irem A C.hx rfl (hb C.by hd) rfl hy (by rw [irem_eq_mod]; exact ht)) k
theorem N.lrem (C : Cx G K own nm bytes maxL ret W) {x y : Int64} (hd : decode bytes pc = .ok (.lrem, 1)) (hy : y ≠ 0) (hp : pc + 1 = pc') (k : NE G K rm Q h a b pc' ls (.long (x % y) :: st)) : NE G K rm Q h a b pc ls (.long y :: .long x :: st) := by
  subst hp; exact N.step (fun T A t ht => XS.lrem A C.hx rfl (hb C.by hd) rfl hy (by rw [lrem_mod]; exact ht)) k
theorem N.aload (C : Cx G K own nm bytes maxL ret W) {k : Nat} {v : Value} (hd : decode bytes pc = .ok (.aload k, 2)) (hl : ls[k]? = some (.val v)) (hv : v.isRef = true) (hp : pc + 2 = pc') (k : NE G K rm Q h a b pc' ls (v :: st)) : NE G K rm Q h a b pc ls (st) := by
  subst hp; exact N.step (fun T A t ht => XS.aload A C.hx rfl (hb C.by hd) hl hv ht) k
theorem N.aloadN (C : Cx G K own nm bytes maxL ret W) {k : Fin 4} {v : Value} (hd : decode bytes pc = .ok (.aload_n k, 1)) (hl : ls[k.val]? = some (.val v)) (hv : v.isRef = true) (hp : pc + 1 = pc') (k : NE G K rm Q h a b pc' ls (v :: st)) : NE G K rm Q h a b pc ls (st) := by
  subst hp; exact N.step (fun T A t ht => XS.aloadN A C.hx rfl (hb C.by hd) hl hv ht) k
theorem N.astore (C : Cx G K own nm bytes maxL ret W) {k : Nat} {v : Value} (hd : decode bytes pc = .ok (.astore k, 2)) (hv : v.isRef = true) (hl : storeLocals ls k v = some ls') (hp : pc + 2 = pc') (k : NE G K rm Q h a b pc' ls' (st)) : NE G K rm Q h a b pc ls (v :: st) := by
  subst hp; exact N.step (fun T A t ht => XS.astore A C.hx rfl (hb C.by hd) rfl hv hl ht) k
theorem N.astoreN (C : Cx G K own nm bytes maxL ret W) {k : Fin 4} {v : Value} (hd : decode bytes pc = .ok (.astore_n k, 1)) (hv : v.isRef = true) (hl : storeLocals ls k.val v = some ls') (hp : pc + 1 = pc') (k : NE G K rm Q h a b pc' ls' (st)) : NE G K rm Q h a b pc ls (v :: st) := by
  subst hp; exact N.step (fun T A t ht => XS.astoreN A C.hx rfl (hb C.by hd) rfl hv hl ht) k
theorem N.iconst (C : Cx G K own nm bytes maxL ret W) {i : Int} {z : Int32} (hd : decode bytes pc = .ok (.iconst i, 1)) (hz : Int32.ofInt i = z) (hp : pc + 1 = pc') (k : NE G K rm Q h a b pc' ls (.int z :: st)) : NE G K rm Q h a b pc ls st := by
  subst hp hz; exact N.step (fun T A t ht => XS.iconst A C.hx rfl (hb C.by hd) ht) k
theorem N.bipush (C : Cx G K own nm bytes maxL ret W) {i : Int} {z : Int32} (hd : decode bytes pc = .ok (.bipush i, 2)) (hz : (Int8.ofInt i).toInt32 = z) (hp : pc + 2 = pc') (k : NE G K rm Q h a b pc' ls (.int z :: st)) : NE G K rm Q h a b pc ls st := by
  subst hp hz; exact N.step (fun T A t ht => XS.bipush A C.hx rfl (hb C.by hd) ht) k
theorem N.sipush (C : Cx G K own nm bytes maxL ret W) {i : Int} {z : Int32} (hd : decode bytes pc = .ok (.sipush i, 3)) (hz : (Int16.ofInt i).toInt32 = z) (hp : pc + 3 = pc') (k : NE G K rm Q h a b pc' ls (.int z :: st)) : NE G K rm Q h a b pc ls st := by
  subst hp hz; exact N.step (fun T A t ht => XS.sipush A C.hx rfl (hb C.by hd) ht) k
theorem N.lconst (C : Cx G K own nm bytes maxL ret W) {k : Fin 2} {z : Int64} (hd : decode bytes pc = .ok (.lconst k, 1)) (hz : Int64.ofNat k = z) (hp : pc + 1 = pc') (k : NE G K rm Q h a b pc' ls (.long z :: st)) : NE G K rm Q h a b pc ls st := by
  subst hp hz; exact N.step (fun T A t ht => XS.lconst A C.hx rfl (hb C.by hd) ht) k
theorem N.aconst_null (C : Cx G K own nm bytes maxL ret W)  (hd : decode bytes pc = .ok (.aconst_null, 1)) (hp : pc + 1 = pc') (k : NE G K rm Q h a b pc' ls (.null :: st)) : NE G K rm Q h a b pc ls (st) := by
  subst hp; exact N.step (fun T A t ht => XS.aconstNull A C.hx rfl (hb C.by hd)  ht) k
theorem N.dup (C : Cx G K own nm bytes maxL ret W) {v : Value} (hd : decode bytes pc = .ok (.dup, 1)) (hc : v.category = 1) (hp : pc + 1 = pc') (k : NE G K rm Q h a b pc' ls (v :: v :: st)) : NE G K rm Q h a b pc ls (v :: st) := by
  subst hp; exact N.step (fun T A t ht => XS.dup A C.hx rfl (hb C.by hd) rfl hc ht) k
theorem N.pop (C : Cx G K own nm bytes maxL ret W) {v : Value} (hd : decode bytes pc = .ok (.pop, 1)) (hc : v.category = 1) (hp : pc + 1 = pc') (k : NE G K rm Q h a b pc' ls (st)) : NE G K rm Q h a b pc ls (v :: st) := by
  subst hp; exact N.step (fun T A t ht => XS.pop A C.hx rfl (hb C.by hd) rfl hc ht) k
theorem N.dup_x1 (C : Cx G K own nm bytes maxL ret W) {v w : Value} (hd : decode bytes pc = .ok (.dup_x1, 1)) (hc : v.category = 1) (hc' : w.category = 1) (hp : pc + 1 = pc') (k : NE G K rm Q h a b pc' ls (v :: w :: v :: st)) : NE G K rm Q h a b pc ls (v :: w :: st) := by
  subst hp; exact N.step (fun T A t ht => XS.dupX1 A C.hx rfl (hb C.by hd) rfl hc hc' ht) k
theorem N.dup2 (C : Cx G K own nm bytes maxL ret W) {v w : Value} (hd : decode bytes pc = .ok (.dup2, 1)) (hc : v.category = 1) (hc' : w.category = 1) (hp : pc + 1 = pc') (k : NE G K rm Q h a b pc' ls (v :: w :: v :: w :: st)) : NE G K rm Q h a b pc ls (v :: w :: st) := by
  subst hp; exact N.step (fun T A t ht => XT.dup2 A C.hx rfl (hb C.by hd) rfl hc hc' ht) k
theorem N.dup2L (C : Cx G K own nm bytes maxL ret W) {x : Int64} (hd : decode bytes pc = .ok (.dup2, 1)) (hp : pc + 1 = pc') (k : NE G K rm Q h a b pc' ls (.long x :: .long x :: st)) : NE G K rm Q h a b pc ls (.long x :: st) := by
  subst hp; exact N.step (fun T A t ht => XT.dup2L A C.hx rfl (hb C.by hd) rfl ht) k
theorem N.i2l (C : Cx G K own nm bytes maxL ret W) {x : Int32} (hd : decode bytes pc = .ok (.i2l, 1)) (hp : pc + 1 = pc') (k : NE G K rm Q h a b pc' ls (.long (x.toInt64) :: st)) : NE G K rm Q h a b pc ls (.int x :: st) := by
  subst hp; exact N.step (fun T A t ht => XS.i2l A C.hx rfl (hb C.by hd) rfl ht) k
theorem N.l2i (C : Cx G K own nm bytes maxL ret W) {x : Int64} (hd : decode bytes pc = .ok (.l2i, 1)) (hp : pc + 1 = pc') (k : NE G K rm Q h a b pc' ls (.int (x.toInt32) :: st)) : NE G K rm Q h a b pc ls (.long x :: st) := by
  subst hp; exact N.step (fun T A t ht => XS.l2i A C.hx rfl (hb C.by hd) rfl ht) k
theorem N.i2b (C : Cx G K own nm bytes maxL ret W) {x : Int32} (hd : decode bytes pc = .ok (.i2b, 1)) (hp : pc + 1 = pc') (k : NE G K rm Q h a b pc' ls (.int (x.toInt8.toInt32) :: st)) : NE G K rm Q h a b pc ls (.int x :: st) := by
  subst hp; exact N.step (fun T A t ht => XS.i2b A C.hx rfl (hb C.by hd) rfl ht) k
theorem N.i2s (C : Cx G K own nm bytes maxL ret W) {x : Int32} (hd : decode bytes pc = .ok (.i2s, 1)) (hp : pc + 1 = pc') (k : NE G K rm Q h a b pc' ls (.int (x.toInt16.toInt32) :: st)) : NE G K rm Q h a b pc ls (.int x :: st) := by
  subst hp; exact N.step (fun T A t ht => XS.i2s A C.hx rfl (hb C.by hd) rfl ht) k
theorem N.i2c (C : Cx G K own nm bytes maxL ret W) {x : Int32} (hd : decode bytes pc = .ok (.i2c, 1)) (hp : pc + 1 = pc') (k : NE G K rm Q h a b pc' ls (.int (x.toUInt32.toUInt16.toUInt32.toInt32) :: st)) : NE G K rm Q h a b pc ls (.int x :: st) := by
  subst hp; exact N.step (fun T A t ht => XS.i2c A C.hx rfl (hb C.by hd) rfl ht) k
theorem N.ishl (C : Cx G K own nm bytes maxL ret W) {x y : Int32} (hd : decode bytes pc = .ok (.ishl, 1)) (hp : pc + 1 = pc') (k : NE G K rm Q h a b pc' ls (.int (x <<< (y &&& 31)) :: st)) : NE G K rm Q h a b pc ls (.int y :: .int x :: st) := by
  subst hp; exact N.step (fun T A t ht => XS.ishl A C.hx rfl (hb C.by hd) rfl ht) k
theorem N.ishr (C : Cx G K own nm bytes maxL ret W) {x y : Int32} (hd : decode bytes pc = .ok (.ishr, 1)) (hp : pc + 1 = pc') (k : NE G K rm Q h a b pc' ls (.int (x >>> (y &&& 31)) :: st)) : NE G K rm Q h a b pc ls (.int y :: .int x :: st) := by
  subst hp; exact N.step (fun T A t ht => XS.ishr A C.hx rfl (hb C.by hd) rfl ht) k
theorem N.iushr (C : Cx G K own nm bytes maxL ret W) {x y : Int32} (hd : decode bytes pc = .ok (.iushr, 1)) (hp : pc + 1 = pc') (k : NE G K rm Q h a b pc' ls (.int ((x.toUInt32 >>> (y &&& 31).toUInt32).toInt32) :: st)) : NE G K rm Q h a b pc ls (.int y :: .int x :: st) := by
  subst hp; exact N.step (fun T A t ht => XS.iushr A C.hx rfl (hb C.by hd) rfl ht) k
theorem N.lshl (C : Cx G K own nm bytes maxL ret W) {x : Int64} {y : Int32} (hd : decode bytes pc = .ok (.lshl, 1)) (hp : pc + 1 = pc') (k : NE G K rm Q h a b pc' ls (.long (x <<< (y &&& 0x3f).toInt64) :: st)) : NE G K rm Q h a b pc ls (.int y :: .long x :: st) := by
  subst hp; exact N.step (fun T A t ht => XS.lshl A C.hx rfl (hb C.by hd) rfl ht) k
theorem N.lshr (C : Cx G K own nm bytes maxL ret W) {x : Int64} {y : Int32} (hd : decode bytes pc = .ok (.lshr, 1)) (hp : pc + 1 = pc') (k : NE G K rm Q h a b pc' ls (.long (x >>> (y &&& 0x3f).toInt64) :: st)) : NE G K rm Q h a b pc ls (.int y :: .long x :: st) := by
  subst hp; exact N.step (fun T A t ht => XS.lshr A C.hx rfl (hb C.by hd) rfl ht) k
theorem N.lushr (C : Cx G K own nm bytes maxL ret W) {x : Int64} {y : Int32} (hd : decode bytes pc = .ok (.lushr, 1)) (hp : pc + 1 = pc') (k : NE G K rm Q h a b pc' ls (.long ((x.toUInt64 >>> (y &&& 0x3f).toInt64.toUInt64).toInt64) :: st)) : NE G K rm Q h a b pc ls (.int y :: .long x :: st) := by
  subst hp; exact N.step (fun T A t ht => XS.lushr A C.hx rfl (hb C.by hd) rfl ht) k
theorem N.dload (C : Cx G K own nm bytes maxL ret W) {k : Nat} {v : UInt64} (hd : decode bytes pc = .ok (.dload k, 2)) (hl : ls[k]? = some (.val (.double v))) (hp : pc + 2 = pc') (k : NE G K rm Q h a b pc' ls (.double v :: st)) : NE G K rm Q h a b pc ls (st) := by
  subst hp; exact N.step (fun T A t ht => XS.dload A C.hx rfl (hb C.by hd) hl ht) k
theorem N.dloadN (C : Cx G K own nm bytes maxL ret W) {k : Fin 4} {v : UInt64} (hd : decode bytes pc = .ok (.dload_n k, 1)) (hl : ls[k.val]? = some (.val (.double v))) (hp : pc + 1 = pc') (k : NE G K rm Q h a b pc' ls (.double v :: st)) : NE G K rm Q h a b pc ls (st) := by
  subst hp; exact N.step (fun T A t ht => XS.dloadN A C.hx rfl (hb C.by hd) hl ht) k
theorem N.dstore (C : Cx G K own nm bytes maxL ret W) {k : Nat} {v : UInt64} (hd : decode bytes pc = .ok (.dstore k, 2)) (hl : storeLocals ls k (.double v) = some ls') (hp : pc + 2 = pc') (k : NE G K rm Q h a b pc' ls' (st)) : NE G K rm Q h a b pc ls (.double v :: st) := by
  subst hp; exact N.step (fun T A t ht => XS.dstore A C.hx rfl (hb C.by hd) rfl hl ht) k
theorem N.dstoreN (C : Cx G K own nm bytes maxL ret W) {k : Fin 4} {v : UInt64} (hd : decode bytes pc = .ok (.dstore_n k, 1)) (hl : storeLocals ls k.val (.double v) = some ls') (hp : pc + 1 = pc') (k : NE G K rm Q h a b pc' ls' (st)) : NE G K rm Q h a b pc ls (.double v :: st) := by
  subst hp; exact N.step (fun T A t ht => XS.dstoreN A C.hx rfl (hb C.by hd) rfl hl ht) k
theorem N.i2d (C : Cx G K own nm bytes maxL ret W) {x : Int32} (hd : decode bytes pc = .ok (.i2d, 1)) (hp : pc + 1 = pc') (k : NE G K rm Q h a b pc' ls (.double (FP.i2d x) :: st)) : NE G K rm Q h a b pc ls (.int x :: st) := by
  subst hp; exact N.step (fun T A t ht => XS.i2dS A C.hx rfl (hb C.by hd) rfl rfl ht) k
theorem N.dcmp (C : Cx G K own nm bytes maxL ret W) {o : CmpOp} {x y : UInt64} (hd : decode bytes pc = .ok (.dcmp o, 1)) (hp : pc + 1 = pc') (k : NE G K rm Q h a b pc' ls (.int (cmpValue (FP.dcmp x y) o) :: st)) : NE G K rm Q h a b pc ls (.double y :: .double x :: st) := by
  subst hp; exact N.step (fun T A t ht => XS.dcmpS A C.hx rfl (hb C.by hd) rfl rfl ht) k
theorem N.dup2_x1L (C : Cx G K own nm bytes maxL ret W) {x : Int64} {y : Addr} (hd : decode bytes pc = .ok (.dup2_x1, 1)) (hp : pc + 1 = pc') (k : NE G K rm Q h a b pc' ls (.long x :: .ref y :: .long x :: st)) : NE G K rm Q h a b pc ls (.long x :: .ref y :: st) := by
  subst hp
  refine N.step (fun T A t ht => ?_) k
  have hx := C.hx
  have hd' := hb C.by hd
  jvm_step A [A.top, hx, hd', Value.category]
  exact ht
theorem N.lcmp (C : Cx G K own nm bytes maxL ret W) {x y : Int64} (hd : decode bytes pc = .ok (.lcmp, 1)) (hp : pc + 1 = pc') (k : NE G K rm Q h a b pc' ls (.int (lcmpW x y) :: st)) : NE G K rm Q h a b pc ls (.long y :: .long x :: st) := by
  subst hp; exact N.step (fun T A t ht => XS.lcmp A C.hx rfl (hb C.by hd) rfl ht) k
theorem N.iinc (C : Cx G K own nm bytes maxL ret W) {k : Nat} {cst : Int} {x z : Int32} (hd : decode bytes pc = .ok (.iinc k cst, 3)) (hl : ls[k]? = some (.val (.int x))) (hz : Int32.ofInt cst = z) (hl' : storeLocals ls k (.int (x + z)) = some ls') (hp : pc + 3 = pc') (k : NE G K rm Q h a b pc' ls' st) : NE G K rm Q h a b pc ls st := by
  subst hp hz; exact N.step (fun T A t ht => XS.iinc A C.hx rfl (hb C.by hd) hl hl' ht) k
theorem N.goto (C : Cx G K own nm bytes maxL ret W) {o : Int} (hd : decode bytes pc = .ok (.goto o, 3)) (hp : (pc : Int) + o = (pc' : Nat)) (k : NE G K rm Q h a b pc' ls st) : NE G K rm Q h a b pc ls st :=
  N.step (fun T A t ht => XS.goto A C.hx rfl (pc0 := pc) rfl (hb C.by hd) (by omega) (by omega) ht) k
theorem N.icmp (C : Cx G K own nm bytes maxL ret W) {cd : ClassFile.Cond} {o : Int} {x y : Int32} {pt pf : Nat} (hd : decode bytes pc = .ok (.if_icmp cd o, 3)) (ht : (pc : Int) + o = (pt : Nat)) (hf : pc + 3 = pf) (kt : cmpP cd x y → NE G K rm Q h a b pt ls st) (kf : cmpN cd x y → NE G K rm Q h a b pf ls st) : NE G K rm Q h a b pc ls (.int y :: .int x :: st) := by
  subst hf
  rcases cmp_or cd x y with ⟨h1, h2⟩ | ⟨h1, h2⟩
  · exact N.step (fun T A t k => XS.icmpYes A C.hx rfl (pc0 := pc) rfl (hb C.by hd) rfl h1 (by omega) (by omega) k) (kt h2)
  · exact N.step (fun T A t k => XS.icmpNo A C.hx rfl (hb C.by hd) rfl h1 k) (kf h2)
theorem N.ifc (C : Cx G K own nm bytes maxL ret W) {cd : ClassFile.Cond} {o : Int} {x : Int32} {pt pf : Nat} (hd : decode bytes pc = .ok (.ifCond cd o, 3)) (ht : (pc : Int) + o = (pt : Nat)) (hf : pc + 3 = pf) (kt : cmpP cd x 0 → NE G K rm Q h a b pt ls st) (kf : cmpN cd x 0 → NE G K rm Q h a b pf ls st) : NE G K rm Q h a b pc ls (.int x :: st) := by
  subst hf
  rcases cmp_or cd x 0 with ⟨h1, h2⟩ | ⟨h1, h2⟩
  · exact N.step (fun T A t k => XS.ifYes A C.hx rfl (pc0 := pc) rfl (hb C.by hd) rfl ((if0 _ _).trans h1) (by omega) (by omega) k) (kt h2)
  · exact N.step (fun T A t k => XS.ifNo A C.hx rfl (hb C.by hd) rfl ((if0 _ _).trans h1) k) (kf h2)
/-- behind lcmp -/
theorem N.lif (C : Cx G K own nm bytes maxL ret W) {cd : ClassFile.Cond} {o : Int} {x y : Int64} {pt pf : Nat} (hd : decode bytes pc = .ok (.ifCond cd o, 3)) (ht : (pc : Int) + o = (pt : Nat)) (hf : pc + 3 = pf) (kt : cmpPL cd x y → NE G K rm Q h a b pt ls st) (kf : cmpNL cd x y → NE G K rm Q h a b pf ls st) : NE G K rm Q h a b pc ls (.int (lcmpW x y) :: st) := by
  subst hf
  rcases cmp_orL cd x y with ⟨h1, h2⟩ | ⟨h1, h2⟩
  · exact N.step (fun T A t k => XS.ifYes A C.hx rfl (pc0 := pc) rfl (hb C.by hd) rfl h1 (by omega) (by omega) k) (kt h2)
  · exact N.step (fun T A t k => XS.ifNo A C.hx rfl (hb C.by hd) rfl h1 k) (kf h2)
theorem N.ifnull0 (C : Cx G K own nm bytes maxL ret W) {o : Int} (hd : decode bytes pc = .ok (.ifnull o, 3)) (ht : (pc : Int) + o = (pc' : Nat)) (k : NE G K rm Q h a b pc' ls st) : NE G K rm Q h a b pc ls (.null :: st) :=
  N.step (fun T A t k => XS.ifnullYes A C.hx rfl (pc0 := pc) rfl (hb C.by hd) rfl (by omega) (by omega) k) k
theorem N.ifnull1 (C : Cx G K own nm bytes maxL ret W) {o : Int} {x : Addr} (hd : decode bytes pc = .ok (.ifnull o, 3)) (hp : pc + 3 = pc') (k : NE G K rm Q h a b pc' ls st) : NE G K rm Q h a b pc ls (.ref x :: st) := by
  subst hp; exact N.step (fun T A t k => XS.ifnullNo A C.hx rfl (hb C.by hd) rfl k) k
theorem N.ifnonnull1 (C : Cx G K own nm bytes maxL ret W) {o : Int} {x : Addr} (hd : decode bytes pc = .ok (.ifnonnull o, 3)) (ht : (pc : Int) + o = (pc' : Nat)) (k : NE G K rm Q h a b pc' ls st) : NE G K rm Q h a b pc ls (.ref x :: st) :=
  N.step (fun T A t k => XS.ifnonnullYes A C.hx rfl (pc0 := pc) rfl (hb C.by hd) rfl (by omega) (by omega) k) k
theorem N.ifnonnull0 (C : Cx G K own nm bytes maxL ret W) {o : Int} (hd : decode bytes pc = .ok (.ifnonnull o, 3)) (hp : pc + 3 = pc') (k : NE G K rm Q h a b pc' ls st) : NE G K rm Q h a b pc ls (.null :: st) := by
  subst hp; exact N.step (fun T A t k => XS.ifnonnullNo A C.hx rfl (hb C.by hd) rfl k) k
theorem N.acmp (C : Cx G K own nm bytes maxL ret W) {cd : ACond} {o : Int} {v w : Value} (same : Bool) (hd : decode bytes pc = .ok (.if_acmp cd o, 3)) (h1 : v.isRef = true) (h2 : w.isRef = true) (hq : decide (v = w) = same) (ho : 0 ≤ (pc : Int) + o) (hp : pc' = if acV cd same = true then ((pc : Int) + o).toNat else pc + 3) (k : NE G K rm Q h a b pc' ls st) : NE G K rm Q h a b pc ls (w :: v :: st) :=
  N.stX (fun T locs X e t ht => Jvm.RoadKit.acmp (g := mkF K.m pc ls (w :: v :: st)) X C.hx rfl h1 h2 rfl (hb C.by hd) rfl hq ho hp ht) k
theorem N.ldcI (C : Cx G K own nm bytes maxL ret W) {i : Nat} {v : Int32} (hd : decode bytes pc = .ok (.ldc i, 2)) (w : (Jvm.Cond.constant own i v).before G.a0 G.Z = true) (hp : pc + 2 = pc') (k : NE G K rm Q h a b pc' ls (.int v :: st)) : NE G K rm Q h a b pc ls st := by
  subst hp; exact N.stX (fun T locs X e t ht => X.ldcInt C.hx C.ow (mvT C.hZ w) (g := mkF K.m pc ls st) rfl (hb C.by hd) t ht) k
theorem N.ldcwI (C : Cx G K own nm bytes maxL ret W) {i : Nat} {v : Int32} (hd : decode bytes pc = .ok (.ldc_w i, 3)) (w : (Jvm.Cond.constant own i v).before G.a0 G.Z = true) (hp : pc + 3 = pc') (k : NE G K rm Q h a b pc' ls (.int v :: st)) : NE G K rm Q h a b pc ls st := by
  subst hp; exact N.stX (fun T locs X e t ht => X.ldcwInt C.hx C.ow (mvT C.hZ w) (g := mkF K.m pc ls st) rfl (hb C.by hd) t ht) k
theorem N.ldcL (C : Cx G K own nm bytes maxL ret W) {i : Nat} {v : Int64} (hd : decode bytes pc = .ok (.ldc2_w i, 3)) (w : (Jvm.Cond.constantLong own i v).before G.a0 G.Z = true) (hp : pc + 3 = pc') (k : NE G K rm Q h a b pc' ls (.long v :: st)) : NE G K rm Q h a b pc ls st := by
  subst hp; exact N.stX (fun T locs X e t ht => X.ldc2Long C.hx C.ow (mvT C.hZ w) (g := mkF K.m pc ls st) rfl (hb C.by hd) t ht) k
theorem N.getF (C : Cx G K own nm bytes maxL ret W) {O n d : String} {i : Nat} {x : Addr} {v : Value} (hd : decode bytes pc = .ok (.getfield i, 3)) (w : (Jvm.Cond.fieldLink own i O n d).before G.a0 G.Z = true) (F : Fld G.Z h x O n d v) (hp : pc + 3 = pc') (k : NE G K rm Q h a b pc' ls (v :: st)) : NE G K rm Q h a b pc ls (.ref x :: st) := fun T locs X e N0 => by
  subst hp
  obtain ⟨T', X', e', s'⟩ := Jvm.RoadKit.getF X C.hx C.hZ C.ow (host := "") (Or.inl w) Via.refl e F (g := mkF K.m pc ls (.ref x :: st)) rfl rfl (hb C.by hd)
  obtain ⟨s₂, o, hs, r⟩ := k T' locs X' e' N0
  exact ⟨s₂, o, s' _ hs, r⟩
theorem N.getFN (C : Cx G K own nm bytes maxL ret W) {O n d host : String} {i : Nat} {x : Addr} {v : Value} (hd : decode bytes pc = .ok (.getfield i, 3)) (w : (Jvm.Cond.fieldLinkNest own i O n d host).before G.a0 G.Z = true) (F : Fld G.Z h x O n d v) (hp : pc + 3 = pc') (k : NE G K rm Q h a b pc' ls (v :: st)) : NE G K rm Q h a b pc ls (.ref x :: st) := fun T locs X e N0 => by
  subst hp
  obtain ⟨T', X', e', s'⟩ := Jvm.RoadKit.getF X C.hx C.hZ C.ow (Or.inr w) Via.refl e F (g := mkF K.m pc ls (.ref x :: st)) rfl rfl (hb C.by hd)
  obtain ⟨s₂, o, hs, r⟩ := k T' locs X' e' N0
  exact ⟨s₂, o, s' _ hs, r⟩
theorem N.putF (C : Cx G K own nm bytes maxL ret W) {O n d Cn : String} {i kk : Nat} {ty : FieldType} {x : Addr} {v old : Value} (hd : decode bytes pc = .ok (.putfield i, 3)) (w : (Jvm.Cond.fieldLink own i O n d).before G.a0 G.Z = true) (F : Fld G.Z h x O n d old) (E : Exa G.Z h x Cn)
    (L : (Jvm.Cond.lays Cn O n d).before G.a0 G.Z = true ∨ ((Jvm.Cond.laysFinal Cn O n d).before G.a0 G.Z = true ∧ own = O ∧ nm = "<init>")) (wi : (Jvm.Cond.instantiable Cn kk).before G.a0 G.Z = true) (hty : parseFieldDescriptor d = some ty) (hn : narrow ty v = v) (hf : fits ty v = true) (hx : G.n0 ≤ x) (hp : pc + 3 = pc')
    (k : ∀ h', Wr h h' x (Jvm.RoadKit.slotOf G.Z O n d) v → NE G K rm Q h' a b pc' ls st) : NE G K rm Q h a b pc ls (v :: .ref x :: st) := fun T locs X e N0 => by
  subst hp
  obtain ⟨T', h', X', e', W', s'⟩ := Jvm.RoadKit.putF X C.hx C.hZ C.ow (host := "") (Or.inl w) Via.refl e F E (L.imp id fun q => ⟨q.1, q.2.1, C.name.trans q.2.2⟩) wi hty hn hf (g := mkF K.m pc ls (v :: .ref x :: st)) rfl rfl (hb C.by hd)
  obtain ⟨s₂, o, hs, r⟩ := k h' W' T' _ X' e' (Fr.snoc X' N0 hx)
  exact ⟨s₂, o, s' _ hs, r⟩
theorem N.putFN (C : Cx G K own nm bytes maxL ret W) {O n d Cn : String} {i kk : Nat} {ty : FieldType} {x : Addr} {v v' old : Value} (hd : decode bytes pc = .ok (.putfield i, 3)) (w : (Jvm.Cond.fieldLink own i O n d).before G.a0 G.Z = true) (F : Fld G.Z h x O n d old) (E : Exa G.Z h x Cn)
    (L : (Jvm.Cond.lays Cn O n d).before G.a0 G.Z = true ∨ ((Jvm.Cond.laysFinal Cn O n d).before G.a0 G.Z = true ∧ own = O ∧ nm = "<init>")) (wi : (Jvm.Cond.instantiable Cn kk).before G.a0 G.Z = true) (hty : parseFieldDescriptor d = some ty) (hn : narrow ty v = v') (hf : fits ty v' = true) (hx : G.n0 ≤ x) (hp : pc + 3 = pc')
    (k : ∀ h', Wr h h' x (Jvm.RoadKit.slotOf G.Z O n d) v' → NE G K rm Q h' a b pc' ls st) : NE G K rm Q h a b pc ls (v :: .ref x :: st) := fun T locs X e N0 => by
  subst hp
  obtain ⟨T', h', X', e', W', s'⟩ := Jvm.RoadKit.putFN X C.hx C.hZ C.ow w Via.refl e F E (L.imp id fun q => ⟨q.1, q.2.1, C.name.trans q.2.2⟩) wi hty hn hf (g := mkF K.m pc ls (v :: .ref x :: st)) rfl rfl (hb C.by hd)
  obtain ⟨s₂, o, hs, r⟩ := k h' W' T' _ X' e' (Fr.snoc X' N0 hx)
  exact ⟨s₂, o, s' _ hs, r⟩
theorem N.getS (C : Cx G K own nm bytes maxL ret W) {O n d : String} {i : Nat} {v : Value} (hd : decode bytes pc = .ok (.getstatic i, 3)) (w : (Jvm.Cond.fieldLink own i O n d).before G.a0 G.Z = true) (F : Sta G.Z h O n d v) (hp : pc + 3 = pc') (k : NE G K rm Q h a b pc' ls (v :: st)) : NE G K rm Q h a b pc ls st := fun T locs X e N0 => by
  subst hp
  obtain ⟨T', X', e', s'⟩ := Jvm.RoadKit.getS X C.hx C.hZ (host := "") C.ow w Via.refl e F (g := mkF K.m pc ls st) rfl (hb C.by hd)
  obtain ⟨s₂, o, hs, r⟩ := k T' locs X' e' N0
  exact ⟨s₂, o, s' _ hs, r⟩
theorem N.newO (C : Cx G K own nm bytes maxL ret W) {Cn : String} {i n : Nat} (hd : decode bytes pc = .ok (.new i, 3)) (w : (Jvm.Cond.classLink own i Cn).before G.a0 G.Z = true) (wi : (Jvm.Cond.instantiable Cn n).before G.a0 G.Z = true) (wz : (Jvm.Cond.initialized Cn).before G.a0 G.Z = true) (hc : a + 1 ≤ rm.cells) (hl : b + n ≤ rm.slots) (hp : pc + 3 = pc')
    (k : ∀ (h' : Heap) (x : Addr), x = h.size → Ext h h' → Exa G.Z h' x Cn → (∀ {O f d : String} {ty : FieldType}, Laid G.Z G.a0 Cn O f d → parseFieldDescriptor d = some ty → Fld G.Z h' x O f d (defaultValue ty)) → NE G K rm Q h' (a + 1) (b + n) pc' ls (.ref x :: st)) : NE G K rm Q h a b pc ls st := fun T locs X e N0 => by
  subst hp
  obtain ⟨T', h', X', e', E', A', D', -, s'⟩ := Jvm.RoadKit.newO X C.hx C.hZ C.ow w wi wz e (g := mkF K.m pc ls st) rfl (hb C.by hd) hc hl
  obtain ⟨s₂, o, hs, r⟩ := k h' _ rfl E' A' D' T' locs X' e' N0
  exact ⟨s₂, o, s' _ hs, r⟩
theorem N.newP (C : Cx G K own nm bytes maxL ret W) {aty : ArrayType} {n : Int32} (cap : Nat) (hd : decode bytes pc = .ok (.newarray aty, 2)) (w : (Jvm.Cond.arrayClass (newarray.typeOf aty)).before G.a0 G.Z = true) (hn : 0 ≤ n.toInt) (hcap : n.toInt ≤ (cap : Int)) (hb8 : cap * 8 ≤ 536870912) (hc : a + 1 ≤ rm.cells) (hl : b + cap ≤ rm.slots) (hp : pc + 2 = pc')
    (k : ∀ (h' : Heap) (x : Addr), x = h.size → Ext h h' → Av G.Z h' x (newarray.typeOf aty) (List.replicate n.toInt.toNat (defaultValue (newarray.typeOf aty))) → NE G K rm Q h' (a + 1) (b + cap) pc' ls (.ref x :: st)) : NE G K rm Q h a b pc ls (.int n :: st) := fun T locs X e N0 => by
  subst hp
  have hneg : ¬ n < 0 := fun q => by
    have := Int32.lt_iff_toInt_lt.mp q
    have e0 : (0 : Int32).toInt = 0 := by decide
    omega
  obtain ⟨T', h', cA, X', e', E', A', s'⟩ := Jvm.RoadKit.newP X C.hx C.hZ w e (g := mkF K.m pc ls (.int n :: st)) rfl (hb C.by hd) rfl hneg (cap := cap) (by show n.toInt.toNat ≤ cap; omega) hb8 hc hl
  obtain ⟨s₂, o, hs, r⟩ := k h' _ rfl E' (Av.new A') T' locs X' e' N0
  exact ⟨s₂, o, s' _ hs, r⟩
theorem N.initO (C : Cx G K own nm bytes maxL ret W) {i : Nat} {x : Addr} (hd : decode bytes pc = .ok (.invokespecial i, 3)) (w1 : (Jvm.Cond.methodLink own i Lib.objectInit).before G.a0 G.Z = true) (w2 : (Jvm.Cond.instanceMethod Lib.objectInit).before G.a0 G.Z = true) (w3 : (Jvm.Cond.code Lib.objectInit ⟨#[0xb1]⟩ 1 none).before G.a0 G.Z = true) (hsz : ls.size = maxL) (hf : 1 ≤ rm.frames) (hl : (st.map fun v => v.category).sum + 12 ≤ rm.locals) (hp : pc + 3 = pc')
    (k : NE G K rm Q h a b pc' ls st) : NE G K rm Q h a b pc ls (.ref x :: st) := fun T locs X e N0 => by
  subst hp
  obtain ⟨T', X', e', s'⟩ := Jvm.RoadKit.initO X C.hx C.hZ C.ow w1 w2 w3 e (g := mkF K.m pc ls (.ref x :: st)) rfl (by rw [C.ml]; exact hsz) rfl (hb C.by hd) hf (W := (st.map fun v => v.category).sum) (by show 2 * 0 + _ ≤ _; omega) hl
  obtain ⟨s₂, o, hs, r⟩ := k T' locs X' e' N0
  exact ⟨s₂, o, s' _ hs, r⟩
theorem N.alen (C : Cx G K own nm bytes maxL ret W) {x : Addr} {ty : FieldType} {vs : List Value} {n : Int32} (hd : decode bytes pc = .ok (.arraylength, 1)) (A : Av G.Z h x ty vs) (hn : n.toInt = (vs.length : Nat)) (hp : pc + 1 = pc') (k : NE G K rm Q h a b pc' ls (.int n :: st)) : NE G K rm Q h a b pc ls (.ref x :: st) := by
  subst hp
  obtain ⟨c, A, rfl⟩ := A
  have hz : c.slots.size.toInt32 = n := by
    have h1 := n.toInt_lt
    apply Int32.toInt_inj.mp
    rw [hn]
    simp only [Array.length_toList] at hn ⊢
    show (Int32.ofNat c.slots.size).toInt = _
    rw [Int32.toInt_ofNat']
    have e32 : (Int32.size : Int) = 4294967296 := rfl
    exact Int.bmod_eq_of_le (by omega) (by omega)
  exact N.stX (fun T locs X e t ht => X.arraylength C.hx (by rw [e]; exact A.1) (State.isArrayOf_alike C.hZ.alike A.2.1) (g := mkF K.m pc ls (.ref x :: st)) rfl rfl (hb C.by hd) t (by rw [hz]; exact ht)) k

theorem N.iaload (C : Cx G K own nm bytes maxL ret W) {x : Addr} {vs : List Value} {j : Int32} {i : Nat} {v : Value} (hd : decode bytes pc = .ok (.iaload, 1)) (A : Av G.Z h x .int vs) (hj : j.toInt = (i : Nat)) (hv : vs[i]? = some v) (hp : pc + 1 = pc') (k : NE G K rm Q h a b pc' ls (v :: st)) : NE G K rm Q h a b pc ls (.int j :: .ref x :: st) := by
  subst hp
  obtain ⟨c, A, rfl⟩ := A
  have hi : i < c.slots.size := by have := (List.getElem?_eq_some_iff.mp hv).1; simpa using this
  have hv' : c.slots[j.toNatClampNeg]? = some v := by rw [(ix hj).2, ← Array.getElem?_toList]; exact hv
  exact N.stX (fun T locs X e t ht => X.iaload C.hx (by rw [e]; exact A.1) (State.isArrayOf_alike C.hZ.alike A.2.1) A.2.2 (ixin hj hi) hv' (g := mkF K.m pc ls (.int j :: .ref x :: st)) rfl rfl (hb C.by hd) t ht) k
theorem N.laload (C : Cx G K own nm bytes maxL ret W) {x : Addr} {vs : List Value} {j : Int32} {i : Nat} {v : Value} (hd : decode bytes pc = .ok (.laload, 1)) (A : Av G.Z h x .long vs) (hj : j.toInt = (i : Nat)) (hv : vs[i]? = some v) (hp : pc + 1 = pc') (k : NE G K rm Q h a b pc' ls (v :: st)) : NE G K rm Q h a b pc ls (.int j :: .ref x :: st) := by
  subst hp
  obtain ⟨c, A, rfl⟩ := A
  have hi : i < c.slots.size := by have := (List.getElem?_eq_some_iff.mp hv).1; simpa using this
  have hv' : c.slots[j.toNatClampNeg]? = some v := by rw [(ix hj).2, ← Array.getElem?_toList]; exact hv
  exact N.stX (fun T locs X e t ht => X.laload C.hx (by rw [e]; exact A.1) (State.isArrayOf_alike C.hZ.alike A.2.1) A.2.2 (ixin hj hi) hv' (g := mkF K.m pc ls (.int j :: .ref x :: st)) rfl rfl (hb C.by hd) t ht) k
theorem N.caload (C : Cx G K own nm bytes maxL ret W) {x : Addr} {vs : List Value} {j : Int32} {i : Nat} {v : Value} (hd : decode bytes pc = .ok (.caload, 1)) (A : Av G.Z h x .char vs) (hj : j.toInt = (i : Nat)) (hv : vs[i]? = some v) (hp : pc + 1 = pc') (k : NE G K rm Q h a b pc' ls (v :: st)) : NE G K rm Q h a b pc ls (.int j :: .ref x :: st) := by
  subst hp
  obtain ⟨c, A, rfl⟩ := A
  have hi : i < c.slots.size := by have := (List.getElem?_eq_some_iff.mp hv).1; simpa using this
  have hv' : c.slots[j.toNatClampNeg]? = some v := by rw [(ix hj).2, ← Array.getElem?_toList]; exact hv
  exact N.stX (fun T locs X e t ht => X.caload C.hx (by rw [e]; exact A.1) (State.isArrayOf_alike C.hZ.alike A.2.1) A.2.2 (ixin hj hi) hv' (g := mkF K.m pc ls (.int j :: .ref x :: st)) rfl rfl (hb C.by hd) t ht) k
theorem N.baload (C : Cx G K own nm bytes maxL ret W) {x : Addr} {vs : List Value} {j : Int32} {i : Nat} {v : Value} (hd : decode bytes pc = .ok (.baload, 1)) (A : Av G.Z h x .byte vs) (hj : j.toInt = (i : Nat)) (hv : vs[i]? = some v) (hp : pc + 1 = pc') (k : NE G K rm Q h a b pc' ls (v :: st)) : NE G K rm Q h a b pc ls (.int j :: .ref x :: st) := by
  subst hp
  obtain ⟨c, A, rfl⟩ := A
  have hi : i < c.slots.size := by have := (List.getElem?_eq_some_iff.mp hv).1; simpa using this
  have hv' : c.slots[j.toNatClampNeg]? = some v := by rw [(ix hj).2, ← Array.getElem?_toList]; exact hv
  exact N.stX (fun T locs X e t ht => X.baloadBytes C.hx (by rw [e]; exact A.1) (State.isArrayOf_alike C.hZ.alike A.2.1) A.2.2 (ixin hj hi) hv' (g := mkF K.m pc ls (.int j :: .ref x :: st)) rfl rfl (hb C.by hd) t ht) k
theorem N.zaload (C : Cx G K own nm bytes maxL ret W) {x : Addr} {vs : List Value} {j : Int32} {i : Nat} {v : Value} (hd : decode bytes pc = .ok (.baload, 1)) (A : Av G.Z h x .boolean vs) (hj : j.toInt = (i : Nat)) (hv : vs[i]? = some v) (hp : pc + 1 = pc') (k : NE G K rm Q h a b pc' ls (v :: st)) : NE G K rm Q h a b pc ls (.int j :: .ref x :: st) := by
  subst hp
  obtain ⟨c, A, rfl⟩ := A
  have hi : i < c.slots.size := by have := (List.getElem?_eq_some_iff.mp hv).1; simpa using this
  have hv' : c.slots[j.toNatClampNeg]? = some v := by rw [(ix hj).2, ← Array.getElem?_toList]; exact hv
  exact N.stX (fun T locs X e t ht => X.baloadBooleans C.hx (by rw [e]; exact A.1) (State.isArrayOf_alike C.hZ.alike A.2.1) A.2.2 (ixin hj hi) hv' (g := mkF K.m pc ls (.int j :: .ref x :: st)) rfl rfl (hb C.by hd) t ht) k
theorem N.daload (C : Cx G K own nm bytes maxL ret W) {x : Addr} {vs : List Value} {j : Int32} {i : Nat} {v : Value} (hd : decode bytes pc = .ok (.daload, 1)) (A : Av G.Z h x .double vs) (hj : j.toInt = (i : Nat)) (hv : vs[i]? = some v) (hp : pc + 1 = pc') (k : NE G K rm Q h a b pc' ls (v :: st)) : NE G K rm Q h a b pc ls (.int j :: .ref x :: st) := by
  subst hp
  obtain ⟨c, A, rfl⟩ := A
  have hi : i < c.slots.size := by have := (List.getElem?_eq_some_iff.mp hv).1; simpa using this
  have hv' : c.slots[j.toNatClampNeg]? = some v := by rw [(ix hj).2, ← Array.getElem?_toList]; exact hv
  exact N.stX (fun T locs X e t ht => X.daload C.hx (by rw [e]; exact A.1) (State.isArrayOf_alike C.hZ.alike A.2.1) A.2.2 (ixin hj hi) hv' (g := mkF K.m pc ls (.int j :: .ref x :: st)) rfl rfl (hb C.by hd) t ht) k
theorem N.iastore (C : Cx G K own nm bytes maxL ret W) {x : Addr} {vs : List Value} {j : Int32} {i : Nat} {v : Int32} (hd : decode bytes pc = .ok (.iastore, 1)) (A : Av G.Z h x .int vs) (hj : j.toInt = (i : Nat)) (hi : i < vs.length) (hx : G.n0 ≤ x) (hp : pc + 1 = pc') (k : ∀ h', Wr h h' x i (.int v) → Av G.Z h' x .int (vs.set i (.int v)) → NE G K rm Q h' a b pc' ls st) : NE G K rm Q h a b pc ls (.int v :: .int j :: .ref x :: st) := fun T locs X e N0 => by
  subst hp
  have A0 := A
  obtain ⟨c, A, rfl⟩ := A
  obtain ⟨T', h', X', e', W', s'⟩ := Jvm.RoadKit.stI X C.hx C.hZ e A (j := j) (ixin hj (by simpa using hi)) (g := mkF K.m pc ls (.int v :: .int j :: .ref x :: st)) rfl rfl (hb C.by hd)
  have F' := Fr.snoc X' N0 hx
  rw [(ix hj).2] at W'
  obtain ⟨s₂, o, hs, r⟩ := k h' W' (A0.same W') T' _ X' e' F'
  exact ⟨s₂, o, s' _ hs, r⟩
theorem N.lastore (C : Cx G K own nm bytes maxL ret W) {x : Addr} {vs : List Value} {j : Int32} {i : Nat} {v : Int64} (hd : decode bytes pc = .ok (.lastore, 1)) (A : Av G.Z h x .long vs) (hj : j.toInt = (i : Nat)) (hi : i < vs.length) (hx : G.n0 ≤ x) (hp : pc + 1 = pc') (k : ∀ h', Wr h h' x i (.long v) → Av G.Z h' x .long (vs.set i (.long v)) → NE G K rm Q h' a b pc' ls st) : NE G K rm Q h a b pc ls (.long v :: .int j :: .ref x :: st) := fun T locs X e N0 => by
  subst hp
  have A0 := A
  obtain ⟨c, A, rfl⟩ := A
  obtain ⟨T', h', X', e', W', s'⟩ := Jvm.RoadKit.stJ X C.hx C.hZ e A (j := j) (ixin hj (by simpa using hi)) (g := mkF K.m pc ls (.long v :: .int j :: .ref x :: st)) rfl rfl (hb C.by hd)
  have F' := Fr.snoc X' N0 hx
  rw [(ix hj).2] at W'
  obtain ⟨s₂, o, hs, r⟩ := k h' W' (A0.same W') T' _ X' e' F'
  exact ⟨s₂, o, s' _ hs, r⟩
theorem N.castore (C : Cx G K own nm bytes maxL ret W) {x : Addr} {vs : List Value} {j : Int32} {i : Nat} {v : Int32} (hd : decode bytes pc = .ok (.castore, 1)) (A : Av G.Z h x .char vs) (hj : j.toInt = (i : Nat)) (hi : i < vs.length) (hx : G.n0 ≤ x) (hp : pc + 1 = pc') (k : ∀ h', Wr h h' x i (.int (nar .char v)) → Av G.Z h' x .char (vs.set i (.int (nar .char v))) → NE G K rm Q h' a b pc' ls st) : NE G K rm Q h a b pc ls (.int v :: .int j :: .ref x :: st) := fun T locs X e N0 => by
  subst hp
  have A0 := A
  obtain ⟨c, A, rfl⟩ := A
  obtain ⟨T', h', X', e', W', s'⟩ := Jvm.RoadKit.stC X C.hx C.hZ e A (j := j) (ixin hj (by simpa using hi)) (g := mkF K.m pc ls (.int v :: .int j :: .ref x :: st)) rfl rfl (hb C.by hd)
  have F' := Fr.snoc X' N0 hx
  rw [(ix hj).2] at W'
  obtain ⟨s₂, o, hs, r⟩ := k h' W' (A0.same W') T' _ X' e' F'
  exact ⟨s₂, o, s' _ hs, r⟩
theorem N.bastore (C : Cx G K own nm bytes maxL ret W) {x : Addr} {vs : List Value} {j : Int32} {i : Nat} {v : Int32} (hd : decode bytes pc = .ok (.bastore, 1)) (A : Av G.Z h x .byte vs) (hj : j.toInt = (i : Nat)) (hi : i < vs.length) (hx : G.n0 ≤ x) (hp : pc + 1 = pc') (k : ∀ h', Wr h h' x i (.int (nar .byte v)) → Av G.Z h' x .byte (vs.set i (.int (nar .byte v))) → NE G K rm Q h' a b pc' ls st) : NE G K rm Q h a b pc ls (.int v :: .int j :: .ref x :: st) := fun T locs X e N0 => by
  subst hp
  have A0 := A
  obtain ⟨c, A, rfl⟩ := A
  obtain ⟨T', h', X', e', W', s'⟩ := Jvm.RoadKit.stB X C.hx C.hZ e A (j := j) (ixin hj (by simpa using hi)) (g := mkF K.m pc ls (.int v :: .int j :: .ref x :: st)) rfl rfl (hb C.by hd)
  have F' := Fr.snoc X' N0 hx
  rw [(ix hj).2] at W'
  obtain ⟨s₂, o, hs, r⟩ := k h' W' (A0.same W') T' _ X' e' F'
  exact ⟨s₂, o, s' _ hs, r⟩
theorem N.dastore (C : Cx G K own nm bytes maxL ret W) {x : Addr} {vs : List Value} {j : Int32} {i : Nat} {v : UInt64} (hd : decode bytes pc = .ok (.dastore, 1)) (A : Av G.Z h x .double vs) (hj : j.toInt = (i : Nat)) (hi : i < vs.length) (hx : G.n0 ≤ x) (hp : pc + 1 = pc') (k : ∀ h', Wr h h' x i (.double v) → Av G.Z h' x .double (vs.set i (.double v)) → NE G K rm Q h' a b pc' ls st) : NE G K rm Q h a b pc ls (.double v :: .int j :: .ref x :: st) := fun T locs X e N0 => by
  subst hp
  have A0 := A
  obtain ⟨c, A, rfl⟩ := A
  obtain ⟨T', h', X', e', W', s'⟩ := Jvm.RoadKit.stD X C.hx C.hZ e A (j := j) (ixin hj (by simpa using hi)) (g := mkF K.m pc ls (.double v :: .int j :: .ref x :: st)) rfl rfl (hb C.by hd)
  have F' := Fr.snoc X' N0 hx
  rw [(ix hj).2] at W'
  obtain ⟨s₂, o, hs, r⟩ := k h' W' (A0.same W') T' _ X' e' F'
  exact ⟨s₂, o, s' _ hs, r⟩
theorem N.zastore (C : Cx G K own nm bytes maxL ret W) {x : Addr} {vs : List Value} {j : Int32} {i : Nat} {v : Int32} (hd : decode bytes pc = .ok (.bastore, 1)) (A : Av G.Z h x .boolean vs) (hj : j.toInt = (i : Nat)) (hi : i < vs.length) (hx : G.n0 ≤ x) (hp : pc + 1 = pc') (k : ∀ h', Wr h h' x i (.int (nar .boolean v)) → Av G.Z h' x .boolean (vs.set i (.int (nar .boolean v))) → NE G K rm Q h' a b pc' ls st) : NE G K rm Q h a b pc ls (.int v :: .int j :: .ref x :: st) := fun T locs X e N0 => by
  subst hp
  have A0 := A
  obtain ⟨c, A, rfl⟩ := A
  obtain ⟨T', h', X', e', W', s'⟩ := Jvm.RoadKit.stZ X C.hx C.hZ e A (j := j) (ixin hj (by simpa using hi)) (g := mkF K.m pc ls (.int v :: .int j :: .ref x :: st)) rfl rfl (hb C.by hd)
  have F' := Fr.snoc X' N0 hx
  rw [(ix hj).2] at W'
  obtain ⟨s₂, o, hs, r⟩ := k h' W' (A0.same W') T' _ X' e' F'
  exact ⟨s₂, o, s' _ hs, r⟩

/-! returns -/
theorem N.ret0 (C : Cx G K own nm bytes maxL ret W) (hr : ret = none) (hd : decode bytes pc = .ok (.return_, 1)) (ha : a ≤ rm.cells) (hb' : b ≤ rm.slots) (hq : Qv none h) : N G K rm Qv h a b pc ls [] := fun T locs X e N0 => by
  obtain ⟨fs, hr', hrun, hended, hW, hsame⟩ := X.leave (v := none) (fun _ => rfl) (hlocks := C.lk)
  exact ⟨_, _, X.returnOut C.hx (C.rt.trans hr) (hb C.by hd) hr', hrun, hended, _, _, rfl, ⟨by show Qv none T.heap; rw [e]; exact hq, N0⟩, ⟨_, rfl⟩, hW, hsame.mono ha hb'⟩
theorem N.retV (C : Cx G K own nm bytes maxL ret W) {w : Value} {t : FieldType} {i : Instr} (hr : ret = some t) (hn : narrow t w = w)
    (hi : (i = .ireturn ∧ (t = .int ∨ t = .boolean ∨ t = .byte ∨ t = .char ∨ t = .short) ∧ ∃ z, w = .int z) ∨ (i = .lreturn ∧ t = .long ∧ ∃ z, w = .long z) ∨ (i = .dreturn ∧ t = .double ∧ ∃ z, w = .double z) ∨ (i = .freturn ∧ t = .float ∧ ∃ z, w = .float z) ∨ (i = .areturn ∧ t.isReference = true ∧ w.isRef = true))
    (hd : decode bytes pc = .ok (i, 1)) (ha : a ≤ rm.cells) (hb' : b ≤ rm.slots) (hq : Qv (some w) h) : N G K rm Qv h a b pc ls (w :: st) := fun T locs X e N0 => by
  obtain ⟨fs, hr', hrun, hended, hW, hsame⟩ := X.leave (v := some w) (fun q => by rw [C.rt, hr] at q; cases q) (hlocks := C.lk)
  exact ⟨_, _, retOut X C.hx (C.rt.trans hr) hn hi (hb C.by hd) hr', hrun, hended, _, _, rfl, ⟨by show Qv (some w) T.heap; rw [e]; exact hq, N0⟩, ⟨_, rfl⟩, hW, hsame.mono ha hb'⟩
theorem N.retI (C : Cx G K own nm bytes maxL (some .int) W) {z : Int32} (hd : decode bytes pc = .ok (.ireturn, 1)) (ha : a ≤ rm.cells) (hb' : b ≤ rm.slots) (hq : Qv (some (.int z)) h) : N G K rm Qv h a b pc ls (.int z :: st) :=
  N.retV C rfl rfl (Or.inl ⟨rfl, Or.inl rfl, z, rfl⟩) hd ha hb' hq
theorem N.retL (C : Cx G K own nm bytes maxL (some .long) W) {z : Int64} (hd : decode bytes pc = .ok (.lreturn, 1)) (ha : a ≤ rm.cells) (hb' : b ≤ rm.slots) (hq : Qv (some (.long z)) h) : N G K rm Qv h a b pc ls (.long z :: st) :=
  N.retV C rfl rfl (Or.inr (Or.inl ⟨rfl, rfl, z, rfl⟩)) hd ha hb' hq
theorem N.retA (C : Cx G K own nm bytes maxL (some t) W) {w : Value} (ht : t.isReference = true) (hw : w.isRef = true) (hd : decode bytes pc = .ok (.areturn, 1)) (ha : a ≤ rm.cells) (hb' : b ≤ rm.slots) (hq : Qv (some w) h) : N G K rm Qv h a b pc ls (w :: st) :=
  N.retV C rfl (by rcases ref_cases hw with rfl | ⟨z, rfl⟩ <;> cases t <;> first | rfl | (cases ht)) (Or.inr (Or.inr (Or.inr (Or.inr ⟨rfl, ht, hw⟩)))) hd ha hb' hq
theorem N.retN (C : Cx G K own nm bytes maxL (some t) W) {z z' : Int32} (ht : t = .boolean ∨ t = .byte ∨ t = .char ∨ t = .short) (hz : nar t z = z') (hd : decode bytes pc = .ok (.ireturn, 1)) (ha : a ≤ rm.cells) (hb' : b ≤ rm.slots) (hq : Qv (some (.int z')) h) : N G K rm Qv h a b pc ls (.int z :: st) := fun T locs X e N0 => by
  subst hz
  obtain ⟨fs, hr', hrun, hended, hW, hsame⟩ := X.leave (v := some (.int (nar t z))) (fun q => by rw [C.rt] at q; cases q) (hlocks := C.lk)
  exact ⟨_, _, Jvm.RoadKit.retN X C.hx C.rt ht (hb C.by hd) hr', hrun, hended, _, _, rfl, ⟨by show Qv (some (.int (nar t z))) T.heap; rw [e]; exact hq, N0⟩, ⟨_, rfl⟩, hW, hsame.mono ha hb'⟩
/-! calls by the callee's contract -/
section Calls
variable {y : MethodName} {bytes' : ByteArray} {maxL' : Nat} {ret' : Option FieldType} {rm' : Room} {as : Array Value} {R' : Option Value → Heap → Prop} {stk rest : List Value}
theorem N.callS (C : Cx G K own nm bytes maxL ret W) {i : Nat} (argsL : List Value) (hd : decode bytes pc = .ok (.invokestatic i, 3)) (w1 : (Jvm.Cond.methodLink own i y).before G.a0 G.Z = true) (w2 : (Jvm.Cond.static y).before G.a0 G.Z = true) (w3 : (Jvm.Cond.initialized y.cls).before G.a0 G.Z = true) (w4 : (Jvm.Cond.code y bytes' maxL' ret').before G.a0 G.Z = true)
    (hy : y.cls ≠ "java/lang/invoke/MethodHandle" ∧ y.cls ≠ "java/lang/invoke/VarHandle") (M : Con G y bytes' maxL' ret' rm' argsL.toArray h R') (hlen : ∀ sig, parseMethodDescriptor y.desc = some sig → argsL.length = sig.parameters.length) (hsz : ls.size = maxL)
    (hf : rm'.frames + 1 ≤ rm.frames) (hl : (rest.map fun v => v.category).sum + (maxL' + 11) + rm'.locals ≤ rm.locals) (hc : a + rm'.cells ≤ rm.cells) (hs : b + rm'.slots ≤ rm.slots) (hst : stk = argsL.reverse ++ rest) (hp : pc + 3 = pc')
    (k : ∀ v h', R' v h' → NE G K rm Q h' (a + rm'.cells) (b + rm'.slots) pc' ls (v.toList ++ rest)) : NE G K rm Q h a b pc ls stk := fun T locs X e N0 => by
  subst hp
  obtain ⟨v, _, ⟨T', L', k', n'⟩, -, X', ⟨Lc, ⟨hQ, N1⟩, l', y', z'⟩, s'⟩ := Jvm.LawKit.callS X C.hx (y := y) C.ow (mvT C.hZ w1) (mvT C.hZ w2) (mvT C.hZ w3) (mvT C.hZ w4) hy (backOf (W := (rest.map fun v => v.category).sum) (Q := fun v h L => R' v h ∧ Fr G.n0 L) (M []) C.hZ w4 w3 hf hl) (g := mkF K.m pc ls stk) rfl (by rw [C.ml]; exact hsz) (argsL := argsL) (rest := rest) hlen hst (by show 2 * 0 + _ ≤ _; omega) (hb C.by hd) (fun _ _ => ⟨rfl, e, hc, hs⟩)
  dsimp only [Pt.U, Pt.locs, Pt.cells, Pt.slots] at X' l' y' z' s' hQ
  subst l' y' z'
  obtain ⟨s₂, o, hs', r⟩ := k v T'.heap hQ T' _ X' rfl (N0.app N1)
  exact ⟨s₂, o, s' _ hs', r⟩
theorem N.callI (C : Cx G K own nm bytes maxL ret W) {i : Nat} (x : Addr) (argsL : List Value) (hd : decode bytes pc = .ok (.invokespecial i, 3)) (hy1 : y.name = "<init>") (w1 : (Jvm.Cond.methodLink own i y).before G.a0 G.Z = true) (w2 : (Jvm.Cond.instanceMethod y).before G.a0 G.Z = true) (w3 : (Jvm.Cond.initialized y.cls).before G.a0 G.Z = true) (w4 : (Jvm.Cond.code y bytes' maxL' none).before G.a0 G.Z = true)
    (hy : y.cls ≠ "java/lang/invoke/MethodHandle" ∧ y.cls ≠ "java/lang/invoke/VarHandle") (M : Con G y bytes' maxL' none rm' (.ref x :: argsL).toArray h R') (hlen : ∀ sig, parseMethodDescriptor y.desc = some sig → argsL.length = sig.parameters.length) (hsz : ls.size = maxL)
    (hf : rm'.frames + 1 ≤ rm.frames) (hl : (rest.map fun v => v.category).sum + (maxL' + 11) + rm'.locals ≤ rm.locals) (hc : a + rm'.cells ≤ rm.cells) (hs : b + rm'.slots ≤ rm.slots) (hst : stk = argsL.reverse ++ .ref x :: rest) (hp : pc + 3 = pc')
    (k : ∀ v h', R' v h' → NE G K rm Q h' (a + rm'.cells) (b + rm'.slots) pc' ls (v.toList ++ rest)) : NE G K rm Q h a b pc ls stk := fun T locs X e N0 => by
  subst hp
  obtain ⟨v, _, ⟨T', L', k', n'⟩, -, X', ⟨Lc, ⟨hQ, N1⟩, l', y', z'⟩, s'⟩ := X.specialBack C.hx (y := y) hy1 C.ow (mvT C.hZ w1) (mvT C.hZ w2) (mvT C.hZ w4) hy (backOf (W := (rest.map fun v => v.category).sum) (Q := fun v h L => R' v h ∧ Fr G.n0 L) (M []) C.hZ w4 w3 hf hl) (g := mkF K.m pc ls stk) rfl (by rw [C.ml]; exact hsz) (Steps.refl _) (a := x) (argsL := argsL) (rest := rest) hlen hst (by show 2 * 0 + _ ≤ _; omega) (hb C.by hd) (fun _ _ => ⟨rfl, e, hc, hs⟩)
  dsimp only [Pt.U, Pt.locs, Pt.cells, Pt.slots] at X' l' y' z' s' hQ
  subst l' y' z'
  obtain ⟨s₂, o, hs', r⟩ := k v T'.heap hQ T' _ X' rfl (N0.app N1)
  exact ⟨s₂, o, s'.trans hs', r⟩
/-- an instance method of a class that selects itself -/
theorem N.callV (C : Cx G K own nm bytes maxL ret W) {i : Nat} (x : Addr) (argsL : List Value) (hd : decode bytes pc = .ok (.invokevirtual i, 3)) (w1 : (Jvm.Cond.methodLink own i y).before G.a0 G.Z = true) (wd : (Jvm.Cond.declares y).before G.a0 G.Z = true) (ws : (Jvm.Cond.selects y.cls y y).before G.a0 G.Z = true) (w2 : (Jvm.Cond.instanceMethod y).before G.a0 G.Z = true) (w3 : (Jvm.Cond.initialized y.cls).before G.a0 G.Z = true) (w4 : (Jvm.Cond.code y bytes' maxL' ret').before G.a0 G.Z = true)
    (hy : y.cls ≠ "java/lang/invoke/MethodHandle" ∧ y.cls ≠ "java/lang/invoke/VarHandle") (E : Exa G.Z h x y.cls) (M : Con G y bytes' maxL' ret' rm' (.ref x :: argsL).toArray h R') (hlen : ∀ sig, parseMethodDescriptor y.desc = some sig → argsL.length = sig.parameters.length) (hsz : ls.size = maxL)
    (hf : rm'.frames + 1 ≤ rm.frames) (hl : (rest.map fun v => v.category).sum + (maxL' + 11) + rm'.locals ≤ rm.locals) (hc : a + rm'.cells ≤ rm.cells) (hs : b + rm'.slots ≤ rm.slots) (hst : stk = argsL.reverse ++ .ref x :: rest) (hp : pc + 3 = pc')
    (k : ∀ v h', R' v h' → NE G K rm Q h' (a + rm'.cells) (b + rm'.slots) pc' ls (v.toList ++ rest)) : NE G K rm Q h a b pc ls stk := fun T locs X e N0 => by
  subst hp
  obtain ⟨cq, kq, qa, qb, qc⟩ := isOf C.hZ e E
  obtain ⟨v, _, ⟨T', L', k', n'⟩, -, X', ⟨Lc, ⟨hQ, N1⟩, l', y', z'⟩, s'⟩ := X.virtualBack C.hx (y := y) (z := y) C.ow (mvT C.hZ w1) (mvT C.hZ wd) (notFace_of_selects (args := #[]) (mvT C.hZ ws)) (mvT C.hZ ws) (mvT C.hZ w2) hy (backOf (W := (rest.map fun v => v.category).sum) (Q := fun v h L => R' v h ∧ Fr G.n0 L) (M []) C.hZ w4 w3 hf hl) qa qc (g := mkF K.m pc ls stk) rfl (by rw [C.ml]; exact hsz) (Steps.refl _) (argsL := argsL) (rest := rest) hlen hst (by show 2 * 0 + _ ≤ _; omega) (hb C.by hd) (fun _ _ => ⟨rfl, e, hc, hs⟩)
  dsimp only [Pt.U, Pt.locs, Pt.cells, Pt.slots] at X' l' y' z' s' hQ
  subst l' y' z'
  obtain ⟨s₂, o, hs', r⟩ := k v T'.heap hQ T' _ X' rfl (N0.app N1)
  exact ⟨s₂, o, s'.trans hs', r⟩
/-- a private method -/
theorem N.callP (C : Cx G K own nm bytes maxL ret W) {i : Nat} (x : Addr) (argsL : List Value) (hd : decode bytes pc = .ok (.invokevirtual i, 3)) (w1 : (Jvm.Cond.methodLink own i y).before G.a0 G.Z = true) (wp : (Jvm.Cond.privateMethod y).before G.a0 G.Z = true) (ws : (Jvm.Cond.selects y.cls y y).before G.a0 G.Z = true) (w2 : (Jvm.Cond.instanceMethod y).before G.a0 G.Z = true) (w3 : (Jvm.Cond.initialized y.cls).before G.a0 G.Z = true) (w4 : (Jvm.Cond.code y bytes' maxL' ret').before G.a0 G.Z = true)
    (hy : y.cls ≠ "java/lang/invoke/MethodHandle" ∧ y.cls ≠ "java/lang/invoke/VarHandle") (E : Exa G.Z h x y.cls) (M : Con G y bytes' maxL' ret' rm' (.ref x :: argsL).toArray h R') (hlen : ∀ sig, parseMethodDescriptor y.desc = some sig → argsL.length = sig.parameters.length) (hsz : ls.size = maxL)
    (hf : rm'.frames + 1 ≤ rm.frames) (hl : (rest.map fun v => v.category).sum + (maxL' + 11) + rm'.locals ≤ rm.locals) (hc : a + rm'.cells ≤ rm.cells) (hs : b + rm'.slots ≤ rm.slots) (hst : stk = argsL.reverse ++ .ref x :: rest) (hp : pc + 3 = pc')
    (k : ∀ v h', R' v h' → NE G K rm Q h' (a + rm'.cells) (b + rm'.slots) pc' ls (v.toList ++ rest)) : NE G K rm Q h a b pc ls stk := fun T locs X e N0 => by
  subst hp
  obtain ⟨cq, qa, qb⟩ := E.cell
  obtain ⟨v, _, ⟨T', L', k', n'⟩, -, X', ⟨Lc, ⟨hQ, N1⟩, l', y', z'⟩, s'⟩ := X.privateBack C.hx (y := y) C.ow (mvT C.hZ w1) (mvT C.hZ w2) (mvT C.hZ ws) (Cond.privateMethod_at (mvP C.hZ wp (args := #[]))) (mvT C.hZ w4) hy (backOf (W := (rest.map fun v => v.category).sum) (Q := fun v h L => R' v h ∧ Fr G.n0 L) (M []) C.hZ w4 w3 hf hl) (g := mkF K.m pc ls stk) rfl (by rw [C.ml]; exact hsz) (Steps.refl _) (a := x) (by rw [e]; exact qa) qb (argsL := argsL) (rest := rest) hlen hst (by show 2 * 0 + _ ≤ _; omega) (hb C.by hd) (fun _ _ => ⟨rfl, e, hc, hs⟩)
  dsimp only [Pt.U, Pt.locs, Pt.cells, Pt.slots] at X' l' y' z' s' hQ
  subst l' y' z'
  obtain ⟨s₂, o, hs', r⟩ := k v T'.heap hQ T' _ X' rfl (N0.app N1)
  exact ⟨s₂, o, s'.trans hs', r⟩
/-! a callee with an exception table whose walk throws nothing -/
def ConW (G : Gx) (y : MethodName) (bytes : ByteArray) (maxL : Nat) (ret : Option FieldType) (hs : List (Nat × Nat × Nat × Nat)) (rm : Room) (as : Array Value) (h : Heap) (Q : Option Value → Heap → Prop) : Prop :=
  ∀ ws : List Jvm.Cond, MetFree G.l y (head1 (Jvm.Cond.codeWith y bytes maxL ret hs :: ws) rm) (fun a U => a = as ∧ G.Z.Warmed39 U.vm ∧ U.heap = h) (fun _ _ _ _ _ => True) (fun _ U o U' => ∃ v L, o = .returned v ∧ (Q v U'.heap ∧ Fr G.n0 L) ∧ FrameEnd U o U' L rm.cells rm.slots)
theorem ConW.of {G : Gx} {y : MethodName} {bytes : ByteArray} {maxL : Nat} {ret : Option FieldType} {hs : List (Nat × Nat × Nat × Nat)} {rm : Room} {as : Array Value} {h : Heap} {Q : Option Value → Heap → Prop} {W : List Jvm.Cond} {ls : Array Slot} (hpl : plainFor y = true) (hW : ∀ d ∈ W, d.before G.a0 G.Z = true)
    (he : ∀ m, entryFrame m as maxL = mkF m 0 ls []) (body : ∀ K : Kx, Cx G K y.cls y.name bytes maxL ret W → N G K rm Q h 0 0 0 ls []) : ConW G y bytes maxL ret hs rm as h Q := fun ws => by
  refine MetFree.of_bodySF hpl hisWith ?_
  intro p e s m args below meth c s₁ Bd hml hP hK
  obtain ⟨rfl, hZ, hh⟩ := hP
  have X0 : Stand p G.l e rm s m args below meth c s₁ [] 0 0 := Stand.of_body Bd
  obtain ⟨s₂, o, h1, h2, h3, h4⟩ := body (p, e, s, m, args, below, meth, c) ⟨Bd.exec, hZ, Bd.bytes, hml, findClass_of_methodNamed Bd.named, (name_of_methodNamed Bd.named Bd.method).1, Bd.returns, BodyLoose.notSynchronized Bd, hW⟩ s₁ [] X0 (by rw [← hh, Bd.state]; rfl) (Fr.nil _)
  exact ⟨s₂, o, castTop (he m) h1, h2, h3, h4⟩
theorem declOf {y : MethodName} {s : State} {args : Array Value} {bytes' : ByteArray} {maxL' : Nat} {ret' : Option FieldType} {hs : List (Nat × Nat × Nat × Nat)} (w2 : (Jvm.Cond.instanceMethod y).before args s = true) (w4 : (Jvm.Cond.codeWith y bytes' maxL' ret' hs).before args s = true) : (Jvm.Cond.declares y).before args s = true := by
  obtain ⟨mk, methM, hnamed, hmethM, hst, -⟩ := Cond.instanceMethod_spec w2
  obtain ⟨m', meth', c', hn', hm', -, -, -, -, -, -, hsig⟩ := Cond.codeWith_spec w4
  cases hnamed.symm.trans hn'
  cases hmethM.symm.trans hm'
  simp [Cond.before, Cond.holds, Cond.value, hnamed, hmethM, hst, hsig]
theorem N.callPW (C : Cx G K own nm bytes maxL ret W) {i : Nat} {hs : List (Nat × Nat × Nat × Nat)} (x : Addr) (argsL : List Value) (hd : decode bytes pc = .ok (.invokevirtual i, 3)) (w1 : (Jvm.Cond.methodLink own i y).before G.a0 G.Z = true) (ws : (Jvm.Cond.selects y.cls y y).before G.a0 G.Z = true) (w2 : (Jvm.Cond.instanceMethod y).before G.a0 G.Z = true) (w3 : (Jvm.Cond.initialized y.cls).before G.a0 G.Z = true) (w4 : (Jvm.Cond.codeWith y bytes' maxL' ret' hs).before G.a0 G.Z = true)
    (hy : y.cls ≠ "java/lang/invoke/MethodHandle" ∧ y.cls ≠ "java/lang/invoke/VarHandle") (E : Exa G.Z h x y.cls) (M : ConW G y bytes' maxL' ret' hs rm' (.ref x :: argsL).toArray h R') (hlen : ∀ sig, parseMethodDescriptor y.desc = some sig → argsL.length = sig.parameters.length) (hsz : ls.size = maxL)
    (hf : rm'.frames + 1 ≤ rm.frames) (hl : (rest.map fun v => v.category).sum + (maxL' + 11) + rm'.locals ≤ rm.locals) (hc : a + rm'.cells ≤ rm.cells) (hs' : b + rm'.slots ≤ rm.slots) (hst : stk = argsL.reverse ++ .ref x :: rest) (hp : pc + 3 = pc')
    (k : ∀ v h', R' v h' → NE G K rm Q h' (a + rm'.cells) (b + rm'.slots) pc' ls (v.toList ++ rest)) : NE G K rm Q h a b pc ls stk := fun T locs X e N0 => by
  subst hp
  obtain ⟨cq, kq, qa, qb, qc⟩ := isOf C.hZ e E
  obtain ⟨v, _, ⟨T', L', k', n'⟩, -, X', ⟨Lc, ⟨hQ, N1⟩, l', y', z'⟩, s'⟩ := X.virtualBack C.hx (y := y) (z := y) C.ow (mvT C.hZ w1) (mvT C.hZ (declOf w2 w4)) (notFace_of_selects (args := #[]) (mvT C.hZ ws)) (mvT C.hZ ws) (mvT C.hZ w2) hy (backOfWith (W := (rest.map fun v => v.category).sum) (Q := fun v h L => R' v h ∧ Fr G.n0 L) (M []) C.hZ w4 w3 hf hl) qa qc (g := mkF K.m pc ls stk) rfl (by rw [C.ml]; exact hsz) (Steps.refl _) (argsL := argsL) (rest := rest) hlen hst (by show 2 * 0 + _ ≤ _; omega) (hb C.by hd) (fun _ _ => ⟨rfl, e, hc, hs'⟩)
  dsimp only [Pt.U, Pt.locs, Pt.cells, Pt.slots] at X' l' y' z' s' hQ
  subst l' y' z'
  obtain ⟨s₂, o, hs', r⟩ := k v T'.heap hQ T' _ X' rfl (N0.app N1)
  exact ⟨s₂, o, s'.trans hs', r⟩

theorem N.checkcast (C : Cx G K own nm bytes maxL ret W) {i : Nat} {KK : String} {x : Addr} (hd : decode bytes pc = .ok (.checkcast i, 3)) (w : (Jvm.Cond.classLink own i KK).before G.a0 G.Z = true) (F : Ins G.Z h x KK true) (hp : pc + 3 = pc') (k : NE G K rm Q h a b pc' ls (.ref x :: st)) : NE G K rm Q h a b pc ls (.ref x :: st) := fun T locs X e N0 => by
  subst hp
  obtain ⟨T', X', e', s'⟩ := castY X C.hx C.hZ C.ow w e F (g := mkF K.m pc ls (.ref x :: st)) rfl rfl (hb C.by hd)
  obtain ⟨s₂, o, hs', r⟩ := k T' _ X' e' N0
  exact ⟨s₂, o, s' _ hs', r⟩
theorem N.instanceof (C : Cx G K own nm bytes maxL ret W) {i : Nat} {KK : String} {x : Addr} (hd : decode bytes pc = .ok (.instanceof i, 3)) (w : (Jvm.Cond.classLink own i KK).before G.a0 G.Z = true) (F : Ins G.Z h x KK true) (hp : pc + 3 = pc') (k : NE G K rm Q h a b pc' ls (.int 1 :: st)) : NE G K rm Q h a b pc ls (.ref x :: st) := fun T locs X e N0 => by
  subst hp
  obtain ⟨T', X', e', s'⟩ := instY X C.hx C.hZ C.ow w e F (g := mkF K.m pc ls (.ref x :: st)) rfl rfl (hb C.by hd)
  obtain ⟨s₂, o, hs', r⟩ := k T' _ X' e' N0
  exact ⟨s₂, o, s' _ hs', r⟩
/-! a body that may intern -/
section Str
variable {EL : List (String × Nat)} {U : State} {ms : List Addr}
def EndS (G : Gx) (EL : List (String × Nat)) (U : State) (rm : Room) (Q : Option Value → Heap → Prop) : State → Outcome → Prop := fun s₂ o => ∃ v L, o = .returned v ∧ (Q v s₂.heap ∧ Fr G.n0 L) ∧ CHr G.Z EL U.vm U.heap s₂.vm s₂.heap ∧ ReturnedEndW U o s₂ L rm.cells rm.slots
abbrev NS (G : Gx) (K : Kx) (EL : List (String × Nat)) (U : State) (rm : Room) (Q : Option Value → Heap → Prop) (h : Heap) (cells slots pc : Nat) (ls : Array Slot) (st : List Value) : Prop := NE G K rm (EndS G EL U rm Q) h cells slots pc ls st
/-- where the tables at hand stand to the true start U; ms: what this walk may write -/
def SX (G : Gx) (K : Kx) (EL : List (String × Nat)) (U : State) (h : Heap) (ms : List Addr) : Prop :=
  K.s = U.setVm K.s.vm ∧ (∃ k0, U.Since K.s.vm k0 ∧ k0 ≤ h.size) ∧ EW G.Z G.a0 EL ∧ CHr G.Z EL U.vm U.heap K.s.vm h ∧ ∀ x ∈ ms, x < h.size ∧ Safe G.Z EL K.s.vm h x
theorem SX.ext {h' : Heap} (S : SX G K EL U h ms) (E : Ext h h') : SX G K EL U h' ms := by
  obtain ⟨s1, ⟨k0, s2, s3⟩, s4, s5, s6⟩ := S
  exact ⟨s1, ⟨k0, s2, Nat.le_trans s3 E.1⟩, s4, s5.trans (CHr.ext E s5.1), fun x hx => ⟨Nat.lt_of_lt_of_le (s6 x hx).1 E.1, (s6 x hx).2.ext E s5.1⟩⟩
theorem SX.born {h' : Heap} {x : Addr} (S : SX G K EL U h ms) (E : Ext h h') (hx : x = h.size) (hl : x < h'.size) : SX G K EL U h' (x :: ms) := by
  have S' := S.ext E
  obtain ⟨s1, ⟨k0, s2, s3⟩, s4, s5, s6⟩ := S'
  refine ⟨s1, ⟨k0, s2, s3⟩, s4, s5, fun y hy => ?_⟩
  rcases List.mem_cons.mp hy with rfl | hy
  · exact ⟨hl, Safe.ext E S.2.2.2.1.1 (Safe.new (Nat.le_of_eq hx.symm))⟩
  · exact s6 y hy
theorem SX.wr {h' : Heap} {x : Addr} {sl : Nat} {v : Value} (S : SX G K EL U h ms) (W : Wr h h' x sl v) (hx : x ∈ ms) : SX G K EL U h' ms := by
  obtain ⟨s1, ⟨k0, s2, s3⟩, s4, s5, s6⟩ := S
  have hz : h'.size = h.size := Wr.size W
  exact ⟨s1, ⟨k0, s2, by rw [hz]; exact s3⟩, s4, s5.trans (CHr.wr W (s6 x hx).2 s5.1), fun y hy => ⟨by rw [hz]; exact (s6 y hy).1, Safe.wr W (s6 x hx).2 s5.1 (s6 y hy).2⟩⟩
theorem SX.keep {h' : Heap} {ws : List Addr} (S : SX G K EL U h ms) (E : Keep h h' ws) (hx : ∀ x ∈ ws, x ∈ ms) : SX G K EL U h' ms := by
  obtain ⟨s1, ⟨k0, s2, s3⟩, s4, s5, s6⟩ := S
  have hs : ∀ x ∈ ws, Safe G.Z EL K.s.vm h x := fun x q => (s6 x (hx x q)).2
  exact ⟨s1, ⟨k0, s2, Nat.le_trans s3 E.1⟩, s4, s5.trans (CHr.keep E hs s5.1), fun y hy => ⟨Nat.lt_of_lt_of_le (s6 y hy).1 E.1, Safe.keep E hs s5.1 (s6 y hy).2⟩⟩
theorem SX.drop {ms' : List Addr} (S : SX G K EL U h ms) (hs : ∀ x ∈ ms', x ∈ ms) : SX G K EL U h ms' := ⟨S.1, S.2.1, S.2.2.1, S.2.2.2.1, fun x hx => S.2.2.2.2 x (hs x hx)⟩
def ConS (G : Gx) (EL : List (String × Nat)) (ms : List Addr) (y : MethodName) (bytes : ByteArray) (maxL : Nat) (ret : Option FieldType) (rm : Room) (as : Array Value) (h : Heap) (Q : Option Value → Heap → Prop) : Prop :=
  ∀ ws : List Jvm.Cond, MetFree G.l y (head1 (Jvm.Cond.code y bytes maxL ret :: ws) rm) (fun a U => a = as ∧ G.Z.Warmed39 U.vm ∧ U.heap = h ∧ CHv G.Z EL U.vm h ∧ ∀ x ∈ ms, x < h.size ∧ Safe G.Z EL U.vm h x) (fun _ _ _ _ _ => True)
    (fun _ U o U' => ∃ v L, o = .returned v ∧ (Q v U'.heap ∧ Fr G.n0 L) ∧ CHr G.Z EL U.vm U.heap U'.vm U'.heap ∧ ReturnedEndW U o U' L rm.cells rm.slots)
theorem ConS.of {y : MethodName} {as : Array Value} {Q : Option Value → Heap → Prop} {ls : Array Slot} (hpl : plainFor y = true) (hW : ∀ d ∈ W, d.before G.a0 G.Z = true) (hEL : EW G.Z G.a0 EL)
    (he : ∀ m, entryFrame m as maxL = mkF m 0 ls []) (body : ∀ (K : Kx) (U : State), Cx G K y.cls y.name bytes maxL ret W → SX G K EL U h ms → NS G K EL U rm Q h 0 0 0 ls []) : ConS G EL ms y bytes maxL ret rm as h Q := fun ws => by
  refine MetFree.of_bodySF hpl hisR ?_
  intro p e s m args below meth c s₁ Bd hml hP hK
  obtain ⟨rfl, hZ, hh, hC, hM⟩ := hP
  have X0 : Stand p G.l e rm s m args below meth c s₁ [] 0 0 := Stand.of_body Bd
  obtain ⟨s₂, o, h1, h2, h3, h4⟩ := body (p, e, s, m, args, below, meth, c) s ⟨Bd.exec, hZ, Bd.bytes, hml, findClass_of_methodNamed Bd.named, (name_of_methodNamed Bd.named Bd.method).1, Bd.returns, BodyLoose.notSynchronized Bd, hW⟩ ⟨rfl, ⟨0, (State.WarmedH.refl s).since 0, Nat.zero_le _⟩, hEL, by subst hh; exact CHr.refl hC, hM⟩ s₁ [] X0 (by rw [← hh, Bd.state]; rfl) (Fr.nil _)
  exact ⟨s₂, o, castTop (he m) h1, h2, h3, h4⟩
theorem SX.at (C : Cx G K own nm bytes maxL ret W) (S : SX G K EL U h ms) {T : State} {locs : List Loc} (X : Stand K.p G.l K.e rm K.s K.m K.args K.below K.meth K.c T locs a b) : CHr G.Z EL U.vm U.heap T.vm h ∧ ∀ x ∈ ms, x < h.size ∧ Safe G.Z EL T.vm h x := by
  have X' : Stand K.p G.l K.e rm (K.s.setVm K.s.vm) K.m K.args K.below K.meth K.c T locs a b := X
  have A := CHv.at X' C.hZ S.2.2.1 S.2.2.2.1.1
  exact ⟨S.2.2.2.1.trans A, fun x hx => ⟨(S.2.2.2.2 x hx).1, A.safe (S.2.2.2.2 x hx).1 (S.2.2.2.2 x hx).2⟩⟩
theorem N.leaveS (C : Cx G K own nm bytes maxL ret W) (S : SX G K EL U h ms) {T : State} {locs : List Loc} (X : Stand K.p G.l K.e rm K.s K.m K.args K.below K.meth K.c T locs a b) (e : T.heap = h) (N0 : Fr G.n0 locs) (ha : a ≤ rm.cells) (hb' : b ≤ rm.slots) {v : Option Value} (hv : K.meth.sig.returnType = none → v = none) (hq : Qv v h) :
    ∃ fs, (∀ (f : JFrame) (acts : List Action), f.method = K.m → f.locked = none → f.entered = [] → (doReturn K.e (T.setTop f) acts v).1 = T.setFrames fs) ∧ (T.setFrames fs).status = .running ∧ Ended (T.setFrames fs) K.below (.returned v) ∧ EndS G EL U rm Qv (T.setFrames fs) (.returned v) := by
  have A := (S.at C X).1
  obtain ⟨p, e', s, m, args, below, meth, c⟩ := K
  obtain ⟨s1, ⟨k0, s2, s3⟩, s4, s5, s6⟩ := S
  dsimp only [Kx.p, Kx.e, Kx.s, Kx.m, Kx.args, Kx.below, Kx.meth, Kx.c] at *
  generalize s.vm = vm0 at *
  subst s1
  obtain ⟨fs, hr', hrun, hended, hE⟩ := X.leaveW s2 (by rw [e]; exact s3) (v := v) hv (hlocks := C.lk)
  refine ⟨fs, hr', hrun, hended, v, locs, rfl, ⟨by show Qv v T.heap; rw [e]; exact hq, N0⟩, by show CHr G.Z EL U.vm U.heap T.vm T.heap; rw [e]; exact A, hE.1, hE.2.1, hE.2.2.1, hE.2.2.2.mono ha hb'⟩
theorem N.ret0S (C : Cx G K own nm bytes maxL ret W) (S : SX G K EL U h ms) (hr : ret = none) (hd : decode bytes pc = .ok (.return_, 1)) (ha : a ≤ rm.cells) (hb' : b ≤ rm.slots) (hq : Qv none h) : NS G K EL U rm Qv h a b pc ls [] := fun T locs X e N0 => by
  obtain ⟨fs, hr', hrun, hended, hE⟩ := N.leaveS C S X e N0 ha hb' (v := none) (fun _ => rfl) hq
  exact ⟨_, _, X.returnOut C.hx (C.rt.trans hr) (hb C.by hd) hr', hrun, hended, hE⟩
theorem N.retVS (C : Cx G K own nm bytes maxL ret W) (S : SX G K EL U h ms) {w : Value} {t : FieldType} {i : Instr} (hr : ret = some t) (hn : narrow t w = w)
    (hi : (i = .ireturn ∧ (t = .int ∨ t = .boolean ∨ t = .byte ∨ t = .char ∨ t = .short) ∧ ∃ z, w = .int z) ∨ (i = .lreturn ∧ t = .long ∧ ∃ z, w = .long z) ∨ (i = .dreturn ∧ t = .double ∧ ∃ z, w = .double z) ∨ (i = .freturn ∧ t = .float ∧ ∃ z, w = .float z) ∨ (i = .areturn ∧ t.isReference = true ∧ w.isRef = true))
    (hd : decode bytes pc = .ok (i, 1)) (ha : a ≤ rm.cells) (hb' : b ≤ rm.slots) (hq : Qv (some w) h) : NS G K EL U rm Qv h a b pc ls (w :: st) := fun T locs X e N0 => by
  obtain ⟨fs, hr', hrun, hended, hE⟩ := N.leaveS C S X e N0 ha hb' (v := some w) (fun q => by rw [C.rt, hr] at q; cases q) hq
  exact ⟨_, _, retOut X C.hx (C.rt.trans hr) hn hi (hb C.by hd) hr', hrun, hended, hE⟩
theorem N.retIS (C : Cx G K own nm bytes maxL (some .int) W) (S : SX G K EL U h ms) {z : Int32} (hd : decode bytes pc = .ok (.ireturn, 1)) (ha : a ≤ rm.cells) (hb' : b ≤ rm.slots) (hq : Qv (some (.int z)) h) : NS G K EL U rm Qv h a b pc ls (.int z :: st) :=
  N.retVS C S rfl rfl (Or.inl ⟨rfl, Or.inl rfl, z, rfl⟩) hd ha hb' hq
theorem N.retAS (C : Cx G K own nm bytes maxL (some t) W) (S : SX G K EL U h ms) {w : Value} (ht : t.isReference = true) (hw : w.isRef = true) (hd : decode bytes pc = .ok (.areturn, 1)) (ha : a ≤ rm.cells) (hb' : b ≤ rm.slots) (hq : Qv (some w) h) : NS G K EL U rm Qv h a b pc ls (w :: st) :=
  N.retVS C S rfl (by rcases ref_cases hw with rfl | ⟨z, rfl⟩ <;> cases t <;> first | rfl | (cases ht)) (Or.inr (Or.inr (Or.inr (Or.inr ⟨rfl, ht, hw⟩)))) hd ha hb' hq
theorem N.retNS (C : Cx G K own nm bytes maxL (some t) W) (S : SX G K EL U h ms) {z z' : Int32} (ht : t = .boolean ∨ t = .byte ∨ t = .char ∨ t = .short) (hz : nar t z = z') (hd : decode bytes pc = .ok (.ireturn, 1)) (ha : a ≤ rm.cells) (hb' : b ≤ rm.slots) (hq : Qv (some (.int z')) h) : NS G K EL U rm Qv h a b pc ls (.int z :: st) := fun T locs X e N0 => by
  subst hz
  obtain ⟨fs, hr', hrun, hended, hE⟩ := N.leaveS C S X e N0 ha hb' (v := some (.int (nar t z))) (fun q => by rw [C.rt] at q; cases q) hq
  exact ⟨_, _, Jvm.RoadKit.retN X C.hx C.rt ht (hb C.by hd) hr', hrun, hended, hE⟩
/-- ldc of a String constant of EL, read -/
theorem N.ldcS (C : Cx G K own nm bytes maxL ret W) (S : SX G K EL U h ms) {i : Nat} {text : String} {vs : List Value} (n : Nat) (hd : decode bytes pc = .ok (.ldc i, 2)) (w : (Jvm.Cond.stringLink own i text).before G.a0 G.Z = true) (wS : ∀ d ∈ Bundle.stringAtoms, d.before G.a0 G.Z = true) (hmem : (own, i) ∈ EL)
    (ht : (∀ c ∈ text.toList, c.toNat < 256) ∧ text.toList.map (fun c => Value.int (Jvm.Lit.byteI c.toNat.toUInt16)) = vs) {z : Int32} (hz : ¬ z < 0) (hl : z.toNatClampNeg = vs.length) (hn : 4 * text.toList.length ≤ n) (hbig : n ≤ 536870912) (hc : a + 2 ≤ rm.cells) (hs : b + (n + 4) ≤ rm.slots) (hp : pc + 2 = pc')
    (k : ∀ (K : Kx) (h' : Heap) (x y : Addr), Cx G K own nm bytes maxL ret W → SX G K EL U h' ms → Ext h h' → Exa G.Z h' x "java/lang/String" → Fld G.Z h' x "java/lang/String" "coder" "B" (.int 0) → Fld G.Z h' x "java/lang/String" "value" "[B" (.ref y) → Av G.Z h' y .byte vs → (∀ q ∈ ms, q ≠ x ∧ q ≠ y) → NE G K rm Q h' (a + 2) (b + (n + 4)) pc' ls (.ref x :: st)) : NE G K rm Q h a b pc ls st := fun T locs X e N0 => by
  subst hp
  obtain ⟨p, e', s, m, args, below, meth, c⟩ := K
  obtain ⟨s1, ⟨k0, s2, s3⟩, s4, s5, s6⟩ := S
  have hZ := C.hZ
  have how := C.ow
  have hbb := C.by
  have hxx := C.hx
  dsimp only [Kx.p, Kx.e, Kx.s, Kx.m, Kx.args, Kx.below, Kx.meth, Kx.c] at *
  generalize hv : s.vm = vm0 at *
  subst s1
  obtain ⟨x, T', h', k1, y, kk, X', eh', E, hS', hk', hW, how', EX, FC, FV, AV, -, -, hC', -, hne, st'⟩ := ldcCH X hxx hZ how w wS e s2 s3 s4 hmem s5.1 ht hz hl (g := mkF m pc ls st) rfl (hb hbb hd) hn hbig hc hs
  have hA : Av G.Z h' y .byte vs := by
    obtain ⟨cl, A, -, h2, h3, h4, -⟩ := AV
    refine ⟨cl, A, List.ext_getElem? fun j => ?_⟩
    by_cases q : j < vs.length
    · have := h4 j (by omega)
      simpa [List.getElem?_eq_getElem q] using this
    · rw [List.getElem?_eq_none (by simp; omega), List.getElem?_eq_none (by omega)]
  obtain ⟨s₂, o, hs', r⟩ := k (p, e', U.setVm T'.vm, m, args, below, meth, c) h' x y ⟨hxx, hW, hbb, C.ml, how', C.name, C.rt, C.lk, C.2.2.2.2.2.2.2.2⟩ ⟨rfl, ⟨k1, hS', hk'⟩, s4, s5.trans hC', fun q hq => ⟨Nat.lt_of_lt_of_le (s6 q hq).1 E.1, hC'.safe (s6 q hq).1 (s6 q hq).2⟩⟩ E EX FC FV hA (fun q hq => hne q (hC'.safe (s6 q hq).1 (s6 q hq).2)) T' locs X' eh' N0
  exact ⟨s₂, o, st' _ hs', r⟩
section CallsS
variable {y : MethodName} {bytes' : ByteArray} {maxL' : Nat} {ret' : Option FieldType} {rm' : Room} {as : Array Value} {R' : Option Value → Heap → Prop} {stk rest : List Value} {mc : List Addr}
theorem backS {p : Program} {e : Env} {R : Room} {below : List Frame} {s : State} {vm0 : Vm} {args : Array Value} {len W : Nat} (M : ConS G EL mc y bytes' maxL' ret' rm' as h R')
    (hZ : G.Z.Warmed39 vm0) (wc : (Jvm.Cond.code y bytes' maxL' ret').before G.a0 G.Z = true) (wz : (Jvm.Cond.initialized y.cls).before G.a0 G.Z = true) (hf : rm'.frames + 1 ≤ R.frames) (hl : W + (maxL' + 11) + rm'.locals ≤ R.locals) (hEL : EW G.Z G.a0 EL) (H : CHv G.Z EL vm0 h) (hS : ∀ x ∈ mc, x < h.size ∧ Safe G.Z EL vm0 h x) :
    BackS G.l R p e below (s.setVm vm0) args y len W (fun A a => a = as ∧ A.U.heap = h ∧ A.cells + rm'.cells ≤ R.cells ∧ A.slots + rm'.slots ≤ R.slots)
      (fun A _ v B => ∃ L, (R' v B.U.heap ∧ Fr G.n0 L) ∧ B.locs = A.locs ++ L ∧ B.cells = A.cells + rm'.cells ∧ B.slots = A.slots + rm'.slots ∧ CHr G.Z EL vm0 h B.U.vm B.U.heap) :=
  BackS.of_freeW (bytes := bytes') (maxL := maxL') (ret := ret') (E := fun _ first o t L k n => k = rm'.cells ∧ n = rm'.slots ∧ (∃ v, o = .returned v ∧ (R' v t.heap ∧ Fr G.n0 L)) ∧ CHr G.Z EL first.vm first.heap t.vm t.heap) (M []) hf hl
    (fun m meth c A a Y hp => have hU : G.Z.Warmed39 A.U.vm := wtrans (s := s.setVm vm0) hZ Y.warmed
      ⟨by show (Cond.and _ .tt).before a A.U = true; rw [Cond.before_and, mv hU wc]; rfl, mv hU wc, mv hU wz, hp.2.2.1, hp.2.2.2⟩)
    (fun m meth c A a g mk Y hp => have B := CHv.at Y hZ hEL H
      ⟨hp.1, wtrans (s := s.setVm vm0) hZ Y.warmed, hp.2.1, B.1, fun x hx => ⟨(hS x hx).1, B.safe (hS x hx).1 (hS x hx).2⟩⟩) (fun _ _ _ _ _ _ _ _ _ => trivial)
    (fun _ _ _ _ ⟨v, L, h1, h2, h3, h4⟩ => ⟨L, _, _, h4, rfl, rfl, ⟨v, h1, h2⟩, h3⟩)
    (fun m meth c A a g mk v t L k n Y hp _ _ ⟨e1, e2, ⟨v', e3, e4⟩, e5⟩ => by
      cases e3; subst e1 e2
      refine ⟨L, e4, rfl, rfl, rfl, (CHv.at Y hZ hEL H).trans ?_⟩
      rw [← hp.2.1]; exact e5)
/-- what stands behind such a call -/
theorem SX.back {vm0 vm1 : Vm} {p : Program} {e : Env} {m : MethodId} {args : Array Value} {below : List Frame} {meth : Method} {c : Code} {h' : Heap} (C : Cx G (p, e, U.setVm vm0, m, args, below, meth, c) own nm bytes maxL ret W) (S : SX G (p, e, U.setVm vm0, m, args, below, meth, c) EL U h ms) (h2 : (U.setVm vm0).Since vm1 h'.size) (hg : h.size ≤ h'.size) (hC : CHr G.Z EL vm0 h vm1 h') :
    Cx G (p, e, U.setVm vm1, m, args, below, meth, c) own nm bytes maxL ret W ∧ SX G (p, e, U.setVm vm1, m, args, below, meth, c) EL U h' ms := by
  obtain ⟨s1, ⟨k0, s2, s3⟩, s4, s5, s6⟩ := S
  refine ⟨⟨C.hx, State.Warmed39.trans C.hZ h2.1, C.by, C.ml, (h2.1.alike.findClass _ _).trans C.ow, C.name, C.rt, C.lk, C.2.2.2.2.2.2.2.2⟩, rfl, ⟨h'.size, s2.trans h2 (Nat.le_trans s3 hg), Nat.le_refl _⟩, s4, s5.trans hC, fun q hq => ⟨Nat.lt_of_lt_of_le (s6 q hq).1 hg, hC.safe (s6 q hq).1 (s6 q hq).2⟩⟩
theorem N.callSS (C : Cx G K own nm bytes maxL ret W) (S : SX G K EL U h ms) {i : Nat} (argsL : List Value) (hd : decode bytes pc = .ok (.invokestatic i, 3)) (w1 : (Jvm.Cond.methodLink own i y).before G.a0 G.Z = true) (w2 : (Jvm.Cond.static y).before G.a0 G.Z = true) (w3 : (Jvm.Cond.initialized y.cls).before G.a0 G.Z = true) (w4 : (Jvm.Cond.code y bytes' maxL' ret').before G.a0 G.Z = true)
    (hy : y.cls ≠ "java/lang/invoke/MethodHandle" ∧ y.cls ≠ "java/lang/invoke/VarHandle") (hm : ∀ x ∈ mc, x ∈ ms) (M : ConS G EL mc y bytes' maxL' ret' rm' argsL.toArray h R') (hlen : ∀ sig, parseMethodDescriptor y.desc = some sig → argsL.length = sig.parameters.length) (hsz : ls.size = maxL)
    (hf : rm'.frames + 1 ≤ rm.frames) (hl : (rest.map fun v => v.category).sum + (maxL' + 11) + rm'.locals ≤ rm.locals) (hc : a + rm'.cells ≤ rm.cells) (hs : b + rm'.slots ≤ rm.slots) (hst : stk = argsL.reverse ++ rest) (hp : pc + 3 = pc')
    (k : ∀ (K : Kx) v h', Cx G K own nm bytes maxL ret W → SX G K EL U h' ms → R' v h' → NE G K rm Q h' (a + rm'.cells) (b + rm'.slots) pc' ls (v.toList ++ rest)) : NE G K rm Q h a b pc ls stk := fun T locs X e N0 => by
  subst hp
  obtain ⟨p, e', s, m, args, below, meth, c⟩ := K
  obtain ⟨vm0, hv⟩ : ∃ v, s = U.setVm v := ⟨_, S.1⟩
  subst hv
  obtain ⟨v, _, ⟨T', L', k', n'⟩, -, X', hS', hg', ⟨Lc, ⟨hQ, N1⟩, l', y', z', hC'⟩, s'⟩ := Jvm.RoadKit.callSS X C.hx (y := y) C.ow (mvT C.hZ w1) (mvT C.hZ w2) (mvT C.hZ w3) (mvT C.hZ w4) hy (backS (W := (rest.map fun v => v.category).sum) M C.hZ w4 w3 hf hl S.2.2.1 S.2.2.2.1.1 (fun x hx => S.2.2.2.2 x (hm x hx))) (g := mkF m pc ls stk) rfl (by rw [← C.ml] at hsz; exact hsz) (argsL := argsL) (rest := rest) hlen hst (by show 2 * 0 + _ ≤ _; omega) (hb C.by hd) (fun _ _ => ⟨rfl, e, hc, hs⟩)
  dsimp only [Pt.U, Pt.locs, Pt.cells, Pt.slots] at X' l' y' z' s' hQ hS' hg' hC'
  subst l' y' z'
  obtain ⟨C', S'⟩ := SX.back C S hS' (by rw [← e]; exact hg') hC'
  obtain ⟨s₂, o, hs', r⟩ := k _ v T'.heap C' S' hQ T' _ X' rfl (N0.app N1)
  exact ⟨s₂, o, s'.trans hs', r⟩
theorem N.callIS (C : Cx G K own nm bytes maxL ret W) (S : SX G K EL U h ms) {i : Nat} (x : Addr) (argsL : List Value) (hd : decode bytes pc = .ok (.invokespecial i, 3)) (hy1 : y.name = "<init>") (w1 : (Jvm.Cond.methodLink own i y).before G.a0 G.Z = true) (w2 : (Jvm.Cond.instanceMethod y).before G.a0 G.Z = true) (w3 : (Jvm.Cond.initialized y.cls).before G.a0 G.Z = true) (w4 : (Jvm.Cond.code y bytes' maxL' none).before G.a0 G.Z = true)
    (hy : y.cls ≠ "java/lang/invoke/MethodHandle" ∧ y.cls ≠ "java/lang/invoke/VarHandle") (hm : ∀ x ∈ mc, x ∈ ms) (M : ConS G EL mc y bytes' maxL' none rm' (.ref x :: argsL).toArray h R') (hlen : ∀ sig, parseMethodDescriptor y.desc = some sig → argsL.length = sig.parameters.length) (hsz : ls.size = maxL)
    (hf : rm'.frames + 1 ≤ rm.frames) (hl : (rest.map fun v => v.category).sum + (maxL' + 11) + rm'.locals ≤ rm.locals) (hc : a + rm'.cells ≤ rm.cells) (hs : b + rm'.slots ≤ rm.slots) (hst : stk = argsL.reverse ++ .ref x :: rest) (hp : pc + 3 = pc')
    (k : ∀ (K : Kx) v h', Cx G K own nm bytes maxL ret W → SX G K EL U h' ms → R' v h' → NE G K rm Q h' (a + rm'.cells) (b + rm'.slots) pc' ls (v.toList ++ rest)) : NE G K rm Q h a b pc ls stk := fun T locs X e N0 => by
  subst hp
  obtain ⟨p, e', s, m, args, below, meth, c⟩ := K
  obtain ⟨vm0, hv⟩ : ∃ v, s = U.setVm v := ⟨_, S.1⟩
  subst hv
  obtain ⟨v, _, ⟨T', L', k', n'⟩, -, X', hS', hg', ⟨Lc, ⟨hQ, N1⟩, l', y', z', hC'⟩, s'⟩ := X.specialBackS C.hx (y := y) hy1 C.ow (mvT C.hZ w1) (mvT C.hZ w2) (mvT C.hZ w4) hy (backS (W := (rest.map fun v => v.category).sum) M C.hZ w4 w3 hf hl S.2.2.1 S.2.2.2.1.1 (fun x hx => S.2.2.2.2 x (hm x hx))) (g := mkF m pc ls stk) rfl (by rw [← C.ml] at hsz; exact hsz) (Steps.refl _) (a := x) (argsL := argsL) (rest := rest) hlen hst (by show 2 * 0 + _ ≤ _; omega) (hb C.by hd) (fun _ _ => ⟨rfl, e, hc, hs⟩)
  dsimp only [Pt.U, Pt.locs, Pt.cells, Pt.slots] at X' l' y' z' s' hQ hS' hg' hC'
  subst l' y' z'
  obtain ⟨C', S'⟩ := SX.back C S hS' (by rw [← e]; exact hg') hC'
  obtain ⟨s₂, o, hs', r⟩ := k _ v T'.heap C' S' hQ T' _ X' rfl (N0.app N1)
  exact ⟨s₂, o, s'.trans hs', r⟩
theorem N.callVS (C : Cx G K own nm bytes maxL ret W) (S : SX G K EL U h ms) {i : Nat} (x : Addr) (argsL : List Value) (hd : decode bytes pc = .ok (.invokevirtual i, 3)) (w1 : (Jvm.Cond.methodLink own i y).before G.a0 G.Z = true) (wd : (Jvm.Cond.declares y).before G.a0 G.Z = true) (ws : (Jvm.Cond.selects y.cls y y).before G.a0 G.Z = true) (w2 : (Jvm.Cond.instanceMethod y).before G.a0 G.Z = true) (w3 : (Jvm.Cond.initialized y.cls).before G.a0 G.Z = true) (w4 : (Jvm.Cond.code y bytes' maxL' ret').before G.a0 G.Z = true)
    (hy : y.cls ≠ "java/lang/invoke/MethodHandle" ∧ y.cls ≠ "java/lang/invoke/VarHandle") (E : Exa G.Z h x y.cls) (hm : ∀ x ∈ mc, x ∈ ms) (M : ConS G EL mc y bytes' maxL' ret' rm' (.ref x :: argsL).toArray h R') (hlen : ∀ sig, parseMethodDescriptor y.desc = some sig → argsL.length = sig.parameters.length) (hsz : ls.size = maxL)
    (hf : rm'.frames + 1 ≤ rm.frames) (hl : (rest.map fun v => v.category).sum + (maxL' + 11) + rm'.locals ≤ rm.locals) (hc : a + rm'.cells ≤ rm.cells) (hs : b + rm'.slots ≤ rm.slots) (hst : stk = argsL.reverse ++ .ref x :: rest) (hp : pc + 3 = pc')
    (k : ∀ (K : Kx) v h', Cx G K own nm bytes maxL ret W → SX G K EL U h' ms → R' v h' → NE G K rm Q h' (a + rm'.cells) (b + rm'.slots) pc' ls (v.toList ++ rest)) : NE G K rm Q h a b pc ls stk := fun T locs X e N0 => by
  subst hp
  obtain ⟨cq, kq, qa, qb, qc⟩ := isOf C.hZ e E
  obtain ⟨p, e', s, m, args, below, meth, c⟩ := K
  obtain ⟨vm0, hv⟩ : ∃ v, s = U.setVm v := ⟨_, S.1⟩
  subst hv
  obtain ⟨v, _, ⟨T', L', k', n'⟩, -, X', hS', hg', ⟨Lc, ⟨hQ, N1⟩, l', y', z', hC'⟩, s'⟩ := X.virtualBackS C.hx (y := y) (z := y) C.ow (mvT C.hZ w1) (mvT C.hZ wd) (notFace_of_selects (args := #[]) (mvT C.hZ ws)) (mvT C.hZ ws) (mvT C.hZ w2) hy (backS (W := (rest.map fun v => v.category).sum) M C.hZ w4 w3 hf hl S.2.2.1 S.2.2.2.1.1 (fun x hx => S.2.2.2.2 x (hm x hx))) qa qc (g := mkF m pc ls stk) rfl (by rw [← C.ml] at hsz; exact hsz) (Steps.refl _) (argsL := argsL) (rest := rest) hlen hst (by show 2 * 0 + _ ≤ _; omega) (hb C.by hd) (fun _ _ => ⟨rfl, e, hc, hs⟩)
  dsimp only [Pt.U, Pt.locs, Pt.cells, Pt.slots] at X' l' y' z' s' hQ hS' hg' hC'
  subst l' y' z'
  obtain ⟨C', S'⟩ := SX.back C S hS' (by rw [← e]; exact hg') hC'
  obtain ⟨s₂, o, hs', r⟩ := k _ v T'.heap C' S' hQ T' _ X' rfl (N0.app N1)
  exact ⟨s₂, o, s'.trans hs', r⟩
end CallsS
end Str
end Calls
end Rules
end Jvm.OwnKit

namespace Jvm.Pilot.@@N@@
open Jvm Jvm.ClassFile Sem Op Lib Jvm.Free Jvm.Stand Jvm.LawKit Jvm.RoadKit Bundle Jvm.OwnKit Jvm.Pilot.@@N@@.Jvm.D
def own_ok (cs : List Int32) : Prop := cs.length ≤ 3 ∧ ∀ (j : Nat) (c : Int32), cs[j]? = some c → 0 ≤ c.toInt ∧ c.toInt < 256
def own_lo (cs : List Int32) : Bool := cs.all (fun c => decide (c.toInt ≤ 255))
def own_b8 (c : Int32) : Int32 := nar .byte c.toInt8.toInt32
def own_b0 (c : Int32) : Int32 := nar .byte ((c >>> ((0 : Int32) &&& 31)).toInt8.toInt32)
def own_b1 (c : Int32) : Int32 := nar .byte ((c >>> ((8 : Int32) &&& 31)).toInt8.toInt32)
def own_ub (cs : List Int32) (j : Nat) : Int32 := if j % 2 = 0 then own_b0 (cs.getD (j / 2) 0) else own_b1 (cs.getD (j / 2) 0)
def own_u16 (cs : List Int32) : List Int32 := (List.range (2 * cs.length)).map (own_ub cs)
def own_bytes (cs : List Int32) : List Int32 := if own_lo cs = true then cs.map own_b8 else own_u16 cs
def own_cod (cs : List Int32) : Int32 := if own_lo cs = true then 0 else 1
def own_mk (n c1 c2 c3 : Int32) : List Int32 := if n = 0 then [] else if n = 1 then [nar .char c1] else if n = 2 then [nar .char c1, nar .char c2] else [nar .char c1, nar .char c2, nar .char c3]
theorem own_pm {ps : List Int32} {i : Nat} {y : Int32} (h : ps[i]? = some y) : (ps.map Value.int)[i]? = some (.int y) := by rw [List.getElem?_map, h]; rfl
theorem own_at (cs : List Int32) {k : Nat} (h : k < cs.length) : ∃ c, cs[k]? = some c := ⟨cs[k], List.getElem?_eq_getElem h⟩
theorem own_inc {i : Int32} {k : Nat} (h : i.toInt = (k : Nat)) (hk : k < 100) : (i + (1 : Int32)).toInt = ((k + 1 : Nat) : Int) := by
  have h1 := c_iadd i 1
  have h3 := rng32 (i + 1)
  have e1 : (1 : Int32).toInt = 1 := by decide
  omega
theorem own_narc (x : Int32) : 0 ≤ (nar .char x).toInt ∧ (nar .char x).toInt < 65536 := (c_i2c x).2
theorem own_mk_len {n c1 c2 c3 : Int32} (h0 : 0 ≤ n.toInt) (h3 : n.toInt ≤ 3) : n.toInt = ((own_mk n c1 c2 c3).length : Nat) := by
  unfold own_mk
  split
  · rename_i h; subst h; decide
  split
  · rename_i h; subst h; rfl
  split
  · rename_i h; subst h; rfl
  · rename_i a b c
    have := neI a; have := neI b; have := neI c
    have e0 : (0 : Int32).toInt = 0 := by decide
    have e1 : (1 : Int32).toInt = 1 := by decide
    have e2 : (2 : Int32).toInt = 2 := by decide
    simp; omega
theorem own_stp {n : Nat} {tb cs : List Int32} {k : Nat} {c : Int32} (hl : tb.length = n) (hk : k < n) (h : ∀ j : Nat, j < k → tb[j]? = cs[j]?) (hc : cs[k]? = some c) : ∀ j : Nat, j < k + 1 → (tb.set k c)[j]? = cs[j]? := fun j hj => by
  by_cases q : k = j
  · subst q; rw [List.getElem?_set_self (by omega), hc]
  · rw [List.getElem?_set_ne q]; exact h j (by omega)
theorem own_eqN {n : Nat} {cs tb : List Int32} (hc : cs.length = n) (hl : tb.length = n) (h : ∀ j : Nat, j < n → tb[j]? = cs[j]?) : tb = cs := by
  apply List.ext_getElem?
  intro i
  by_cases q : i < n
  · exact h i q
  · rw [List.getElem?_eq_none (by omega), List.getElem?_eq_none (by omega)]
theorem own_lo1 {cs : List Int32} (h : ∀ (j : Nat), j < cs.length → ∀ c, cs[j]? = some c → c.toInt ≤ 255) : own_lo cs = true := by
  unfold own_lo
  rw [List.all_eq_true]
  intro c hc
  obtain ⟨j, hj, e⟩ := List.getElem_of_mem hc
  exact decide_eq_true (h j hj c (by rw [List.getElem?_eq_getElem hj, e]))
theorem own_lo0 {cs : List Int32} {k : Nat} {c : Int32} (h : cs[k]? = some c) (hc : 255 < c.toInt) : own_lo cs = false := by
  unfold own_lo
  rw [List.all_eq_false]
  exact ⟨c, List.mem_of_getElem? h, by simp; omega⟩
theorem own_u16_len (cs : List Int32) : (own_u16 cs).length = 2 * cs.length := by simp [own_u16]
theorem own_u16_at {cs : List Int32} {k : Nat} {c : Int32} (h : cs[k]? = some c) : (own_u16 cs)[2 * k]? = some (own_b0 c) ∧ (own_u16 cs)[2 * k + 1]? = some (own_b1 c) := by
  have hk : k < cs.length := (List.getElem?_eq_some_iff.mp h).1
  have e : cs.getD k 0 = c := by simp [List.getD, h]
  have e1 : 2 * k / 2 = k := by omega
  have e2 : (2 * k + 1) / 2 = k := by omega
  have e3 : 2 * k % 2 = 0 := by omega
  have e4 : (2 * k + 1) % 2 ≠ 0 := by omega
  constructor
  · rw [own_u16, List.getElem?_map, List.getElem?_range (by omega)]; simp only [Option.map_some, own_ub, e3, e1, if_true, e]
  · rw [own_u16, List.getElem?_map, List.getElem?_range (by omega)]; simp only [Option.map_some, own_ub, e4, e2, if_false, e]
theorem own_s0 (c : Int32) : (c >>> ((0 : Int32) &&& 31)).toInt = c.toInt := by
  have h := c_ishr c 0 0 (by decide)
  have e : ((2 ^ 0 : Nat) : Int) = 1 := by decide
  rw [e] at h; omega
theorem own_s8 (c : Int32) : (c >>> ((8 : Int32) &&& 31)).toInt = c.toInt / 256 := by
  have h := c_ishr c 8 8 (by decide)
  have e : ((2 ^ 8 : Nat) : Int) = 256 := by decide
  rw [e] at h; exact h
theorem own_nb {x : Int32} : ((nar .byte x.toInt8.toInt32) &&& (255 : Int32)).toInt = x.toInt % 256 := by
  have h := c_mask (nar .byte x.toInt8.toInt32) 255 8 (by decide) (by decide)
  have e : ((2 ^ 8 : Nat) : Int) = 256 := by decide
  rw [e] at h
  have h1 := c_i2b x
  have h2 := c_i2b x.toInt8.toInt32
  have h3 : (nar .byte x.toInt8.toInt32).toInt = x.toInt8.toInt32.toInt8.toInt32.toInt := rfl
  omega
theorem own_rt {c : Int32} (h0 : 0 ≤ c.toInt) (h1 : c.toInt < 65536) : (nar .char (((((own_b0 c) &&& (255 : Int32)) <<< ((0 : Int32) &&& 31)) ||| (((own_b1 c) &&& (255 : Int32)) <<< ((8 : Int32) &&& 31))).toUInt32.toUInt16.toUInt32.toInt32)).toInt = c.toInt := by
  have a0 : ((own_b0 c) &&& (255 : Int32)).toInt = c.toInt % 256 := by unfold own_b0; rw [own_nb, own_s0]
  have a1 : ((own_b1 c) &&& (255 : Int32)).toInt = c.toInt / 256 := by unfold own_b1; rw [own_nb, own_s8]; omega
  generalize (own_b0 c) &&& (255 : Int32) = x at *
  generalize (own_b1 c) &&& (255 : Int32) = y at *
  have b0 := c_ishl x 0 0 (by decide)
  have b1 := c_ishl y 8 8 (by decide)
  have e0 : ((2 ^ 0 : Nat) : Int) = 1 := by decide
  have e8 : ((2 ^ 8 : Nat) : Int) = 256 := by decide
  rw [e0] at b0
  rw [e8] at b1
  have r0 := rng32 (x <<< ((0 : Int32) &&& 31))
  have r1 := rng32 (y <<< ((8 : Int32) &&& 31))
  generalize x <<< ((0 : Int32) &&& 31) = X at *
  generalize y <<< ((8 : Int32) &&& 31) = Y at *
  have q := c_or' X Y 8 (by decide) 256 (by decide) (by omega) (by omega) (by omega)
  have r2 := rng32 (X ||| Y)
  have q1 := c_i2c (X ||| Y)
  have q2 := c_i2c (X ||| Y).toUInt32.toUInt16.toUInt32.toInt32
  have q3 : (nar .char (X ||| Y).toUInt32.toUInt16.toUInt32.toInt32).toInt = (X ||| Y).toUInt32.toUInt16.toUInt32.toInt32.toUInt32.toUInt16.toUInt32.toInt32.toInt := rfl
  omega
theorem own_dbl {n : Int32} {k : Nat} (h : n.toInt = (k : Nat)) (hk : k < 100) : (n <<< ((1 : Int32) &&& 31)).toInt = ((2 * k : Nat) : Int) := by
  have b0 := c_ishl n 1 1 (by decide)
  have e0 : ((2 ^ 1 : Nat) : Int) = 2 := by decide
  rw [e0] at b0
  have r0 := rng32 (n <<< ((1 : Int32) &&& 31))
  omega
theorem own_cfa {n m : Int32} (h0 : 0 ≤ n.toInt) (hn : n.toInt ≤ 3) (hm : m.toInt = n.toInt ∨ (m.toInt = 2 * n.toInt ∧ 0 < n.toInt)) : nar .byte ((((n - m).toUInt32 >>> ((31 : Int32) &&& 31).toUInt32).toInt32).toInt8.toInt32) = if m.toInt = n.toInt then 0 else 1 := by
  have h1 := c_isub n m
  have h2 := rng32 (n - m)
  have h3 := c_iushr (n - m) 31 31 (by decide) (by decide)
  have e : ((2 ^ 31 : Nat) : Int) = 2147483648 := by decide
  rw [e] at h3
  generalize ((n - m).toUInt32 >>> ((31 : Int32) &&& 31).toUInt32).toInt32 = z at *
  have h4 := c_i2b z
  have h5 := c_i2b z.toInt8.toInt32
  have h6 : (nar .byte z.toInt8.toInt32).toInt = z.toInt8.toInt32.toInt8.toInt32.toInt := rfl
  have e0 : (0 : Int32).toInt = 0 := by decide
  have e1 : (1 : Int32).toInt = 1 := by decide
  apply Int32.toInt_inj.mp
  split <;> omega
theorem own_bytes_len (cs : List Int32) : (own_bytes cs).length = (if own_lo cs = true then cs.length else 2 * cs.length) := by
  unfold own_bytes
  split <;> simp [own_u16]
theorem own_len {cs : List Int32} {m : Int32} {k : Nat} (hm : m.toInt = ((own_bytes cs).length : Nat)) (hl : cs.length ≤ 3) : (m >>> (own_cod cs &&& 31)).toInt = (cs.length : Nat) := by
  rw [own_bytes_len] at hm
  unfold own_cod
  split at hm
  · rename_i q; rw [if_pos q, own_s0]; exact hm
  · rename_i q
    rw [if_neg q]
    have h := c_ishr m 1 1 (by decide)
    have e : ((2 ^ 1 : Nat) : Int) = 2 := by decide
    rw [e] at h; omega
theorem own_cod01 (cs : List Int32) : nar .byte (own_cod cs) = own_cod cs := by
  unfold own_cod
  split <;> decide
def own_EL : List (String × Nat) := consts_1
theorem own_ew {a0 : Array Value} {Z : State} (hw : ∀ d ∈ tables_1, d.before a0 Z = true) : EW Z a0 own_EL :=
  EW.cons (hw _ (List.mem_of_getElem? (i := 18) rfl)) (by decide) EW.nil
theorem own_SA {a0 : Array Value} {Z : State} (hw : ∀ d ∈ tables_1, d.before a0 Z = true) : ∀ d ∈ Bundle.stringAtoms, d.before a0 Z = true := fun d hd => by
  simp only [Bundle.stringAtoms, List.mem_cons, List.not_mem_nil, or_false] at hd
  rcases hd with rfl | rfl | rfl | rfl | rfl | rfl | rfl
  · exact hw _ (List.mem_of_getElem? (i := 6) rfl)
  · exact hw _ (List.mem_of_getElem? (i := 5) rfl)
  · exact hw _ (List.mem_of_getElem? (i := 19) rfl)
  · exact hw _ (List.mem_of_getElem? (i := 20) rfl)
  · exact hw _ (List.mem_of_getElem? (i := 21) rfl)
  · exact hw _ (List.mem_of_getElem? (i := 22) rfl)
  · exact hw _ (List.mem_of_getElem? (i := 23) rfl)
def Ss (G : Gx) (cp : Int32) : Prop := Sta G.Z G.Z.heap "java/lang/String" "COMPACT_STRINGS" "Z" (.int cp) ∧ ¬ cp = 0
theorem Ss.s0 {G : Gx} {cp : Int32} (H : Ss G cp) : Sta G.Z G.Z.heap "java/lang/String" "COMPACT_STRINGS" "Z" (.int cp) := H.1
theorem Ss.cp0 {G : Gx} {cp : Int32} (H : Ss G cp) : ¬ cp = 0 := H.2
theorem own_c255 (p : Int32) : 0 ≤ ((p &&& (255 : Int32)).toUInt32.toUInt16.toUInt32.toInt32).toInt ∧ ((p &&& (255 : Int32)).toUInt32.toUInt16.toUInt32.toInt32).toInt < 256 := by
  have h := c_mask p 255 8 (by decide) (by decide)
  have e : ((2 ^ 8 : Nat) : Int) = 256 := by decide
  rw [e] at h
  have h1 := c_i2c (p &&& (255 : Int32))
  omega
theorem own_nc {c : Int32} (h : 0 ≤ c.toInt ∧ c.toInt < 256) : 0 ≤ (nar .char c).toInt ∧ (nar .char c).toInt < 256 := by
  have h1 := c_i2c c
  have h2 : (nar .char c).toInt = c.toUInt32.toUInt16.toUInt32.toInt32.toInt := rfl
  omega
theorem own_ok0 : own_ok [] := ⟨by decide, fun j c h => by simp at h⟩
theorem own_ok2 {a b : Int32} (ha : 0 ≤ a.toInt ∧ a.toInt < 256) (hb : 0 ≤ b.toInt ∧ b.toInt < 256) : own_ok [nar .char a, nar .char b] := ⟨by simp, fun j c h => by
  have := List.mem_of_getElem? h
  simp at this; rcases this with rfl | rfl
  · exact own_nc ha
  · exact own_nc hb⟩
theorem own_okl {cs : List Int32} (h : own_ok cs) : own_lo cs = true := own_lo1 fun j _ c hc => by have := h.2 j c hc; omega
theorem own_codL {cs : List Int32} {n m : Int32} (hn : n.toInt = (cs.length : Nat)) (h3 : cs.length ≤ 3) (h0 : 0 < cs.length) (hm : m.toInt = ((own_bytes cs).length : Nat)) : nar .byte ((((n - m).toUInt32 >>> ((31 : Int32) &&& 31).toUInt32).toInt32).toInt8.toInt32) = own_cod cs := by
  rw [own_bytes_len] at hm
  unfold own_cod
  split at hm
  · rename_i q; rw [own_cfa (by omega) (by omega) (Or.inl (by omega)), if_pos (by omega), if_pos q]
  · rename_i q; rw [own_cfa (by omega) (by omega) (Or.inr ⟨by omega, by omega⟩), if_neg (by omega), if_neg q]
theorem own_bl {cs : List Int32} (h3 : cs.length ≤ 3) : ∃ m : Int32, m.toInt = (((own_bytes cs).map Value.int).length : Nat) := by
  refine ⟨Int32.ofNat (own_bytes cs).length, ?_⟩
  rw [List.length_map, Int32.toInt_ofNat_of_lt]
  rw [own_bytes_len]
  split <;> omega
theorem own_nr {v : Value} {c : String} (h : v.isRef = true) : narrow (.object c) v = v := by rcases ref_cases h with rfl | ⟨_, rfl⟩ <;> rfl
theorem own_fr {v : Value} {c : String} (h : v.isRef = true) : fits (.object c) v = true := by rcases ref_cases h with rfl | ⟨_, rfl⟩ <;> rfl
/-- null, or a String -/
def okv (G : Gx) (h : Heap) (v : Value) : Prop := v.isRef = true ∧ ∀ s, v = .ref s → Exa G.Z h s "java/lang/String"
theorem okv.ext {G : Gx} {h h' : Heap} {v : Value} (H : okv G h v) (E : Ext h h') : okv G h' v := ⟨H.1, fun s q => (H.2 s q).ext E⟩
theorem okv.keep {G : Gx} {h h' : Heap} {v : Value} {ws : List Addr} (H : okv G h v) (K : Keep h h' ws) : okv G h' v := ⟨H.1, fun s q => (H.2 s q).keep K⟩
theorem okv.null {G : Gx} {h : Heap} : okv G h .null := ⟨rfl, nofun⟩
theorem okv.str {G : Gx} {h : Heap} {s : Addr} (E : Exa G.Z h s "java/lang/String") : okv G h (.ref s) := ⟨rfl, fun t q => by cases q; exact E⟩
theorem pn0 : plainName "com/example/due_share/dueshare/UriReferenceWithoutFragmentPinLaw" = true := by first | (simp [plainName, overriddenIn]; done) | decide +kernel
theorem pn17 : plainName "java/lang/StringUTF16" = true := by first | (simp [plainName, overriddenIn]; done) | decide +kernel
theorem pn16 : plainName "java/lang/StringUTF16" = true := by first | (simp [plainName, overriddenIn]; done) | decide +kernel
theorem pn18 : plainName "java/lang/StringUTF16" = true := by first | (simp [plainName, overriddenIn]; done) | decide +kernel
theorem pn3 : plainName "java/lang/String" = true := by first | (simp [plainName, overriddenIn]; done) | decide +kernel
theorem pn2 : plainName "java/lang/String" = true := by first | (simp [plainName, overriddenIn]; done) | decide +kernel
theorem pn20 : plainName "java/lang/StringLatin1" = true := by first | (simp [plainName, overriddenIn]; done) | decide +kernel
theorem pn21 : plainName "java/lang/StringLatin1" = true := by first | (simp [plainName, overriddenIn]; done) | decide +kernel
theorem pn22 : plainName "java/lang/String" = true := by first | (simp [plainName, overriddenIn]; done) | decide +kernel
theorem pn19 : plainName "java/lang/String" = true := by first | (simp [plainName, overriddenIn]; done) | decide +kernel
theorem pn1 : plainName "com/example/due_share/dueshare/UriReferenceWithoutFragmentPinLaw" = true := by first | (simp [plainName, overriddenIn]; done) | decide +kernel
theorem pn6 : plainName "java/lang/Record" = true := by first | (simp [plainName, overriddenIn]; done) | decide +kernel
theorem pn5 : plainName "com/example/due_share/dueshare/UriReference" = true := by first | (simp [plainName, overriddenIn]; done) | decide +kernel
theorem pn15 : plainName "com/example/due_share/dueshare/UriReference$Authority" = true := by first | (simp [plainName, overriddenIn]; done) | decide +kernel
theorem pn7 : plainName "com/example/due_share/dueshare/UriReference" = true := by first | (simp [plainName, overriddenIn]; done) | decide +kernel
theorem pn8 : plainName "com/example/due_share/dueshare/UriReference" = true := by first | (simp [plainName, overriddenIn]; done) | decide +kernel
theorem pn9 : plainName "com/example/due_share/dueshare/UriReference" = true := by first | (simp [plainName, overriddenIn]; done) | decide +kernel
theorem pn11 : plainName "com/example/due_share/dueshare/UriReference" = true := by first | (simp [plainName, overriddenIn]; done) | decide +kernel
theorem pn12 : plainName "com/example/due_share/dueshare/UriReference" = true := by first | (simp [plainName, overriddenIn]; done) | decide +kernel
theorem pn14 : plainName "com/example/due_share/dueshare/UriReference" = true := by first | (simp [plainName, overriddenIn]; done) | decide +kernel
theorem pn13 : plainName "java/lang/String" = true := by first | (simp [plainName, overriddenIn]; done) | decide +kernel
theorem pn10 : plainName "com/example/due_share/dueshare/UriReferenceWithoutFragmentPinLaw" = true := by first | (simp [plainName, overriddenIn]; done) | decide +kernel
theorem pd__I_Ljava_lang_String_ : parseMethodDescriptor "(I)Ljava/lang/String;" = some ⟨[.int], some (.object "java/lang/String")⟩ := by decide +kernel
theorem pd__Ljava_lang_String_Ljava_lang_String_I_V : parseMethodDescriptor "(Ljava/lang/String;Ljava/lang/String;I)V" = some ⟨[(.object "java/lang/String"), (.object "java/lang/String"), .int], none⟩ := by decide +kernel
theorem pd__Ljava_lang_String_Lcom_example_due_share_dueshare_UriReference_Authority_Ljava_lang_String_Ljava_lang_String_Ljava_lang_String__V : parseMethodDescriptor "(Ljava/lang/String;Lcom/example/due_share/dueshare/UriReference$Authority;Ljava/lang/String;Ljava/lang/String;Ljava/lang/String;)V" = some ⟨[(.object "java/lang/String"), (.object "com/example/due_share/dueshare/UriReference$Authority"), (.object "java/lang/String"), (.object "java/lang/String"), (.object "java/lang/String")], none⟩ := by decide +kernel
theorem pd___Lcom_example_due_share_dueshare_UriReference_ : parseMethodDescriptor "()Lcom/example/due_share/dueshare/UriReference;" = some ⟨[], some (.object "com/example/due_share/dueshare/UriReference")⟩ := by decide +kernel
theorem pd___Ljava_lang_String_ : parseMethodDescriptor "()Ljava/lang/String;" = some ⟨[], some (.object "java/lang/String")⟩ := by decide +kernel
theorem pd__Ljava_lang_String_Ljava_lang_String__Z : parseMethodDescriptor "(Ljava/lang/String;Ljava/lang/String;)Z" = some ⟨[(.object "java/lang/String"), (.object "java/lang/String")], some .boolean⟩ := by decide +kernel
theorem pd___Lcom_example_due_share_dueshare_UriReference_Authority_ : parseMethodDescriptor "()Lcom/example/due_share/dueshare/UriReference$Authority;" = some ⟨[], some (.object "com/example/due_share/dueshare/UriReference$Authority")⟩ := by decide +kernel
theorem pd___CI_BII_I : parseMethodDescriptor "([CI[BII)I" = some ⟨[(.array .char), .int, (.array .byte), .int, .int], some .int⟩ := by decide +kernel
theorem pd___CII__B : parseMethodDescriptor "([CII)[B" = some ⟨[(.array .char), .int, .int], some (.array .byte)⟩ := by decide +kernel
theorem pd___BI_B : parseMethodDescriptor "([BI)B" = some ⟨[(.array .byte), .int], some .byte⟩ := by decide +kernel
theorem pd___CIILjava_lang_Void__V : parseMethodDescriptor "([CIILjava/lang/Void;)V" = some ⟨[(.array .char), .int, .int, (.object "java/lang/Void")], none⟩ := by decide +kernel
theorem pd__C_Z : parseMethodDescriptor "(C)Z" = some ⟨[.char], some .boolean⟩ := by decide +kernel
theorem pd__C__B : parseMethodDescriptor "(C)[B" = some ⟨[.char], some (.array .byte)⟩ := by decide +kernel
theorem pd___BB_V : parseMethodDescriptor "([BB)V" = some ⟨[(.array .byte), .byte], none⟩ := by decide +kernel
theorem pd___C_V : parseMethodDescriptor "([C)V" = some ⟨[(.array .char)], none⟩ := by decide +kernel
theorem pd__C_Ljava_lang_String_ : parseMethodDescriptor "(C)Ljava/lang/String;" = some ⟨[.char], some (.object "java/lang/String")⟩ := by decide +kernel
theorem pd___V : parseMethodDescriptor "()V" = some ⟨[], none⟩ := by decide +kernel
theorem pd__Ljava_lang_Object__Z : parseMethodDescriptor "(Ljava/lang/Object;)Z" = some ⟨[(.object "java/lang/Object")], some .boolean⟩ := by decide +kernel

theorem d17_0 : decode jdk_52_method_21_code 0 = .ok (.iconst 0, 1) := by decide +kernel
theorem d17_1 : decode jdk_52_method_21_code 1 = .ok (.istore 5, 2) := by decide +kernel
theorem d17_3 : decode jdk_52_method_21_code 3 = .ok (.iload 5, 2) := by decide +kernel
theorem d17_5 : decode jdk_52_method_21_code 5 = .ok (.iload 4, 2) := by decide +kernel
theorem d17_7 : decode jdk_52_method_21_code 7 = .ok (.if_icmp .ge 37, 3) := by decide +kernel
theorem d17_10 : decode jdk_52_method_21_code 10 = .ok (.aload_n 0, 1) := by decide +kernel
theorem d17_11 : decode jdk_52_method_21_code 11 = .ok (.iload_n 1, 1) := by decide +kernel
theorem d17_12 : decode jdk_52_method_21_code 12 = .ok (.caload, 1) := by decide +kernel
theorem d17_13 : decode jdk_52_method_21_code 13 = .ok (.istore 6, 2) := by decide +kernel
theorem d17_15 : decode jdk_52_method_21_code 15 = .ok (.iload 6, 2) := by decide +kernel
theorem d17_17 : decode jdk_52_method_21_code 17 = .ok (.sipush 255, 3) := by decide +kernel
theorem d17_20 : decode jdk_52_method_21_code 20 = .ok (.if_icmp .le 6, 3) := by decide +kernel
theorem d17_23 : decode jdk_52_method_21_code 23 = .ok (.iload 5, 2) := by decide +kernel
theorem d17_25 : decode jdk_52_method_21_code 25 = .ok (.ireturn, 1) := by decide +kernel
theorem d17_26 : decode jdk_52_method_21_code 26 = .ok (.aload_n 2, 1) := by decide +kernel
theorem d17_27 : decode jdk_52_method_21_code 27 = .ok (.iload_n 3, 1) := by decide +kernel
theorem d17_28 : decode jdk_52_method_21_code 28 = .ok (.iload 6, 2) := by decide +kernel
theorem d17_30 : decode jdk_52_method_21_code 30 = .ok (.i2b, 1) := by decide +kernel
theorem d17_31 : decode jdk_52_method_21_code 31 = .ok (.bastore, 1) := by decide +kernel
theorem d17_32 : decode jdk_52_method_21_code 32 = .ok (.iinc 1 1, 3) := by decide +kernel
theorem d17_35 : decode jdk_52_method_21_code 35 = .ok (.iinc 3 1, 3) := by decide +kernel
theorem d17_38 : decode jdk_52_method_21_code 38 = .ok (.iinc 5 1, 3) := by decide +kernel
theorem d17_41 : decode jdk_52_method_21_code 41 = .ok (.goto (-38), 3) := by decide +kernel
theorem d17_44 : decode jdk_52_method_21_code 44 = .ok (.iload 4, 2) := by decide +kernel
theorem d17_46 : decode jdk_52_method_21_code 46 = .ok (.ireturn, 1) := by decide +kernel
theorem d16_0 : decode jdk_52_method_16_code 0 = .ok (.iload_n 2, 1) := by decide +kernel
theorem d16_1 : decode jdk_52_method_16_code 1 = .ok (.newarray .byte, 2) := by decide +kernel
theorem d16_3 : decode jdk_52_method_16_code 3 = .ok (.astore_n 3, 1) := by decide +kernel
theorem d16_4 : decode jdk_52_method_16_code 4 = .ok (.aload_n 0, 1) := by decide +kernel
theorem d16_5 : decode jdk_52_method_16_code 5 = .ok (.iload_n 1, 1) := by decide +kernel
theorem d16_6 : decode jdk_52_method_16_code 6 = .ok (.aload_n 3, 1) := by decide +kernel
theorem d16_7 : decode jdk_52_method_16_code 7 = .ok (.iconst 0, 1) := by decide +kernel
theorem d16_8 : decode jdk_52_method_16_code 8 = .ok (.iload_n 2, 1) := by decide +kernel
theorem d16_9 : decode jdk_52_method_16_code 9 = .ok (.invokestatic 115, 3) := by decide +kernel
theorem d16_12 : decode jdk_52_method_16_code 12 = .ok (.istore 4, 2) := by decide +kernel
theorem d16_14 : decode jdk_52_method_16_code 14 = .ok (.iload 4, 2) := by decide +kernel
theorem d16_16 : decode jdk_52_method_16_code 16 = .ok (.iload_n 2, 1) := by decide +kernel
theorem d16_17 : decode jdk_52_method_16_code 17 = .ok (.if_icmp .eq 40, 3) := by decide +kernel
theorem d16_57 : decode jdk_52_method_16_code 57 = .ok (.aload_n 3, 1) := by decide +kernel
theorem d16_58 : decode jdk_52_method_16_code 58 = .ok (.areturn, 1) := by decide +kernel
theorem d18_0 : decode jdk_52_method_15_code 0 = .ok (.iload_n 1, 1) := by decide +kernel
theorem d18_1 : decode jdk_52_method_15_code 1 = .ok (.aload_n 0, 1) := by decide +kernel
theorem d18_2 : decode jdk_52_method_15_code 2 = .ok (.arraylength, 1) := by decide +kernel
theorem d18_3 : decode jdk_52_method_15_code 3 = .ok (.isub, 1) := by decide +kernel
theorem d18_4 : decode jdk_52_method_15_code 4 = .ok (.bipush 31, 2) := by decide +kernel
theorem d18_6 : decode jdk_52_method_15_code 6 = .ok (.iushr, 1) := by decide +kernel
theorem d18_7 : decode jdk_52_method_15_code 7 = .ok (.i2b, 1) := by decide +kernel
theorem d18_8 : decode jdk_52_method_15_code 8 = .ok (.ireturn, 1) := by decide +kernel
theorem d3_0 : decode jdk_42_method_149_code 0 = .ok (.aload_n 0, 1) := by decide +kernel
theorem d3_1 : decode jdk_42_method_149_code 1 = .ok (.invokespecial 1, 3) := by decide +kernel
theorem d3_4 : decode jdk_42_method_149_code 4 = .ok (.iload_n 3, 1) := by decide +kernel
theorem d3_5 : decode jdk_42_method_149_code 5 = .ok (.ifCond .ne 22, 3) := by decide +kernel
theorem d3_8 : decode jdk_42_method_149_code 8 = .ok (.aload_n 0, 1) := by decide +kernel
theorem d3_9 : decode jdk_42_method_149_code 9 = .ok (.ldc 7, 2) := by decide +kernel
theorem d3_11 : decode jdk_42_method_149_code 11 = .ok (.getfield 9, 3) := by decide +kernel
theorem d3_14 : decode jdk_42_method_149_code 14 = .ok (.putfield 9, 3) := by decide +kernel
theorem d3_17 : decode jdk_42_method_149_code 17 = .ok (.aload_n 0, 1) := by decide +kernel
theorem d3_18 : decode jdk_42_method_149_code 18 = .ok (.ldc 7, 2) := by decide +kernel
theorem d3_20 : decode jdk_42_method_149_code 20 = .ok (.getfield 15, 3) := by decide +kernel
theorem d3_23 : decode jdk_42_method_149_code 23 = .ok (.putfield 15, 3) := by decide +kernel
theorem d3_26 : decode jdk_42_method_149_code 26 = .ok (.return_, 1) := by decide +kernel
theorem d3_27 : decode jdk_42_method_149_code 27 = .ok (.getstatic 38, 3) := by decide +kernel
theorem d3_30 : decode jdk_42_method_149_code 30 = .ok (.ifCond .eq 28, 3) := by decide +kernel
theorem d3_33 : decode jdk_42_method_149_code 33 = .ok (.aload_n 1, 1) := by decide +kernel
theorem d3_34 : decode jdk_42_method_149_code 34 = .ok (.iload_n 2, 1) := by decide +kernel
theorem d3_35 : decode jdk_42_method_149_code 35 = .ok (.iload_n 3, 1) := by decide +kernel
theorem d3_36 : decode jdk_42_method_149_code 36 = .ok (.invokestatic 177, 3) := by decide +kernel
theorem d3_39 : decode jdk_42_method_149_code 39 = .ok (.astore 5, 2) := by decide +kernel
theorem d3_41 : decode jdk_42_method_149_code 41 = .ok (.aload_n 0, 1) := by decide +kernel
theorem d3_42 : decode jdk_42_method_149_code 42 = .ok (.aload 5, 2) := by decide +kernel
theorem d3_44 : decode jdk_42_method_149_code 44 = .ok (.iload_n 3, 1) := by decide +kernel
theorem d3_45 : decode jdk_42_method_149_code 45 = .ok (.invokestatic 47, 3) := by decide +kernel
theorem d3_48 : decode jdk_42_method_149_code 48 = .ok (.putfield 15, 3) := by decide +kernel
theorem d3_51 : decode jdk_42_method_149_code 51 = .ok (.aload_n 0, 1) := by decide +kernel
theorem d3_52 : decode jdk_42_method_149_code 52 = .ok (.aload 5, 2) := by decide +kernel
theorem d3_54 : decode jdk_42_method_149_code 54 = .ok (.putfield 9, 3) := by decide +kernel
theorem d3_57 : decode jdk_42_method_149_code 57 = .ok (.return_, 1) := by decide +kernel
theorem d2_0 : decode jdk_42_method_3_code 0 = .ok (.aload_n 0, 1) := by decide +kernel
theorem d2_1 : decode jdk_42_method_3_code 1 = .ok (.aload_n 1, 1) := by decide +kernel
theorem d2_2 : decode jdk_42_method_3_code 2 = .ok (.iconst 0, 1) := by decide +kernel
theorem d2_3 : decode jdk_42_method_3_code 3 = .ok (.aload_n 1, 1) := by decide +kernel
theorem d2_4 : decode jdk_42_method_3_code 4 = .ok (.arraylength, 1) := by decide +kernel
theorem d2_5 : decode jdk_42_method_3_code 5 = .ok (.aconst_null, 1) := by decide +kernel
theorem d2_6 : decode jdk_42_method_3_code 6 = .ok (.invokespecial 27, 3) := by decide +kernel
theorem d2_9 : decode jdk_42_method_3_code 9 = .ok (.return_, 1) := by decide +kernel
theorem d20_0 : decode jdk_43_method_3_code 0 = .ok (.iload_n 0, 1) := by decide +kernel
theorem d20_1 : decode jdk_43_method_3_code 1 = .ok (.sipush 255, 3) := by decide +kernel
theorem d20_4 : decode jdk_43_method_3_code 4 = .ok (.if_icmp .gt 7, 3) := by decide +kernel
theorem d20_7 : decode jdk_43_method_3_code 7 = .ok (.iconst 1, 1) := by decide +kernel
theorem d20_8 : decode jdk_43_method_3_code 8 = .ok (.goto 4, 3) := by decide +kernel
theorem d20_12 : decode jdk_43_method_3_code 12 = .ok (.ireturn, 1) := by decide +kernel
theorem d21_0 : decode jdk_43_method_46_code 0 = .ok (.iconst 1, 1) := by decide +kernel
theorem d21_1 : decode jdk_43_method_46_code 1 = .ok (.newarray .byte, 2) := by decide +kernel
theorem d21_3 : decode jdk_43_method_46_code 3 = .ok (.dup, 1) := by decide +kernel
theorem d21_4 : decode jdk_43_method_46_code 4 = .ok (.iconst 0, 1) := by decide +kernel
theorem d21_5 : decode jdk_43_method_46_code 5 = .ok (.iload_n 0, 1) := by decide +kernel
theorem d21_6 : decode jdk_43_method_46_code 6 = .ok (.i2b, 1) := by decide +kernel
theorem d21_7 : decode jdk_43_method_46_code 7 = .ok (.bastore, 1) := by decide +kernel
theorem d21_8 : decode jdk_43_method_46_code 8 = .ok (.areturn, 1) := by decide +kernel
theorem d22_0 : decode jdk_42_method_151_code 0 = .ok (.aload_n 0, 1) := by decide +kernel
theorem d22_1 : decode jdk_42_method_151_code 1 = .ok (.invokespecial 1, 3) := by decide +kernel
theorem d22_4 : decode jdk_42_method_151_code 4 = .ok (.aload_n 0, 1) := by decide +kernel
theorem d22_5 : decode jdk_42_method_151_code 5 = .ok (.aload_n 1, 1) := by decide +kernel
theorem d22_6 : decode jdk_42_method_151_code 6 = .ok (.putfield 9, 3) := by decide +kernel
theorem d22_9 : decode jdk_42_method_151_code 9 = .ok (.aload_n 0, 1) := by decide +kernel
theorem d22_10 : decode jdk_42_method_151_code 10 = .ok (.iload_n 2, 1) := by decide +kernel
theorem d22_11 : decode jdk_42_method_151_code 11 = .ok (.putfield 15, 3) := by decide +kernel
theorem d22_14 : decode jdk_42_method_151_code 14 = .ok (.return_, 1) := by decide +kernel
theorem d19_0 : decode jdk_42_method_139_code 0 = .ok (.getstatic 38, 3) := by decide +kernel
theorem d19_3 : decode jdk_42_method_139_code 3 = .ok (.ifCond .eq 23, 3) := by decide +kernel
theorem d19_6 : decode jdk_42_method_139_code 6 = .ok (.iload_n 0, 1) := by decide +kernel
theorem d19_7 : decode jdk_42_method_139_code 7 = .ok (.invokestatic 1015, 3) := by decide +kernel
theorem d19_10 : decode jdk_42_method_139_code 10 = .ok (.ifCond .eq 16, 3) := by decide +kernel
theorem d19_13 : decode jdk_42_method_139_code 13 = .ok (.new 10, 3) := by decide +kernel
theorem d19_16 : decode jdk_42_method_139_code 16 = .ok (.dup, 1) := by decide +kernel
theorem d19_17 : decode jdk_42_method_139_code 17 = .ok (.iload_n 0, 1) := by decide +kernel
theorem d19_18 : decode jdk_42_method_139_code 18 = .ok (.invokestatic 1018, 3) := by decide +kernel
theorem d19_21 : decode jdk_42_method_139_code 21 = .ok (.iconst 0, 1) := by decide +kernel
theorem d19_22 : decode jdk_42_method_139_code 22 = .ok (.invokespecial 209, 3) := by decide +kernel
theorem d19_25 : decode jdk_42_method_139_code 25 = .ok (.areturn, 1) := by decide +kernel
theorem d1_0 : decode method_3_code 0 = .ok (.iload_n 0, 1) := by decide +kernel
theorem d1_1 : decode method_3_code 1 = .ok (.sipush 255, 3) := by decide +kernel
theorem d1_4 : decode method_3_code 4 = .ok (.iand, 1) := by decide +kernel
theorem d1_5 : decode method_3_code 5 = .ok (.i2c, 1) := by decide +kernel
theorem d1_6 : decode method_3_code 6 = .ok (.istore_n 1, 1) := by decide +kernel
theorem d1_7 : decode method_3_code 7 = .ok (.iload_n 0, 1) := by decide +kernel
theorem d1_8 : decode method_3_code 8 = .ok (.bipush 8, 2) := by decide +kernel
theorem d1_10 : decode method_3_code 10 = .ok (.iushr, 1) := by decide +kernel
theorem d1_11 : decode method_3_code 11 = .ok (.sipush 255, 3) := by decide +kernel
theorem d1_14 : decode method_3_code 14 = .ok (.iand, 1) := by decide +kernel
theorem d1_15 : decode method_3_code 15 = .ok (.i2c, 1) := by decide +kernel
theorem d1_16 : decode method_3_code 16 = .ok (.istore_n 2, 1) := by decide +kernel
theorem d1_17 : decode method_3_code 17 = .ok (.iload_n 0, 1) := by decide +kernel
theorem d1_18 : decode method_3_code 18 = .ok (.bipush 16, 2) := by decide +kernel
theorem d1_20 : decode method_3_code 20 = .ok (.iushr, 1) := by decide +kernel
theorem d1_21 : decode method_3_code 21 = .ok (.iconst 3, 1) := by decide +kernel
theorem d1_22 : decode method_3_code 22 = .ok (.iand, 1) := by decide +kernel
theorem d1_23 : decode method_3_code 23 = .ok (.istore_n 3, 1) := by decide +kernel
theorem d1_24 : decode method_3_code 24 = .ok (.iload_n 3, 1) := by decide +kernel
theorem d1_25 : decode method_3_code 25 = .ok (.ifCond .ne 14, 3) := by decide +kernel
theorem d1_28 : decode method_3_code 28 = .ok (.new 48, 3) := by decide +kernel
theorem d1_31 : decode method_3_code 31 = .ok (.dup, 1) := by decide +kernel
theorem d1_32 : decode method_3_code 32 = .ok (.iconst 0, 1) := by decide +kernel
theorem d1_33 : decode method_3_code 33 = .ok (.newarray .char, 2) := by decide +kernel
theorem d1_35 : decode method_3_code 35 = .ok (.invokespecial 50, 3) := by decide +kernel
theorem d1_38 : decode method_3_code 38 = .ok (.areturn, 1) := by decide +kernel
theorem d1_39 : decode method_3_code 39 = .ok (.iload_n 3, 1) := by decide +kernel
theorem d1_40 : decode method_3_code 40 = .ok (.iconst 1, 1) := by decide +kernel
theorem d1_41 : decode method_3_code 41 = .ok (.if_icmp .ne 8, 3) := by decide +kernel
theorem d1_44 : decode method_3_code 44 = .ok (.iload_n 1, 1) := by decide +kernel
theorem d1_45 : decode method_3_code 45 = .ok (.invokestatic 53, 3) := by decide +kernel
theorem d1_48 : decode method_3_code 48 = .ok (.areturn, 1) := by decide +kernel
theorem d1_49 : decode method_3_code 49 = .ok (.new 48, 3) := by decide +kernel
theorem d1_52 : decode method_3_code 52 = .ok (.dup, 1) := by decide +kernel
theorem d1_53 : decode method_3_code 53 = .ok (.iconst 2, 1) := by decide +kernel
theorem d1_54 : decode method_3_code 54 = .ok (.newarray .char, 2) := by decide +kernel
theorem d1_56 : decode method_3_code 56 = .ok (.dup, 1) := by decide +kernel
theorem d1_57 : decode method_3_code 57 = .ok (.iconst 0, 1) := by decide +kernel
theorem d1_58 : decode method_3_code 58 = .ok (.iload_n 1, 1) := by decide +kernel
theorem d1_59 : decode method_3_code 59 = .ok (.castore, 1) := by decide +kernel
theorem d1_60 : decode method_3_code 60 = .ok (.dup, 1) := by decide +kernel
theorem d1_61 : decode method_3_code 61 = .ok (.iconst 1, 1) := by decide +kernel
theorem d1_62 : decode method_3_code 62 = .ok (.iload_n 2, 1) := by decide +kernel
theorem d1_63 : decode method_3_code 63 = .ok (.castore, 1) := by decide +kernel
theorem d1_64 : decode method_3_code 64 = .ok (.invokespecial 50, 3) := by decide +kernel
theorem d1_67 : decode method_3_code 67 = .ok (.areturn, 1) := by decide +kernel
theorem d6_0 : decode jdk_30_method_1_code 0 = .ok (.aload_n 0, 1) := by decide +kernel
theorem d6_1 : decode jdk_30_method_1_code 1 = .ok (.invokespecial 1, 3) := by decide +kernel
theorem d6_4 : decode jdk_30_method_1_code 4 = .ok (.return_, 1) := by decide +kernel
theorem d5_0 : decode prog_21_method_1_code 0 = .ok (.aload_n 0, 1) := by decide +kernel
theorem d5_1 : decode prog_21_method_1_code 1 = .ok (.invokespecial 3, 3) := by decide +kernel
theorem d5_4 : decode prog_21_method_1_code 4 = .ok (.aload_n 0, 1) := by decide +kernel
theorem d5_5 : decode prog_21_method_1_code 5 = .ok (.aload_n 1, 1) := by decide +kernel
theorem d5_6 : decode prog_21_method_1_code 6 = .ok (.putfield 9, 3) := by decide +kernel
theorem d5_9 : decode prog_21_method_1_code 9 = .ok (.aload_n 0, 1) := by decide +kernel
theorem d5_10 : decode prog_21_method_1_code 10 = .ok (.aload_n 2, 1) := by decide +kernel
theorem d5_11 : decode prog_21_method_1_code 11 = .ok (.putfield 13, 3) := by decide +kernel
theorem d5_14 : decode prog_21_method_1_code 14 = .ok (.aload_n 0, 1) := by decide +kernel
theorem d5_15 : decode prog_21_method_1_code 15 = .ok (.aload_n 3, 1) := by decide +kernel
theorem d5_16 : decode prog_21_method_1_code 16 = .ok (.putfield 17, 3) := by decide +kernel
theorem d5_19 : decode prog_21_method_1_code 19 = .ok (.aload_n 0, 1) := by decide +kernel
theorem d5_20 : decode prog_21_method_1_code 20 = .ok (.aload 4, 2) := by decide +kernel
theorem d5_22 : decode prog_21_method_1_code 22 = .ok (.putfield 20, 3) := by decide +kernel
theorem d5_25 : decode prog_21_method_1_code 25 = .ok (.aload_n 0, 1) := by decide +kernel
theorem d5_26 : decode prog_21_method_1_code 26 = .ok (.aload 5, 2) := by decide +kernel
theorem d5_28 : decode prog_21_method_1_code 28 = .ok (.putfield 23, 3) := by decide +kernel
theorem d5_31 : decode prog_21_method_1_code 31 = .ok (.return_, 1) := by decide +kernel
theorem d15_0 : decode prog_22_method_1_code 0 = .ok (.aload_n 0, 1) := by decide +kernel
theorem d15_1 : decode prog_22_method_1_code 1 = .ok (.invokespecial 3, 3) := by decide +kernel
theorem d15_4 : decode prog_22_method_1_code 4 = .ok (.aload_n 0, 1) := by decide +kernel
theorem d15_5 : decode prog_22_method_1_code 5 = .ok (.aload_n 1, 1) := by decide +kernel
theorem d15_6 : decode prog_22_method_1_code 6 = .ok (.putfield 9, 3) := by decide +kernel
theorem d15_9 : decode prog_22_method_1_code 9 = .ok (.aload_n 0, 1) := by decide +kernel
theorem d15_10 : decode prog_22_method_1_code 10 = .ok (.aload_n 2, 1) := by decide +kernel
theorem d15_11 : decode prog_22_method_1_code 11 = .ok (.putfield 15, 3) := by decide +kernel
theorem d15_14 : decode prog_22_method_1_code 14 = .ok (.aload_n 0, 1) := by decide +kernel
theorem d15_15 : decode prog_22_method_1_code 15 = .ok (.iload_n 3, 1) := by decide +kernel
theorem d15_16 : decode prog_22_method_1_code 16 = .ok (.putfield 18, 3) := by decide +kernel
theorem d15_19 : decode prog_22_method_1_code 19 = .ok (.return_, 1) := by decide +kernel
theorem d7_0 : decode prog_21_method_7_code 0 = .ok (.new 1, 3) := by decide +kernel
theorem d7_3 : decode prog_21_method_7_code 3 = .ok (.dup, 1) := by decide +kernel
theorem d7_4 : decode prog_21_method_7_code 4 = .ok (.aload_n 0, 1) := by decide +kernel
theorem d7_5 : decode prog_21_method_7_code 5 = .ok (.getfield 9, 3) := by decide +kernel
theorem d7_8 : decode prog_21_method_7_code 8 = .ok (.aload_n 0, 1) := by decide +kernel
theorem d7_9 : decode prog_21_method_7_code 9 = .ok (.getfield 13, 3) := by decide +kernel
theorem d7_12 : decode prog_21_method_7_code 12 = .ok (.aload_n 0, 1) := by decide +kernel
theorem d7_13 : decode prog_21_method_7_code 13 = .ok (.getfield 17, 3) := by decide +kernel
theorem d7_16 : decode prog_21_method_7_code 16 = .ok (.aload_n 0, 1) := by decide +kernel
theorem d7_17 : decode prog_21_method_7_code 17 = .ok (.getfield 20, 3) := by decide +kernel
theorem d7_20 : decode prog_21_method_7_code 20 = .ok (.aconst_null, 1) := by decide +kernel
theorem d7_21 : decode prog_21_method_7_code 21 = .ok (.invokespecial 122, 3) := by decide +kernel
theorem d7_24 : decode prog_21_method_7_code 24 = .ok (.areturn, 1) := by decide +kernel
theorem d8_0 : decode prog_21_method_26_code 0 = .ok (.aload_n 0, 1) := by decide +kernel
theorem d8_1 : decode prog_21_method_26_code 1 = .ok (.getfield 23, 3) := by decide +kernel
theorem d8_4 : decode prog_21_method_26_code 4 = .ok (.areturn, 1) := by decide +kernel
theorem d9_0 : decode prog_21_method_22_code 0 = .ok (.aload_n 0, 1) := by decide +kernel
theorem d9_1 : decode prog_21_method_22_code 1 = .ok (.getfield 9, 3) := by decide +kernel
theorem d9_4 : decode prog_21_method_22_code 4 = .ok (.areturn, 1) := by decide +kernel
theorem d11_0 : decode prog_21_method_23_code 0 = .ok (.aload_n 0, 1) := by decide +kernel
theorem d11_1 : decode prog_21_method_23_code 1 = .ok (.getfield 13, 3) := by decide +kernel
theorem d11_4 : decode prog_21_method_23_code 4 = .ok (.areturn, 1) := by decide +kernel
theorem d12_0 : decode prog_21_method_24_code 0 = .ok (.aload_n 0, 1) := by decide +kernel
theorem d12_1 : decode prog_21_method_24_code 1 = .ok (.getfield 17, 3) := by decide +kernel
theorem d12_4 : decode prog_21_method_24_code 4 = .ok (.areturn, 1) := by decide +kernel
theorem d14_0 : decode prog_21_method_25_code 0 = .ok (.aload_n 0, 1) := by decide +kernel
theorem d14_1 : decode prog_21_method_25_code 1 = .ok (.getfield 20, 3) := by decide +kernel
theorem d14_4 : decode prog_21_method_25_code 4 = .ok (.areturn, 1) := by decide +kernel
theorem d13_0 : decode jdk_42_method_66_code 0 = .ok (.aload_n 0, 1) := by decide +kernel
theorem d13_1 : decode jdk_42_method_66_code 1 = .ok (.aload_n 1, 1) := by decide +kernel
theorem d13_2 : decode jdk_42_method_66_code 2 = .ok (.if_acmp .ne 5, 3) := by decide +kernel
theorem d13_5 : decode jdk_42_method_66_code 5 = .ok (.iconst 1, 1) := by decide +kernel
theorem d13_6 : decode jdk_42_method_66_code 6 = .ok (.ireturn, 1) := by decide +kernel
theorem d10_0 : decode method_4_code 0 = .ok (.aload_n 0, 1) := by decide +kernel
theorem d10_1 : decode method_4_code 1 = .ok (.ifnonnull 15, 3) := by decide +kernel
theorem d10_4 : decode method_4_code 4 = .ok (.aload_n 1, 1) := by decide +kernel
theorem d10_5 : decode method_4_code 5 = .ok (.ifnonnull 7, 3) := by decide +kernel
theorem d10_8 : decode method_4_code 8 = .ok (.iconst 1, 1) := by decide +kernel
theorem d10_9 : decode method_4_code 9 = .ok (.goto 12, 3) := by decide +kernel
theorem d10_16 : decode method_4_code 16 = .ok (.aload_n 0, 1) := by decide +kernel
theorem d10_17 : decode method_4_code 17 = .ok (.aload_n 1, 1) := by decide +kernel
theorem d10_18 : decode method_4_code 18 = .ok (.invokevirtual 57, 3) := by decide +kernel
theorem d10_21 : decode method_4_code 21 = .ok (.ireturn, 1) := by decide +kernel
theorem ef17 (m : MethodId) (x0 : Addr) (x1 : Int32) (x2 : Addr) (x3 : Int32) (x4 : Int32) : entryFrame m #[(.ref x0), (.int x1), (.ref x2), (.int x3), (.int x4)] 7 = mkF m 0 #[.val (.ref x0), .val (.int x1), .val (.ref x2), .val (.int x3), .val (.int x4), .unset, .unset] [] := by first | (simp [entryFrame, mkF, argsToLocals, Value.category]; done) | rfl
theorem ef16 (m : MethodId) (x0 : Addr) (x1 : Int32) (x2 : Int32) : entryFrame m #[(.ref x0), (.int x1), (.int x2)] 6 = mkF m 0 #[.val (.ref x0), .val (.int x1), .val (.int x2), .unset, .unset, .unset] [] := by first | (simp [entryFrame, mkF, argsToLocals, Value.category]; done) | rfl
theorem ef18 (m : MethodId) (x0 : Addr) (x1 : Int32) : entryFrame m #[(.ref x0), (.int x1)] 2 = mkF m 0 #[.val (.ref x0), .val (.int x1)] [] := by first | (simp [entryFrame, mkF, argsToLocals, Value.category]; done) | rfl
theorem ef3 (m : MethodId) (x0 : Addr) (x1 : Addr) (x2 : Int32) (x3 : Int32) : entryFrame m #[(.ref x0), (.ref x1), (.int x2), (.int x3), .null] 6 = mkF m 0 #[.val (.ref x0), .val (.ref x1), .val (.int x2), .val (.int x3), .val .null, .unset] [] := by first | (simp [entryFrame, mkF, argsToLocals, Value.category]; done) | rfl
theorem ef2 (m : MethodId) (x0 : Addr) (x1 : Addr) : entryFrame m #[(.ref x0), (.ref x1)] 2 = mkF m 0 #[.val (.ref x0), .val (.ref x1)] [] := by first | (simp [entryFrame, mkF, argsToLocals, Value.category]; done) | rfl
theorem ef20 (m : MethodId) (x0 : Int32) : entryFrame m #[(.int x0)] 1 = mkF m 0 #[.val (.int x0)] [] := by first | (simp [entryFrame, mkF, argsToLocals, Value.category]; done) | rfl
theorem ef21 (m : MethodId) (x0 : Int32) : entryFrame m #[(.int x0)] 1 = mkF m 0 #[.val (.int x0)] [] := by first | (simp [entryFrame, mkF, argsToLocals, Value.category]; done) | rfl
theorem ef22 (m : MethodId) (x0 : Addr) (x1 : Addr) (x2 : Int32) : entryFrame m #[(.ref x0), (.ref x1), (.int x2)] 3 = mkF m 0 #[.val (.ref x0), .val (.ref x1), .val (.int x2)] [] := by first | (simp [entryFrame, mkF, argsToLocals, Value.category]; done) | rfl
theorem ef19 (m : MethodId) (x0 : Int32) : entryFrame m #[(.int x0)] 1 = mkF m 0 #[.val (.int x0)] [] := by first | (simp [entryFrame, mkF, argsToLocals, Value.category]; done) | rfl
theorem ef1 (m : MethodId) (x0 : Int32) : entryFrame m #[(.int x0)] 4 = mkF m 0 #[.val (.int x0), .unset, .unset, .unset] [] := by first | (simp [entryFrame, mkF, argsToLocals, Value.category]; done) | rfl
theorem ef6 (m : MethodId) (x0 : Addr) : entryFrame m #[(.ref x0)] 1 = mkF m 0 #[.val (.ref x0)] [] := by first | (simp [entryFrame, mkF, argsToLocals, Value.category]; done) | rfl
theorem ef5 (m : MethodId) (x0 : Addr) (x1 : Value) (r_x1 : x1.isRef = true) (x2 : Value) (r_x2 : x2.isRef = true) (x3 : Value) (r_x3 : x3.isRef = true) (x4 : Value) (r_x4 : x4.isRef = true) (x5 : Value) (r_x5 : x5.isRef = true) : entryFrame m #[(.ref x0), x1, x2, x3, x4, x5] 6 = mkF m 0 #[.val (.ref x0), .val x1, .val x2, .val x3, .val x4, .val x5] [] := by (rcases ref_cases r_x1 with rfl | ⟨_, rfl⟩) <;> (rcases ref_cases r_x2 with rfl | ⟨_, rfl⟩) <;> (rcases ref_cases r_x3 with rfl | ⟨_, rfl⟩) <;> (rcases ref_cases r_x4 with rfl | ⟨_, rfl⟩) <;> (rcases ref_cases r_x5 with rfl | ⟨_, rfl⟩) <;> first | (simp [entryFrame, mkF, argsToLocals, Value.category]; done) | rfl
theorem ef15 (m : MethodId) (x0 : Addr) (x1 : Value) (r_x1 : x1.isRef = true) (x2 : Addr) (x3 : Int32) : entryFrame m #[(.ref x0), x1, (.ref x2), (.int x3)] 4 = mkF m 0 #[.val (.ref x0), .val x1, .val (.ref x2), .val (.int x3)] [] := by (rcases ref_cases r_x1 with rfl | ⟨_, rfl⟩) <;> first | (simp [entryFrame, mkF, argsToLocals, Value.category]; done) | rfl
theorem ef7 (m : MethodId) (x0 : Addr) : entryFrame m #[(.ref x0)] 1 = mkF m 0 #[.val (.ref x0)] [] := by first | (simp [entryFrame, mkF, argsToLocals, Value.category]; done) | rfl
theorem ef8 (m : MethodId) (x0 : Addr) : entryFrame m #[(.ref x0)] 1 = mkF m 0 #[.val (.ref x0)] [] := by first | (simp [entryFrame, mkF, argsToLocals, Value.category]; done) | rfl
theorem ef9 (m : MethodId) (x0 : Addr) : entryFrame m #[(.ref x0)] 1 = mkF m 0 #[.val (.ref x0)] [] := by first | (simp [entryFrame, mkF, argsToLocals, Value.category]; done) | rfl
theorem ef11 (m : MethodId) (x0 : Addr) : entryFrame m #[(.ref x0)] 1 = mkF m 0 #[.val (.ref x0)] [] := by first | (simp [entryFrame, mkF, argsToLocals, Value.category]; done) | rfl
theorem ef12 (m : MethodId) (x0 : Addr) : entryFrame m #[(.ref x0)] 1 = mkF m 0 #[.val (.ref x0)] [] := by first | (simp [entryFrame, mkF, argsToLocals, Value.category]; done) | rfl
theorem ef14 (m : MethodId) (x0 : Addr) : entryFrame m #[(.ref x0)] 1 = mkF m 0 #[.val (.ref x0)] [] := by first | (simp [entryFrame, mkF, argsToLocals, Value.category]; done) | rfl
theorem ef13 (m : MethodId) (x0 : Addr) (x1 : Addr) : entryFrame m #[(.ref x0), (.ref x1)] 3 = mkF m 0 #[.val (.ref x0), .val (.ref x1), .unset] [] := by first | (simp [entryFrame, mkF, argsToLocals, Value.category]; done) | rfl
theorem ef10 (m : MethodId) (x0 : Addr) (x1 : Addr) : entryFrame m #[(.ref x0), (.ref x1)] 2 = mkF m 0 #[.val (.ref x0), .val (.ref x1)] [] := by first | (simp [entryFrame, mkF, argsToLocals, Value.category]; done) | rfl
theorem ef10n (m : MethodId)  : entryFrame m #[.null, .null] 2 = mkF m 0 #[.val .null, .val .null] [] := by first | (simp [entryFrame, mkF, argsToLocals, Value.category]; done) | rfl
theorem ef0 (m : MethodId) (x0 : Int32) (x1 : Int32) (x2 : Int32) (x3 : Int32) (x4 : Int32) (x5 : Int32) : entryFrame m #[(.int x0), (.int x1), (.int x2), (.int x3), (.int x4), (.int x5)] maxLocals = mkF m 0 #[.val (.int x0), .val (.int x1), .val (.int x2), .val (.int x3), .val (.int x4), .val (.int x5), .unset, .unset, .unset, .unset, .unset, .unset, .unset, .unset] [] := by first | (simp [entryFrame, mkF, argsToLocals, Value.category, maxLocals]; done) | rfl
def rm17 : Room := { frames := 0, cells := 0, slots := 0, locals := 0 }
def rm16 : Room := { frames := 3, cells := 2, slots := 9, locals := 60 }
def rm18 : Room := { frames := 0, cells := 0, slots := 0, locals := 0 }
def rm3 : Room := { frames := 4, cells := 4, slots := 12, locals := 90 }
def rm2 : Room := { frames := 5, cells := 4, slots := 12, locals := 110 }
def rm20 : Room := { frames := 0, cells := 0, slots := 0, locals := 0 }
def rm21 : Room := { frames := 0, cells := 1, slots := 1, locals := 0 }
def rm22 : Room := { frames := 1, cells := 0, slots := 0, locals := 13 }
def rm19 : Room := { frames := 2, cells := 2, slots := 5, locals := 32 }
def rm1 : Room := { frames := 6, cells := 6, slots := 18, locals := 130 }
def rm6 : Room := { frames := 1, cells := 0, slots := 0, locals := 12 }
def rm5 : Room := { frames := 2, cells := 0, slots := 0, locals := 26 }
def rm15 : Room := { frames := 2, cells := 0, slots := 0, locals := 26 }
def rm7 : Room := { frames := 3, cells := 1, slots := 5, locals := 50 }
def rm13 : Room := { frames := 0, cells := 0, slots := 0, locals := 0 }
def rm10 : Room := { frames := 1, cells := 0, slots := 0, locals := 14 }
def rm8 : Room := { frames := 0, cells := 0, slots := 0, locals := 0 }
def rm9 : Room := { frames := 0, cells := 0, slots := 0, locals := 0 }
def rm11 : Room := { frames := 0, cells := 0, slots := 0, locals := 0 }
def rm12 : Room := { frames := 0, cells := 0, slots := 0, locals := 0 }
def rm14 : Room := { frames := 0, cells := 0, slots := 0, locals := 0 }
set_option maxRecDepth 65536 in
set_option maxHeartbeats 40000000 in
theorem con17 (G : Gx) (hw : ∀ d ∈ tables_1, d.before G.a0 G.Z = true) (t d : Addr) (n : Int32) (cs ds : List Int32) (h : Heap) (hok : own_ok cs) (hn : n.toInt = (cs.length : Nat)) (hl : ds.length = cs.length) (Z0 : G.n0 ≤ h.size) (g_d : G.n0 ≤ d) (ne_t_d : t ≠ d) (ne_d_t : d ≠ t) (A_t : Av G.Z h t .char (cs.map .int)) (A_d : Av G.Z h d .byte (ds.map .int)) :
    Con G (⟨"java/lang/StringUTF16", "compress", "([CI[BII)I"⟩ : MethodName) jdk_52_method_21_code 7 (some .int) rm17 #[(.ref t), (.int (0 : Int32)), (.ref d), (.int (0 : Int32)), (.int n)] h (fun v h' => ∃ r : Int32, v = some (.int r) ∧ Keep h h' [d] ∧ ((own_lo cs = true ∧ r = n ∧ Av G.Z h' d .byte ((cs.map own_b8).map .int)) ∨ (own_lo cs = false ∧ ∃ (k : Nat) (c : Int32), r.toInt = (k : Nat) ∧ cs[k]? = some c ∧ 255 < c.toInt))) := by
  refine Con.of (W := tables_1) (plainFor_of_name pn17) hw (fun mm => ef17 mm t (0 : Int32) d (0 : Int32) n) (fun K C => ?_)
  have C : Cx G K "java/lang/StringUTF16" "compress" jdk_52_method_21_code 7 (some .int) tables_1 := C
  generalize hQ : (fun v h' => ∃ r : Int32, v = some (.int r) ∧ Keep h h' [d] ∧ ((own_lo cs = true ∧ r = n ∧ Av G.Z h' d .byte ((cs.map own_b8).map .int)) ∨ (own_lo cs = false ∧ ∃ (k : Nat) (c : Int32), r.toInt = (k : Nat) ∧ cs[k]? = some c ∧ 255 < c.toInt)) : Option Value → Heap → Prop) = Q
  have K0 : Keep h h [d] := Keep.refl _ _
  have hok3 := hok.1
  obtain ⟨k, hk0⟩ : ∃ k : Nat, k = 0 := ⟨_, rfl⟩
  have ho : (0 : Int32).toInt = (k : Nat) := by rw [hk0]; decide
  have hp := ho
  have hi := ho
  have hk : k ≤ cs.length := by omega
  have hpre : ∀ j : Nat, j < k → ds[j]? = (cs.map own_b8)[j]? := fun j hj => by omega
  have hlo : ∀ j : Nat, j < k → ∀ c, cs[j]? = some c → c.toInt ≤ 255 := fun j hj => by omega
  refine N.iconst C (pc' := 1) (z := 0) d17_0 rfl rfl ?_
  refine N.istore C (pc' := 3) (ls' := #[.val (.ref t), .val (.int (0 : Int32)), .val (.ref d), .val (.int (0 : Int32)), .val (.int n), .val (.int (0 : Int32)), .unset]) d17_1 rfl rfl ?_
  have loop : ∀ (m : Nat) (h1 : Heap) (o p i c0 : Int32) (ds : List Int32) (k : Nat), cs.length - k ≤ m → o.toInt = (k : Nat) → p.toInt = (k : Nat) → i.toInt = (k : Nat) → k ≤ cs.length → ds.length = cs.length → (∀ j : Nat, j < k → ds[j]? = (cs.map own_b8)[j]?) → (∀ j : Nat, j < k → ∀ c, cs[j]? = some c → c.toInt ≤ 255) → Av G.Z h1 t .char (cs.map .int) → Av G.Z h1 d .byte (ds.map .int) → Keep h h1 [d] → G.n0 ≤ h1.size → N G K rm17 Q h1 0 0 3 #[.val (.ref t), .val (.int o), .val (.ref d), .val (.int p), .val (.int n), .val (.int i), .val (.int c0)] [] := by
    intro m
    induction m using Nat.strongRecOn with
    | _ m ih =>
    intro h1 o p i c0 ds k hm ho hp hi hk hl hpre hlo A_t A_d K0 Z0
    refine N.iload C (pc' := 5) d17_3 rfl rfl ?_
    refine N.iload C (pc' := 7) d17_5 rfl rfl ?_
    refine N.icmp C (pt := 44) (pf := 10) d17_7 rfl rfl (fun (hc7 : n.toInt ≤ i.toInt) => ?_) (fun (hc7 : i.toInt < n.toInt) => ?_)
    · refine N.iload C (pc' := 46) d17_44 rfl rfl ?_
      exact N.retI C d17_46 (by decide) (by decide) (by subst hQ; have ek : k = cs.length := (by omega); subst ek; have e := own_eqN (by simp) hl hpre; subst e; exact ⟨_, rfl, K0, Or.inl ⟨own_lo1 hlo, rfl, A_d⟩⟩)
    · refine N.aloadN C (pc' := 11) d17_10 rfl rfl rfl ?_
      refine N.iloadN C (pc' := 12) d17_11 rfl rfl ?_
      obtain ⟨c, hc1⟩ := own_at cs (k := k) (by omega)
      have hcr := hok.2 k c hc1
      refine N.caload C (pc' := 13) (i := k) (v := (.int c)) d17_12 A_t ho (own_pm hc1) rfl ?_
      refine N.istore C (pc' := 15) (ls' := #[.val (.ref t), .val (.int o), .val (.ref d), .val (.int p), .val (.int n), .val (.int i), .val (.int c)]) d17_13 rfl rfl ?_
      refine N.iload C (pc' := 17) d17_15 rfl rfl ?_
      refine N.sipush C (pc' := 20) (z := 255) d17_17 rfl rfl ?_
      refine N.icmp C (pt := 26) (pf := 23) d17_20 rfl rfl (fun (hc20 : c.toInt ≤ 255) => ?_) (fun (hc20 : 255 < c.toInt) => ?_)
      · refine N.aloadN C (pc' := 27) d17_26 rfl rfl rfl ?_
        refine N.iloadN C (pc' := 28) d17_27 rfl rfl ?_
        refine N.iload C (pc' := 30) d17_28 rfl rfl ?_
        refine N.i2b C (pc' := 31) d17_30 rfl ?_
        refine N.bastore C (pc' := 32) (i := k) d17_31 A_d hp (by rw [List.length_map, hl]; omega) g_d rfl (fun h31_1 W31 A_d => ?_)
        have Z0 : G.n0 ≤ _ := (Wr.size W31).symm ▸ Z0
        have A_t := A_t.other W31 ne_t_d
        have K0 := K0.wr W31 (Or.inl (List.mem_of_getElem? (i := 0) rfl))
        have A_d : Av G.Z h31_1 d .byte ((ds.set k (own_b8 c)).map .int) := by rw [List.map_set]; exact A_d
        refine N.iinc C (pc' := 35) (z := 1) (ls' := #[.val (.ref t), .val (.int (o + (1 : Int32))), .val (.ref d), .val (.int p), .val (.int n), .val (.int i), .val (.int c)]) d17_32 rfl rfl rfl rfl ?_
        refine N.iinc C (pc' := 38) (z := 1) (ls' := #[.val (.ref t), .val (.int (o + (1 : Int32))), .val (.ref d), .val (.int (p + (1 : Int32))), .val (.int n), .val (.int i), .val (.int c)]) d17_35 rfl rfl rfl rfl ?_
        refine N.iinc C (pc' := 41) (z := 1) (ls' := #[.val (.ref t), .val (.int (o + (1 : Int32))), .val (.ref d), .val (.int (p + (1 : Int32))), .val (.int n), .val (.int (i + (1 : Int32))), .val (.int c)]) d17_38 rfl rfl rfl rfl ?_
        refine N.goto C (pc' := 3) d17_41 rfl ?_
        exact ih _ (by omega) _ _ _ _ _ _ _ (Nat.le_refl _) (own_inc ho (by omega)) (own_inc hp (by omega)) (own_inc hi (by omega)) (by omega) (by rw [List.length_set]; exact hl) (own_stp hl (by omega) hpre (by rw [List.getElem?_map, hc1]; rfl)) (fun j hj c' hc' => by rcases Nat.lt_succ_iff_lt_or_eq.mp hj with q | q; exact hlo j q c' hc'; subst q; rw [hc1] at hc'; cases hc'; omega) A_t A_d K0 Z0
      · refine N.iload C (pc' := 25) d17_23 rfl rfl ?_
        exact N.retI C d17_25 (by decide) (by decide) (by subst hQ; exact ⟨_, rfl, K0, Or.inr ⟨own_lo0 hc1 hc20, k, c, hi, hc1, hc20⟩⟩)
  refine N.iload C (pc' := 5) d17_3 rfl rfl ?_
  refine N.iload C (pc' := 7) d17_5 rfl rfl ?_
  refine N.icmp C (pt := 44) (pf := 10) d17_7 rfl rfl (fun (hc7 : n.toInt ≤ 0) => ?_) (fun (hc7 : 0 < n.toInt) => ?_)
  · refine N.iload C (pc' := 46) d17_44 rfl rfl ?_
    exact N.retI C d17_46 (by decide) (by decide) (by subst hQ; have ek : k = cs.length := (by omega); subst ek; have e := own_eqN (by simp) hl hpre; subst e; exact ⟨_, rfl, K0, Or.inl ⟨own_lo1 hlo, rfl, A_d⟩⟩)
  · refine N.aloadN C (pc' := 11) d17_10 rfl rfl rfl ?_
    refine N.iloadN C (pc' := 12) d17_11 rfl rfl ?_
    obtain ⟨c, hc1⟩ := own_at cs (k := k) (by omega)
    have hcr := hok.2 k c hc1
    refine N.caload C (pc' := 13) (i := k) (v := (.int c)) d17_12 A_t ho (own_pm hc1) rfl ?_
    refine N.istore C (pc' := 15) (ls' := #[.val (.ref t), .val (.int (0 : Int32)), .val (.ref d), .val (.int (0 : Int32)), .val (.int n), .val (.int (0 : Int32)), .val (.int c)]) d17_13 rfl rfl ?_
    refine N.iload C (pc' := 17) d17_15 rfl rfl ?_
    refine N.sipush C (pc' := 20) (z := 255) d17_17 rfl rfl ?_
    refine N.icmp C (pt := 26) (pf := 23) d17_20 rfl rfl (fun (hc20 : c.toInt ≤ 255) => ?_) (fun (hc20 : 255 < c.toInt) => ?_)
    · refine N.aloadN C (pc' := 27) d17_26 rfl rfl rfl ?_
      refine N.iloadN C (pc' := 28) d17_27 rfl rfl ?_
      refine N.iload C (pc' := 30) d17_28 rfl rfl ?_
      refine N.i2b C (pc' := 31) d17_30 rfl ?_
      refine N.bastore C (pc' := 32) (i := k) d17_31 A_d hp (by rw [List.length_map, hl]; omega) g_d rfl (fun h31_1 W31 A_d => ?_)
      have Z0 : G.n0 ≤ _ := (Wr.size W31).symm ▸ Z0
      have A_t := A_t.other W31 ne_t_d
      have K0 := K0.wr W31 (Or.inl (List.mem_of_getElem? (i := 0) rfl))
      have A_d : Av G.Z h31_1 d .byte ((ds.set k (own_b8 c)).map .int) := by rw [List.map_set]; exact A_d
      refine N.iinc C (pc' := 35) (z := 1) (ls' := #[.val (.ref t), .val (.int (1 : Int32)), .val (.ref d), .val (.int (0 : Int32)), .val (.int n), .val (.int (0 : Int32)), .val (.int c)]) d17_32 rfl rfl rfl rfl ?_
      refine N.iinc C (pc' := 38) (z := 1) (ls' := #[.val (.ref t), .val (.int (1 : Int32)), .val (.ref d), .val (.int (1 : Int32)), .val (.int n), .val (.int (0 : Int32)), .val (.int c)]) d17_35 rfl rfl rfl rfl ?_
      refine N.iinc C (pc' := 41) (z := 1) (ls' := #[.val (.ref t), .val (.int (1 : Int32)), .val (.ref d), .val (.int (1 : Int32)), .val (.int n), .val (.int (1 : Int32)), .val (.int c)]) d17_38 rfl rfl rfl rfl ?_
      refine N.goto C (pc' := 3) d17_41 rfl ?_
      exact loop _ _ _ _ _ _ _ _ (Nat.le_refl _) (own_inc ho (by omega)) (own_inc hp (by omega)) (own_inc hi (by omega)) (by omega) (by rw [List.length_set]; exact hl) (own_stp hl (by omega) hpre (by rw [List.getElem?_map, hc1]; rfl)) (fun j hj c' hc' => by rcases Nat.lt_succ_iff_lt_or_eq.mp hj with q | q; exact hlo j q c' hc'; subst q; rw [hc1] at hc'; cases hc'; omega) A_t A_d K0 Z0
    · refine N.iload C (pc' := 25) d17_23 rfl rfl ?_
      exact N.retI C d17_25 (by decide) (by decide) (by subst hQ; exact ⟨_, rfl, K0, Or.inr ⟨own_lo0 hc1 hc20, k, c, hi, hc1, hc20⟩⟩)
set_option maxRecDepth 65536 in
set_option maxHeartbeats 40000000 in
theorem con16 (G : Gx) (hw : ∀ d ∈ tables_1, d.before G.a0 G.Z = true) (t : Addr) (n : Int32) (cs : List Int32) (cp : Int32) (h : Heap) (hok : own_ok cs) (hn : n.toInt = (cs.length : Nat)) (SS : Ss G cp) (O : Old G.Z G.n0 h) (Z0 : G.n0 ≤ h.size) (A_t : Av G.Z h t .char (cs.map .int)) :
    Con G (⟨"java/lang/StringUTF16", "compress", "([CII)[B"⟩ : MethodName) jdk_52_method_16_code 6 (some (.array .byte)) rm16 #[(.ref t), (.int (0 : Int32)), (.int n)] h (fun v h' => ∃ b : Addr, v = some (.ref b) ∧ h.size ≤ b ∧ Keep h h' [] ∧ Av G.Z h' b .byte ((own_bytes cs).map .int)) := by
  refine Con.of (W := tables_1) (plainFor_of_name pn16) hw (fun mm => ef16 mm t (0 : Int32) n) (fun K C => ?_)
  have C : Cx G K "java/lang/StringUTF16" "compress" jdk_52_method_16_code 6 (some (.array .byte)) tables_1 := C
  generalize hQ : (fun v h' => ∃ b : Addr, v = some (.ref b) ∧ h.size ≤ b ∧ Keep h h' [] ∧ Av G.Z h' b .byte ((own_bytes cs).map .int) : Option Value → Heap → Prop) = Q
  have K0 : Keep h h [] := Keep.refl _ _
  have hok3 := hok.1
  refine N.iloadN C (pc' := 1) d16_0 rfl rfl ?_
  refine N.newP C (pc' := 3) (n := n) 3 d16_1 (C.w (i := 19) rfl) (by omega) (by omega) (by decide) (by decide) (by decide) rfl (fun h1_1 d hx_d Ex1 A'_d => ?_)
  have ne_t_d : t ≠ d := by rw [hx_d]; exact Nat.ne_of_lt A_t.lt
  have ne_d_t := Ne.symm ne_t_d
  have g_d : G.n0 ≤ d := by rw [hx_d]; exact Z0
  have sz_d : h.size ≤ d := by rw [hx_d]; exact K0.1
  have Z0 := Nat.le_trans Z0 Ex1.1
  have O := O.ext Ex1
  have A_t := A_t.ext Ex1
  have K0 := K0.ext Ex1
  have A_d : Av G.Z h1_1 d .byte (List.replicate n.toInt.toNat (.int (0 : Int32))) := A'_d
  refine N.astoreN C (pc' := 4) (ls' := #[.val (.ref t), .val (.int (0 : Int32)), .val (.int n), .val (.ref d), .unset, .unset]) d16_3 rfl rfl rfl ?_
  refine N.aloadN C (pc' := 5) d16_4 rfl rfl rfl ?_
  refine N.iloadN C (pc' := 6) d16_5 rfl rfl ?_
  refine N.aloadN C (pc' := 7) d16_6 rfl rfl rfl ?_
  refine N.iconst C (pc' := 8) (z := 0) d16_7 rfl rfl ?_
  refine N.iloadN C (pc' := 9) d16_8 rfl rfl ?_
  have ed : List.replicate n.toInt.toNat (Value.int (0 : Int32)) = (List.replicate cs.length (0 : Int32)).map .int := by rw [List.map_replicate, hn]; rfl
  rw [ed] at A_d
  refine N.callS C (pc' := 12) [(.ref t), (.int (0 : Int32)), (.ref d), (.int (0 : Int32)), (.int n)] d16_9 (C.w (i := 106) rfl) (C.w (i := 107) rfl) (C.w (i := 104) rfl) (C.w (i := 108) rfl) (by decide) (con17 G hw t d n cs _ h1_1 hok hn (by simp) Z0 g_d ne_t_d ne_d_t A_t A_d) (lenOf pd___CI_BII_I rfl) rfl (by decide) (show 0 + (7 + 11) + _ ≤ _ from by decide) (by decide) (by decide) (rest := []) rfl rfl ?_
  rintro _ h9_2 ⟨r, rfl, KpD, hcase⟩
  have O := O.keep KpD (allS g_d all0)
  have Z0 := Nat.le_trans Z0 KpD.1
  have A_t := A_t.keep KpD (ninS ne_t_d nin0)
  have K0 := K0.trans KpD (allS (Or.inr sz_d) all0)
  show N G K rm16 Q h9_2 (0 + 1) (0 + 3) 12 #[.val (.ref t), .val (.int (0 : Int32)), .val (.int n), .val (.ref d), .unset, .unset] [(.int r)]
  refine N.istore C (pc' := 14) (ls' := #[.val (.ref t), .val (.int (0 : Int32)), .val (.int n), .val (.ref d), .val (.int r), .unset]) d16_12 rfl rfl ?_
  refine N.iload C (pc' := 16) d16_14 rfl rfl ?_
  refine N.iloadN C (pc' := 17) d16_16 rfl rfl ?_
  refine N.icmp C (pt := 57) (pf := 20) d16_17 rfl rfl (fun (hc17 : r = n) => ?_) (fun (hc17 : ¬ r = n) => absurd (show False from by rcases hcase with q | q; exact hc17 q.2.1; exact absurd ((own_okl hok).symm.trans q.1) (by decide)) id)
  refine N.aloadN C (pc' := 58) d16_57 rfl rfl rfl ?_
  exact N.retA C rfl rfl d16_58 (by decide) (by decide) (by subst hQ; rcases hcase with ⟨hlo, -, hA⟩ | ⟨hlo, -⟩; exact ⟨d, rfl, sz_d, K0, by unfold own_bytes; rw [if_pos hlo]; exact hA⟩; exact absurd ((own_okl hok).symm.trans hlo) (by decide))
set_option maxRecDepth 65536 in
set_option maxHeartbeats 40000000 in
theorem con18 (G : Gx) (hw : ∀ d ∈ tables_1, d.before G.a0 G.Z = true) (b : Addr) (n : Int32) (cs : List Int32) (h : Heap) (hok : own_ok cs) (hn : n.toInt = (cs.length : Nat)) (h0 : 0 < cs.length) (A_b : Av G.Z h b .byte ((own_bytes cs).map .int)) :
    Con G (⟨"java/lang/StringUTF16", "coderFromArrayLen", "([BI)B"⟩ : MethodName) jdk_52_method_15_code 2 (some .byte) rm18 #[(.ref b), (.int n)] h (fun v h' => v = some (.int (own_cod cs)) ∧ h = h') := by
  refine Con.of (W := tables_1) (plainFor_of_name pn18) hw (fun mm => ef18 mm b n) (fun K C => ?_)
  have C : Cx G K "java/lang/StringUTF16" "coderFromArrayLen" jdk_52_method_15_code 2 (some .byte) tables_1 := C
  generalize hQ : (fun v h' => v = some (.int (own_cod cs)) ∧ h = h' : Option Value → Heap → Prop) = Q
  obtain ⟨m, len_b⟩ := own_bl (cs := cs) hok.1
  refine N.iloadN C (pc' := 1) d18_0 rfl rfl ?_
  refine N.aloadN C (pc' := 2) d18_1 rfl rfl rfl ?_
  refine N.alen C (pc' := 3) (n := m) d18_2 A_b len_b rfl ?_
  refine N.isub C (pc' := 4) d18_3 rfl ?_
  refine N.bipush C (pc' := 6) (z := 31) d18_4 rfl rfl ?_
  refine N.iushr C (pc' := 7) d18_6 rfl ?_
  refine N.i2b C (pc' := 8) d18_7 rfl ?_
  exact N.retN C (by simp) (own_codL hn hok.1 h0 (by rw [List.length_map] at len_b; exact len_b)) d18_8 (by decide) (by decide) (by subst hQ; exact ⟨rfl, rfl⟩)
set_option maxRecDepth 65536 in
set_option maxHeartbeats 40000000 in
theorem con3 (G : Gx) (hw : ∀ d ∈ tables_1, d.before G.a0 G.Z = true) (x t : Addr) (n : Int32) (cs : List Int32) (cp : Int32) (h : Heap) (hok : own_ok cs) (hn : n.toInt = (cs.length : Nat)) (SS : Ss G cp) (O : Old G.Z G.n0 h) (Z0 : G.n0 ≤ h.size) (g_x : G.n0 ≤ x) (E_x : Exa G.Z h x "java/lang/String") (F_x_value : Fld G.Z h x "java/lang/String" "value" "[B" .null) (F_x_coder : Fld G.Z h x "java/lang/String" "coder" "B" (.int (0 : Int32))) (ne_x_t : x ≠ t) (ne_t_x : t ≠ x) (A_t : Av G.Z h t .char (cs.map .int)) :
    ConS G own_EL [x] (⟨"java/lang/String", "<init>", "([CIILjava/lang/Void;)V"⟩ : MethodName) jdk_42_method_149_code 6 none rm3 #[(.ref x), (.ref t), (.int (0 : Int32)), (.int n), .null] h (fun v h' => v = none ∧ Keep h h' [x] ∧ ∃ b : Addr, Fld G.Z h' x "java/lang/String" "value" "[B" (.ref b) ∧ Fld G.Z h' x "java/lang/String" "coder" "B" (.int (own_cod cs)) ∧ Av G.Z h' b .byte ((own_bytes cs).map .int) ∧ b ≠ x) := by
  refine ConS.of (W := tables_1) (plainFor_of_name pn3) hw (own_ew hw) (fun mm => ef3 mm x t (0 : Int32) n) (fun K U C Sx => ?_)
  have C : Cx G K "java/lang/String" "<init>" jdk_42_method_149_code 6 none tables_1 := C
  generalize hQ : (fun v h' => v = none ∧ Keep h h' [x] ∧ ∃ b : Addr, Fld G.Z h' x "java/lang/String" "value" "[B" (.ref b) ∧ Fld G.Z h' x "java/lang/String" "coder" "B" (.int (own_cod cs)) ∧ Av G.Z h' b .byte ((own_bytes cs).map .int) ∧ b ≠ x : Option Value → Heap → Prop) = Q
  have K0 : Keep h h [x] := Keep.refl _ _
  have hok3 := hok.1
  refine N.aloadN C (pc' := 1) d3_0 rfl rfl rfl ?_
  refine N.initO C (pc' := 4) d3_1 (C.w (i := 15) rfl) (C.w (i := 16) rfl) (C.w (i := 17) rfl) rfl (by decide) (show 0 + 12 ≤ _ from by decide) rfl ?_
  refine N.iloadN C (pc' := 5) d3_4 rfl rfl ?_
  refine N.ifc C (pt := 27) (pf := 8) d3_5 rfl rfl (fun (hc5 : ¬ n = (0 : Int32)) => ?_) (fun (hc5 : n = (0 : Int32)) => ?_)
  · have hi5 : ¬ n.toInt = 0 := neI hc5
    have S_COMPACT_STRINGS := SS.s0.ext O.2
    have h0 : 0 < cs.length := by omega
    refine N.getS C (pc' := 30) d3_27 (C.w (i := 101) rfl) S_COMPACT_STRINGS rfl ?_
    refine N.ifc C (pt := 58) (pf := 33) d3_30 rfl rfl (fun (hc30 : cp = (0 : Int32)) => absurd (show False from by exact SS.cp0 hc30) id) (fun (hc30 : ¬ cp = (0 : Int32)) => ?_)
    refine N.aloadN C (pc' := 34) d3_33 rfl rfl rfl ?_
    refine N.iloadN C (pc' := 35) d3_34 rfl rfl ?_
    refine N.iloadN C (pc' := 36) d3_35 rfl rfl ?_
    have xlt := E_x.lt
    refine N.callS C (pc' := 39) [(.ref t), (.int (0 : Int32)), (.int n)] d3_36 (C.w (i := 102) rfl) (C.w (i := 103) rfl) (C.w (i := 104) rfl) (C.w (i := 105) rfl) (by decide) (con16 G hw t n cs cp h hok hn SS O Z0 A_t) (lenOf pd___CII__B rfl) rfl (by decide) (show 0 + (6 + 11) + _ ≤ _ from by decide) (by decide) (by decide) (rest := []) rfl rfl ?_
    rintro _ h36_1 ⟨b, rfl, hb, KpB, A_b⟩
    have Sx := Sx.keep KpB all0
    have O := O.keep KpB all0
    have Z0 := Nat.le_trans Z0 KpB.1
    have F_x_value := F_x_value.keep KpB nin0
    have F_x_coder := F_x_coder.keep KpB nin0
    have E_x := E_x.keep KpB
    have A_t := A_t.keep KpB nin0
    have K0 := K0.trans KpB all0
    have sz_b := hb
    have ne_x_b : x ≠ b := Nat.ne_of_lt (Nat.lt_of_lt_of_le xlt hb)
    have ne_b_x := Ne.symm ne_x_b
    show NS G K own_EL U rm3 Q h36_1 (0 + 2) (0 + 9) 39 #[.val (.ref x), .val (.ref t), .val (.int (0 : Int32)), .val (.int n), .val .null, .unset] [(.ref b)]
    refine N.astore C (pc' := 41) (ls' := #[.val (.ref x), .val (.ref t), .val (.int (0 : Int32)), .val (.int n), .val .null, .val (.ref b)]) d3_39 rfl rfl rfl ?_
    refine N.aloadN C (pc' := 42) d3_41 rfl rfl rfl ?_
    refine N.aload C (pc' := 44) d3_42 rfl rfl rfl ?_
    refine N.iloadN C (pc' := 45) d3_44 rfl rfl ?_
    refine N.callS C (pc' := 48) [(.ref b), (.int n)] d3_45 (C.w (i := 109) rfl) (C.w (i := 110) rfl) (C.w (i := 104) rfl) (C.w (i := 111) rfl) (by decide) (con18 G hw b n cs h36_1 hok hn h0 A_b) (lenOf pd___BI_B rfl) rfl (by decide) (show 1 + (2 + 11) + _ ≤ _ from by decide) (by decide) (by decide) (rest := [(.ref x)]) rfl rfl ?_
    rintro _ h45_2 ⟨rfl, rfl⟩
    show NS G K own_EL U rm3 Q h36_1 (0 + 2) (0 + 9) 48 #[.val (.ref x), .val (.ref t), .val (.int (0 : Int32)), .val (.int n), .val .null, .val (.ref b)] [(.int (own_cod cs)), (.ref x)]
    refine N.putFN C (pc' := 51) (v' := (.int (nar .byte (own_cod cs)))) d3_48 (C.w (i := 25) rfl) F_x_coder E_x (Or.inr ⟨(C.w (i := 21) rfl), rfl, rfl⟩) (C.w (i := 5) rfl) (ty := .byte) (by decide) rfl (fits_nar_byte _) g_x rfl (fun h48_3 W48 => ?_)
    have Sx := Sx.wr W48 (List.mem_of_getElem? (i := 0) rfl)
    have O := O.wr W48 g_x
    have Z0 : G.n0 ≤ _ := (Wr.size W48).symm ▸ Z0
    have F_x_value := F_x_value.other W48 (Or.inr (slot_ne (Or.inr (C.w (i := 20) rfl)) (Or.inr (C.w (i := 21) rfl)) (by decide) (t := (.array .byte)) (t' := .byte) (by decide) (by decide)))
    have F_x_coder := F_x_coder.same W48
    have E_x := E_x.wr W48
    have A_t := A_t.other W48 ne_t_x
    have A_b := A_b.other W48 ne_b_x
    have K0 := K0.wr W48 (Or.inl (List.mem_of_getElem? (i := 0) rfl))
    refine N.aloadN C (pc' := 52) d3_51 rfl rfl rfl ?_
    refine N.aload C (pc' := 54) d3_52 rfl rfl rfl ?_
    refine N.putF C (pc' := 57) d3_54 (C.w (i := 24) rfl) F_x_value E_x (Or.inr ⟨(C.w (i := 20) rfl), rfl, rfl⟩) (C.w (i := 5) rfl) (ty := (.array .byte)) (by decide) rfl rfl g_x rfl (fun h54_4 W54 => ?_)
    have Sx := Sx.wr W54 (List.mem_of_getElem? (i := 0) rfl)
    have O := O.wr W54 g_x
    have Z0 : G.n0 ≤ _ := (Wr.size W54).symm ▸ Z0
    have F_x_value := F_x_value.same W54
    have F_x_coder := F_x_coder.other W54 (Or.inr (slot_ne (Or.inr (C.w (i := 21) rfl)) (Or.inr (C.w (i := 20) rfl)) (by decide) (t := .byte) (t' := (.array .byte)) (by decide) (by decide)))
    have E_x := E_x.wr W54
    have A_t := A_t.other W54 ne_t_x
    have A_b := A_b.other W54 ne_b_x
    have K0 := K0.wr W54 (Or.inl (List.mem_of_getElem? (i := 0) rfl))
    exact N.ret0S C Sx rfl d3_57 (by decide) (by decide) (by subst hQ; exact ⟨rfl, K0, b, F_x_value, own_cod01 cs ▸ F_x_coder, A_b, ne_b_x⟩)
  · have hi5 : n.toInt = 0 := eqI hc5
    have hcs : cs = [] := List.length_eq_zero_iff.mp (by omega)
    refine N.aloadN C (pc' := 9) d3_8 rfl rfl rfl ?_
    refine N.ldcS C Sx (vs := []) 0 d3_9 (C.w (i := 18) rfl) (own_SA hw) (by decide) ⟨by decide, rfl⟩ (z := 0) (by decide) (by decide) (by decide) (by decide) (by decide) (by decide) rfl (fun K h9_5 c yc C Sx Ex9 E_c F_c_coder F_c_value A_yc ne_c => ?_)
    have Z0 := Nat.le_trans Z0 Ex9.1
    have O := O.ext Ex9
    have F_x_value := F_x_value.ext Ex9
    have F_x_coder := F_x_coder.ext Ex9
    have E_x := E_x.ext Ex9
    have A_t := A_t.ext Ex9
    have K0 := K0.ext Ex9
    have ne_x_c := (ne_c x (List.mem_of_getElem? (i := 0) rfl)).1
    have ne_x_yc := (ne_c x (List.mem_of_getElem? (i := 0) rfl)).2
    have ne_c_x := Ne.symm ne_x_c
    have ne_yc_x := Ne.symm ne_x_yc
    show NS G K own_EL U rm3 Q h9_5 (0 + 2) (0 + (0 + 4)) 11 #[.val (.ref x), .val (.ref t), .val (.int (0 : Int32)), .val (.int n), .val .null, .unset] [(.ref c), (.ref x)]
    refine N.getF C (pc' := 14) d3_11 (C.w (i := 24) rfl) F_c_value rfl ?_
    refine N.putF C (pc' := 17) d3_14 (C.w (i := 24) rfl) F_x_value E_x (Or.inr ⟨(C.w (i := 20) rfl), rfl, rfl⟩) (C.w (i := 5) rfl) (ty := (.array .byte)) (by decide) rfl rfl g_x rfl (fun h14_6 W14 => ?_)
    have Sx := Sx.wr W14 (List.mem_of_getElem? (i := 0) rfl)
    have O := O.wr W14 g_x
    have Z0 : G.n0 ≤ _ := (Wr.size W14).symm ▸ Z0
    have F_x_value := F_x_value.same W14
    have F_x_coder := F_x_coder.other W14 (Or.inr (slot_ne (Or.inr (C.w (i := 21) rfl)) (Or.inr (C.w (i := 20) rfl)) (by decide) (t := .byte) (t' := (.array .byte)) (by decide) (by decide)))
    have F_c_coder := F_c_coder.other W14 (Or.inl ne_c_x)
    have F_c_value := F_c_value.other W14 (Or.inl ne_c_x)
    have E_x := E_x.wr W14
    have E_c := E_c.wr W14
    have A_t := A_t.other W14 ne_t_x
    have A_yc := A_yc.other W14 ne_yc_x
    have K0 := K0.wr W14 (Or.inl (List.mem_of_getElem? (i := 0) rfl))
    refine N.aloadN C (pc' := 18) d3_17 rfl rfl rfl ?_
    refine N.ldcS C Sx (vs := []) 0 d3_18 (C.w (i := 18) rfl) (own_SA hw) (by decide) ⟨by decide, rfl⟩ (z := 0) (by decide) (by decide) (by decide) (by decide) (by decide) (by decide) rfl (fun K h18_7 e ye C Sx Ex18 E_e F_e_coder F_e_value A_ye ne_e => ?_)
    have Z0 := Nat.le_trans Z0 Ex18.1
    have O := O.ext Ex18
    have F_x_value := F_x_value.ext Ex18
    have F_x_coder := F_x_coder.ext Ex18
    have F_c_coder := F_c_coder.ext Ex18
    have F_c_value := F_c_value.ext Ex18
    have E_x := E_x.ext Ex18
    have E_c := E_c.ext Ex18
    have A_t := A_t.ext Ex18
    have A_yc := A_yc.ext Ex18
    have K0 := K0.ext Ex18
    have ne_x_e := (ne_e x (List.mem_of_getElem? (i := 0) rfl)).1
    have ne_x_ye := (ne_e x (List.mem_of_getElem? (i := 0) rfl)).2
    have ne_e_x := Ne.symm ne_x_e
    have ne_ye_x := Ne.symm ne_x_ye
    show NS G K own_EL U rm3 Q h18_7 ((0 + 2) + 2) ((0 + (0 + 4)) + (0 + 4)) 20 #[.val (.ref x), .val (.ref t), .val (.int (0 : Int32)), .val (.int n), .val .null, .unset] [(.ref e), (.ref x)]
    refine N.getF C (pc' := 23) d3_20 (C.w (i := 25) rfl) F_e_coder rfl ?_
    refine N.putFN C (pc' := 26) (v' := (.int (0 : Int32))) d3_23 (C.w (i := 25) rfl) F_x_coder E_x (Or.inr ⟨(C.w (i := 21) rfl), rfl, rfl⟩) (C.w (i := 5) rfl) (ty := .byte) (by decide) rfl (by decide) g_x rfl (fun h23_8 W23 => ?_)
    have Sx := Sx.wr W23 (List.mem_of_getElem? (i := 0) rfl)
    have O := O.wr W23 g_x
    have Z0 : G.n0 ≤ _ := (Wr.size W23).symm ▸ Z0
    have F_x_value := F_x_value.other W23 (Or.inr (slot_ne (Or.inr (C.w (i := 20) rfl)) (Or.inr (C.w (i := 21) rfl)) (by decide) (t := (.array .byte)) (t' := .byte) (by decide) (by decide)))
    have F_x_coder := F_x_coder.same W23
    have F_c_coder := F_c_coder.other W23 (Or.inl ne_c_x)
    have F_c_value := F_c_value.other W23 (Or.inl ne_c_x)
    have F_e_coder := F_e_coder.other W23 (Or.inl ne_e_x)
    have F_e_value := F_e_value.other W23 (Or.inl ne_e_x)
    have E_x := E_x.wr W23
    have E_c := E_c.wr W23
    have E_e := E_e.wr W23
    have A_t := A_t.other W23 ne_t_x
    have A_yc := A_yc.other W23 ne_yc_x
    have A_ye := A_ye.other W23 ne_ye_x
    have K0 := K0.wr W23 (Or.inl (List.mem_of_getElem? (i := 0) rfl))
    exact N.ret0S C Sx rfl d3_26 (by decide) (by decide) (by subst hQ; subst hcs; exact ⟨rfl, K0, yc, F_x_value, F_x_coder, A_yc, ne_yc_x⟩)
set_option maxRecDepth 65536 in
set_option maxHeartbeats 40000000 in
theorem con2 (G : Gx) (hw : ∀ d ∈ tables_1, d.before G.a0 G.Z = true) (x t : Addr) (n : Int32) (cs : List Int32) (cp : Int32) (h : Heap) (hok : own_ok cs) (hn : n.toInt = (cs.length : Nat)) (SS : Ss G cp) (O : Old G.Z G.n0 h) (Z0 : G.n0 ≤ h.size) (g_x : G.n0 ≤ x) (E_x : Exa G.Z h x "java/lang/String") (F_x_value : Fld G.Z h x "java/lang/String" "value" "[B" .null) (F_x_coder : Fld G.Z h x "java/lang/String" "coder" "B" (.int (0 : Int32))) (ne_x_t : x ≠ t) (ne_t_x : t ≠ x) (A_t : Av G.Z h t .char (cs.map .int)) :
    ConS G own_EL [x] (⟨"java/lang/String", "<init>", "([C)V"⟩ : MethodName) jdk_42_method_3_code 2 none rm2 #[(.ref x), (.ref t)] h (fun v h' => v = none ∧ Keep h h' [x] ∧ ∃ b : Addr, Fld G.Z h' x "java/lang/String" "value" "[B" (.ref b) ∧ Fld G.Z h' x "java/lang/String" "coder" "B" (.int (own_cod cs)) ∧ Av G.Z h' b .byte ((own_bytes cs).map .int) ∧ b ≠ x) := by
  refine ConS.of (W := tables_1) (plainFor_of_name pn2) hw (own_ew hw) (fun mm => ef2 mm x t) (fun K U C Sx => ?_)
  have C : Cx G K "java/lang/String" "<init>" jdk_42_method_3_code 2 none tables_1 := C
  generalize hQ : (fun v h' => v = none ∧ Keep h h' [x] ∧ ∃ b : Addr, Fld G.Z h' x "java/lang/String" "value" "[B" (.ref b) ∧ Fld G.Z h' x "java/lang/String" "coder" "B" (.int (own_cod cs)) ∧ Av G.Z h' b .byte ((own_bytes cs).map .int) ∧ b ≠ x : Option Value → Heap → Prop) = Q
  have len_t : n.toInt = ((cs.map Value.int).length : Nat) := by rw [List.length_map]; exact hn
  refine N.aloadN C (pc' := 1) d2_0 rfl rfl rfl ?_
  refine N.aloadN C (pc' := 2) d2_1 rfl rfl rfl ?_
  refine N.iconst C (pc' := 3) (z := 0) d2_2 rfl rfl ?_
  refine N.aloadN C (pc' := 4) d2_3 rfl rfl rfl ?_
  refine N.alen C (pc' := 5) (n := n) d2_4 A_t len_t rfl ?_
  refine N.aconst_null C (pc' := 6) d2_5 rfl ?_
  refine N.callIS C Sx (pc' := 9) x [(.ref t), (.int (0 : Int32)), (.int n), .null] d2_6 rfl (C.w (i := 11) rfl) (C.w (i := 12) rfl) (C.w (i := 6) rfl) (C.w (i := 14) rfl) (by decide) (allS (List.mem_of_getElem? (i := 0) rfl) all0) (con3 G hw x t n cs cp h hok hn SS O Z0 g_x E_x F_x_value F_x_coder ne_x_t ne_t_x A_t) (lenOf pd___CIILjava_lang_Void__V rfl) rfl (by decide) (show 0 + (6 + 11) + _ ≤ _ from by decide) (by decide) (by decide) (rest := []) rfl rfl ?_
  rintro K _ h6_1 C Sx ⟨rfl, KpI, b, FV, FC, A_b, hbx⟩
  show NS G K own_EL U rm2 Q h6_1 (0 + 4) (0 + 12) 9 #[.val (.ref x), .val (.ref t)] []
  exact N.ret0S C Sx rfl d2_9 (by decide) (by decide) (by subst hQ; exact ⟨rfl, KpI, b, FV, FC, A_b, hbx⟩)
set_option maxRecDepth 65536 in
set_option maxHeartbeats 40000000 in
theorem con20 (G : Gx) (hw : ∀ d ∈ tables_1, d.before G.a0 G.Z = true) (c : Int32) (h : Heap) (hc : 0 ≤ c.toInt ∧ c.toInt < 256) :
    Con G (⟨"java/lang/StringLatin1", "canEncode", "(C)Z"⟩ : MethodName) jdk_43_method_3_code 1 (some .boolean) rm20 #[(.int c)] h (fun v h' => v = some (.int 1) ∧ h = h') := by
  refine Con.of (W := tables_1) (plainFor_of_name pn20) hw (fun mm => ef20 mm c) (fun K C => ?_)
  have C : Cx G K "java/lang/StringLatin1" "canEncode" jdk_43_method_3_code 1 (some .boolean) tables_1 := C
  generalize hQ : (fun v h' => v = some (.int 1) ∧ h = h' : Option Value → Heap → Prop) = Q
  refine N.iloadN C (pc' := 1) d20_0 rfl rfl ?_
  refine N.sipush C (pc' := 4) (z := 255) d20_1 rfl rfl ?_
  refine N.icmp C (pt := 11) (pf := 7) d20_4 rfl rfl (fun (hc4 : 255 < c.toInt) => absurd (show False from by omega) id) (fun (hc4 : c.toInt ≤ 255) => ?_)
  refine N.iconst C (pc' := 8) (z := 1) d20_7 rfl rfl ?_
  refine N.goto C (pc' := 12) d20_8 rfl ?_
  exact N.retN C (by simp) (z' := (1 : Int32)) rfl d20_12 (by decide) (by decide) (by subst hQ; exact ⟨rfl, rfl⟩)
set_option maxRecDepth 65536 in
set_option maxHeartbeats 40000000 in
theorem con21 (G : Gx) (hw : ∀ d ∈ tables_1, d.before G.a0 G.Z = true) (c : Int32) (h : Heap) (Z0 : G.n0 ≤ h.size) :
    Con G (⟨"java/lang/StringLatin1", "toBytes", "(C)[B"⟩ : MethodName) jdk_43_method_46_code 1 (some (.array .byte)) rm21 #[(.int c)] h (fun v h' => ∃ b : Addr, v = some (.ref b) ∧ h.size ≤ b ∧ Keep h h' []) := by
  refine Con.of (W := tables_1) (plainFor_of_name pn21) hw (fun mm => ef21 mm c) (fun K C => ?_)
  have C : Cx G K "java/lang/StringLatin1" "toBytes" jdk_43_method_46_code 1 (some (.array .byte)) tables_1 := C
  generalize hQ : (fun v h' => ∃ b : Addr, v = some (.ref b) ∧ h.size ≤ b ∧ Keep h h' [] : Option Value → Heap → Prop) = Q
  have K0 : Keep h h [] := Keep.refl _ _
  refine N.iconst C (pc' := 1) (z := 1) d21_0 rfl rfl ?_
  refine N.newP C (pc' := 3) (n := (1 : Int32)) 1 d21_1 (C.w (i := 19) rfl) (by decide) (by decide) (by decide) (by decide) (by decide) rfl (fun h1_1 b hx_b Ex1 A'_b => ?_)
  have g_b : G.n0 ≤ b := by rw [hx_b]; exact Z0
  have sz_b : h.size ≤ b := by rw [hx_b]; exact K0.1
  have Z0 := Nat.le_trans Z0 Ex1.1
  have K0 := K0.ext Ex1
  have A_b : Av G.Z h1_1 b .byte [(.int (0 : Int32))] := A'_b
  refine N.dup C (pc' := 4) d21_3 rfl rfl ?_
  refine N.iconst C (pc' := 5) (z := 0) d21_4 rfl rfl ?_
  refine N.iloadN C (pc' := 6) d21_5 rfl rfl ?_
  refine N.i2b C (pc' := 7) d21_6 rfl ?_
  refine N.bastore C (pc' := 8) (i := 0) d21_7 A_b rfl (show 0 < 1 from by decide) g_b rfl (fun h7_2 W7 A_b => ?_)
  have Z0 : G.n0 ≤ _ := (Wr.size W7).symm ▸ Z0
  have K0 := K0.wr W7 (Or.inr sz_b)
  have A_b : Av G.Z h7_2 b .byte [(.int (nar .byte (c.toInt8.toInt32)))] := A_b
  exact N.retA C rfl rfl d21_8 (by decide) (by decide) (by subst hQ; exact ⟨b, rfl, sz_b, K0⟩)
set_option maxRecDepth 65536 in
set_option maxHeartbeats 40000000 in
theorem con22 (G : Gx) (hw : ∀ d ∈ tables_1, d.before G.a0 G.Z = true) (x b : Addr) (h : Heap) (Z0 : G.n0 ≤ h.size) (g_x : G.n0 ≤ x) (E_x : Exa G.Z h x "java/lang/String") (F_x_value : Fld G.Z h x "java/lang/String" "value" "[B" .null) (F_x_coder : Fld G.Z h x "java/lang/String" "coder" "B" (.int (0 : Int32))) :
    Con G (⟨"java/lang/String", "<init>", "([BB)V"⟩ : MethodName) jdk_42_method_151_code 3 none rm22 #[(.ref x), (.ref b), (.int (0 : Int32))] h (fun v h' => v = none ∧ Keep h h' [x]) := by
  refine Con.of (W := tables_1) (plainFor_of_name pn22) hw (fun mm => ef22 mm x b (0 : Int32)) (fun K C => ?_)
  have C : Cx G K "java/lang/String" "<init>" jdk_42_method_151_code 3 none tables_1 := C
  generalize hQ : (fun v h' => v = none ∧ Keep h h' [x] : Option Value → Heap → Prop) = Q
  have K0 : Keep h h [x] := Keep.refl _ _
  refine N.aloadN C (pc' := 1) d22_0 rfl rfl rfl ?_
  refine N.initO C (pc' := 4) d22_1 (C.w (i := 15) rfl) (C.w (i := 16) rfl) (C.w (i := 17) rfl) rfl (by decide) (show 0 + 12 ≤ _ from by decide) rfl ?_
  refine N.aloadN C (pc' := 5) d22_4 rfl rfl rfl ?_
  refine N.aloadN C (pc' := 6) d22_5 rfl rfl rfl ?_
  refine N.putF C (pc' := 9) d22_6 (C.w (i := 24) rfl) F_x_value E_x (Or.inr ⟨(C.w (i := 20) rfl), rfl, rfl⟩) (C.w (i := 5) rfl) (ty := (.array .byte)) (by decide) rfl rfl g_x rfl (fun h6_1 W6 => ?_)
  have Z0 : G.n0 ≤ _ := (Wr.size W6).symm ▸ Z0
  have F_x_value := F_x_value.same W6
  have F_x_coder := F_x_coder.other W6 (Or.inr (slot_ne (Or.inr (C.w (i := 21) rfl)) (Or.inr (C.w (i := 20) rfl)) (by decide) (t := .byte) (t' := (.array .byte)) (by decide) (by decide)))
  have E_x := E_x.wr W6
  have K0 := K0.wr W6 (Or.inl (List.mem_of_getElem? (i := 0) rfl))
  refine N.aloadN C (pc' := 10) d22_9 rfl rfl rfl ?_
  refine N.iloadN C (pc' := 11) d22_10 rfl rfl ?_
  refine N.putFN C (pc' := 14) (v' := (.int (0 : Int32))) d22_11 (C.w (i := 25) rfl) F_x_coder E_x (Or.inr ⟨(C.w (i := 21) rfl), rfl, rfl⟩) (C.w (i := 5) rfl) (ty := .byte) (by decide) rfl (by decide) g_x rfl (fun h11_2 W11 => ?_)
  have Z0 : G.n0 ≤ _ := (Wr.size W11).symm ▸ Z0
  have F_x_value := F_x_value.other W11 (Or.inr (slot_ne (Or.inr (C.w (i := 20) rfl)) (Or.inr (C.w (i := 21) rfl)) (by decide) (t := (.array .byte)) (t' := .byte) (by decide) (by decide)))
  have F_x_coder := F_x_coder.same W11
  have E_x := E_x.wr W11
  have K0 := K0.wr W11 (Or.inl (List.mem_of_getElem? (i := 0) rfl))
  exact N.ret0 C rfl d22_14 (by decide) (by decide) (by subst hQ; exact ⟨rfl, K0⟩)
set_option maxRecDepth 65536 in
set_option maxHeartbeats 40000000 in
theorem con19 (G : Gx) (hw : ∀ d ∈ tables_1, d.before G.a0 G.Z = true) (c : Int32) (cp : Int32) (h : Heap) (hc : 0 ≤ c.toInt ∧ c.toInt < 256) (SS : Ss G cp) (O : Old G.Z G.n0 h) (Z0 : G.n0 ≤ h.size) :
    Con G (⟨"java/lang/String", "valueOf", "(C)Ljava/lang/String;"⟩ : MethodName) jdk_42_method_139_code 1 (some (.object "java/lang/String")) rm19 #[(.int c)] h (fun v h' => ∃ s : Addr, v = some (.ref s) ∧ h.size ≤ s ∧ Keep h h' [] ∧ Exa G.Z h' s "java/lang/String") := by
  refine Con.of (W := tables_1) (plainFor_of_name pn19) hw (fun mm => ef19 mm c) (fun K C => ?_)
  have C : Cx G K "java/lang/String" "valueOf" jdk_42_method_139_code 1 (some (.object "java/lang/String")) tables_1 := C
  generalize hQ : (fun v h' => ∃ s : Addr, v = some (.ref s) ∧ h.size ≤ s ∧ Keep h h' [] ∧ Exa G.Z h' s "java/lang/String" : Option Value → Heap → Prop) = Q
  have K0 : Keep h h [] := Keep.refl _ _
  have S_COMPACT_STRINGS := SS.s0.ext O.2
  refine N.getS C (pc' := 3) d19_0 (C.w (i := 101) rfl) S_COMPACT_STRINGS rfl ?_
  refine N.ifc C (pt := 26) (pf := 6) d19_3 rfl rfl (fun (hc3 : cp = (0 : Int32)) => absurd (show False from by exact SS.cp0 hc3) id) (fun (hc3 : ¬ cp = (0 : Int32)) => ?_)
  refine N.iloadN C (pc' := 7) d19_6 rfl rfl ?_
  refine N.callS C (pc' := 10) [(.int c)] d19_7 (C.w (i := 115) rfl) (C.w (i := 116) rfl) (C.w (i := 117) rfl) (C.w (i := 118) rfl) (by decide) (con20 G hw c h hc) (lenOf pd__C_Z rfl) rfl (by decide) (show 0 + (1 + 11) + _ ≤ _ from by decide) (by decide) (by decide) (rest := []) rfl rfl ?_
  rintro _ h7_1 ⟨rfl, rfl⟩
  show N G K rm19 Q h 0 0 10 #[.val (.int c)] [(.int (1 : Int32))]
  refine N.ifc C (pt := 26) (pf := 13) d19_10 rfl rfl (fun (q : (1 : Int32) = (0 : Int32)) => absurd q (by decide)) (fun _ => ?_)
  refine N.newO C (pc' := 16) d19_13 (C.w (i := 119) rfl) (C.w (i := 5) rfl) (C.w (i := 6) rfl) (by decide) (by decide) rfl (fun h13_2 s hx_s Ex13 E_s D_s => ?_)
  have g_s : G.n0 ≤ s := by rw [hx_s]; exact Z0
  have sz_s : h.size ≤ s := by rw [hx_s]; exact K0.1
  have Z0 := Nat.le_trans Z0 Ex13.1
  have K0 := K0.ext Ex13
  have F_s_value : Fld G.Z h13_2 s "java/lang/String" "value" "[B" .null := D_s (Or.inr (C.w (i := 20) rfl)) (ty := (.array .byte)) (by decide)
  have F_s_coder : Fld G.Z h13_2 s "java/lang/String" "coder" "B" (.int (0 : Int32)) := D_s (Or.inr (C.w (i := 21) rfl)) (ty := .byte) (by decide)
  refine N.dup C (pc' := 17) d19_16 rfl rfl ?_
  refine N.iloadN C (pc' := 18) d19_17 rfl rfl ?_
  refine N.callS C (pc' := 21) [(.int c)] d19_18 (C.w (i := 120) rfl) (C.w (i := 121) rfl) (C.w (i := 117) rfl) (C.w (i := 122) rfl) (by decide) (con21 G hw c h13_2 Z0) (lenOf pd__C__B rfl) rfl (by decide) (show 2 + (1 + 11) + _ ≤ _ from by decide) (by decide) (by decide) (rest := [(.ref s), (.ref s)]) rfl rfl ?_
  rintro _ h18_3 ⟨b, rfl, hb, KpB⟩
  have Z0 := Nat.le_trans Z0 KpB.1
  have F_s_value := F_s_value.keep KpB nin0
  have F_s_coder := F_s_coder.keep KpB nin0
  have E_s := E_s.keep KpB
  have K0 := K0.trans KpB all0
  show N G K rm19 Q h18_3 ((0 + 1) + 1) ((0 + 4) + 1) 21 #[.val (.int c)] [(.ref b), (.ref s), (.ref s)]
  refine N.iconst C (pc' := 22) (z := 0) d19_21 rfl rfl ?_
  refine N.callI C (pc' := 25) s [(.ref b), (.int (0 : Int32))] d19_22 rfl (C.w (i := 123) rfl) (C.w (i := 124) rfl) (C.w (i := 6) rfl) (C.w (i := 125) rfl) (by decide) (con22 G hw s b h18_3 Z0 g_s E_s F_s_value F_s_coder) (lenOf pd___BB_V rfl) rfl (by decide) (show 1 + (3 + 11) + _ ≤ _ from by decide) (by decide) (by decide) (rest := [(.ref s)]) rfl rfl ?_
  rintro _ h22_4 ⟨rfl, KpI⟩
  have Z0 := Nat.le_trans Z0 KpI.1
  have E_s := E_s.keep KpI
  have K0 := K0.trans KpI (allS (Or.inr sz_s) all0)
  show N G K rm19 Q h22_4 ((0 + 1) + 1) ((0 + 4) + 1) 25 #[.val (.int c)] [(.ref s)]
  exact N.retA C rfl rfl d19_25 (by decide) (by decide) (by subst hQ; exact ⟨s, rfl, sz_s, K0, E_s⟩)
set_option maxRecDepth 65536 in
set_option maxHeartbeats 40000000 in
theorem con1 (G : Gx) (hw : ∀ d ∈ tables_1, d.before G.a0 G.Z = true) (p : Int32) (cp : Int32) (h : Heap) (SS : Ss G cp) (O : Old G.Z G.n0 h) (Z0 : G.n0 ≤ h.size) :
    ConS G own_EL [] (⟨"com/example/due_share/dueshare/UriReferenceWithoutFragmentPinLaw", "str", "(I)Ljava/lang/String;"⟩ : MethodName) method_3_code 4 (some (.object "java/lang/String")) rm1 #[(.int p)] h (fun v h' => ∃ s : Addr, v = some (.ref s) ∧ h.size ≤ s ∧ Keep h h' [] ∧ Exa G.Z h' s "java/lang/String") := by
  refine ConS.of (W := tables_1) (plainFor_of_name pn1) hw (own_ew hw) (fun mm => ef1 mm p) (fun K U C Sx => ?_)
  have C : Cx G K "com/example/due_share/dueshare/UriReferenceWithoutFragmentPinLaw" "str" method_3_code 4 (some (.object "java/lang/String")) tables_1 := C
  generalize hQ : (fun v h' => ∃ s : Addr, v = some (.ref s) ∧ h.size ≤ s ∧ Keep h h' [] ∧ Exa G.Z h' s "java/lang/String" : Option Value → Heap → Prop) = Q
  have hc1 := own_c255 p
  have hc2 := own_c255 ((p.toUInt32 >>> ((8 : Int32) &&& 31).toUInt32).toInt32)
  have K0 : Keep h h [] := Keep.refl _ _
  refine N.iloadN C (pc' := 1) d1_0 rfl rfl ?_
  refine N.sipush C (pc' := 4) (z := 255) d1_1 rfl rfl ?_
  refine N.iand C (pc' := 5) d1_4 rfl ?_
  refine N.i2c C (pc' := 6) d1_5 rfl ?_
  generalize hd_c1 : ((p &&& (255 : Int32)).toUInt32.toUInt16.toUInt32.toInt32) = c1 at *
  refine N.istoreN C (pc' := 7) (ls' := #[.val (.int p), .val (.int c1), .unset, .unset]) d1_6 rfl rfl ?_
  refine N.iloadN C (pc' := 8) d1_7 rfl rfl ?_
  refine N.bipush C (pc' := 10) (z := 8) d1_8 rfl rfl ?_
  refine N.iushr C (pc' := 11) d1_10 rfl ?_
  refine N.sipush C (pc' := 14) (z := 255) d1_11 rfl rfl ?_
  refine N.iand C (pc' := 15) d1_14 rfl ?_
  refine N.i2c C (pc' := 16) d1_15 rfl ?_
  generalize hd_c2 : ((((p.toUInt32 >>> ((8 : Int32) &&& 31).toUInt32).toInt32) &&& (255 : Int32)).toUInt32.toUInt16.toUInt32.toInt32) = c2 at *
  refine N.istoreN C (pc' := 17) (ls' := #[.val (.int p), .val (.int c1), .val (.int c2), .unset]) d1_16 rfl rfl ?_
  refine N.iloadN C (pc' := 18) d1_17 rfl rfl ?_
  refine N.bipush C (pc' := 20) (z := 16) d1_18 rfl rfl ?_
  refine N.iushr C (pc' := 21) d1_20 rfl ?_
  refine N.iconst C (pc' := 22) (z := 3) d1_21 rfl rfl ?_
  refine N.iand C (pc' := 23) d1_22 rfl ?_
  generalize hd_k : (((p.toUInt32 >>> ((16 : Int32) &&& 31).toUInt32).toInt32) &&& (3 : Int32)) = k at *
  refine N.istoreN C (pc' := 24) (ls' := #[.val (.int p), .val (.int c1), .val (.int c2), .val (.int k)]) d1_23 rfl rfl ?_
  refine N.iloadN C (pc' := 25) d1_24 rfl rfl ?_
  refine N.ifc C (pt := 39) (pf := 28) d1_25 rfl rfl (fun (hc25 : ¬ k = (0 : Int32)) => ?_) (fun (hc25 : k = (0 : Int32)) => ?_)
  · have hi25 : ¬ k.toInt = 0 := neI hc25
    refine N.iloadN C (pc' := 40) d1_39 rfl rfl ?_
    refine N.iconst C (pc' := 41) (z := 1) d1_40 rfl rfl ?_
    refine N.icmp C (pt := 49) (pf := 44) d1_41 rfl rfl (fun (hc41 : ¬ k = (1 : Int32)) => ?_) (fun (hc41 : k = (1 : Int32)) => ?_)
    · have hi41 : ¬ k.toInt = 1 := neI hc41
      refine N.newO C (pc' := 52) d1_49 (C.w (i := 4) rfl) (C.w (i := 5) rfl) (C.w (i := 6) rfl) (by decide) (by decide) rfl (fun h49_1 s hx_s Ex49 E_s D_s => ?_)
      have g_s : G.n0 ≤ s := by rw [hx_s]; exact Z0
      have sz_s : h.size ≤ s := by rw [hx_s]; exact K0.1
      have Z0 := Nat.le_trans Z0 Ex49.1
      have O := O.ext Ex49
      have K0 := K0.ext Ex49
      have Sx := Sx.born Ex49 hx_s E_s.lt
      have F_s_value : Fld G.Z h49_1 s "java/lang/String" "value" "[B" .null := D_s (Or.inr (C.w (i := 20) rfl)) (ty := (.array .byte)) (by decide)
      have F_s_coder : Fld G.Z h49_1 s "java/lang/String" "coder" "B" (.int (0 : Int32)) := D_s (Or.inr (C.w (i := 21) rfl)) (ty := .byte) (by decide)
      refine N.dup C (pc' := 53) d1_52 rfl rfl ?_
      refine N.iconst C (pc' := 54) (z := 2) d1_53 rfl rfl ?_
      refine N.newP C (pc' := 56) (n := (2 : Int32)) 2 d1_54 (C.w (i := 7) rfl) (by decide) (by decide) (by decide) (by decide) (by decide) rfl (fun h54_2 t hx_t Ex54 A'_t => ?_)
      have ne_s_t : s ≠ t := by rw [hx_t]; exact Nat.ne_of_lt F_s_value.lt
      have ne_t_s := Ne.symm ne_s_t
      have g_t : G.n0 ≤ t := by rw [hx_t]; exact Z0
      have sz_t : h.size ≤ t := by rw [hx_t]; exact K0.1
      have Z0 := Nat.le_trans Z0 Ex54.1
      have O := O.ext Ex54
      have F_s_value := F_s_value.ext Ex54
      have F_s_coder := F_s_coder.ext Ex54
      have E_s := E_s.ext Ex54
      have K0 := K0.ext Ex54
      have Sx := Sx.born Ex54 hx_t A'_t.lt
      have A_t : Av G.Z h54_2 t .char [(.int (0 : Int32)), (.int (0 : Int32))] := A'_t
      refine N.dup C (pc' := 57) d1_56 rfl rfl ?_
      refine N.iconst C (pc' := 58) (z := 0) d1_57 rfl rfl ?_
      refine N.iloadN C (pc' := 59) d1_58 rfl rfl ?_
      refine N.castore C (pc' := 60) (i := 0) d1_59 A_t rfl (show 0 < 2 from by decide) g_t rfl (fun h59_3 W59 A_t => ?_)
      have Sx := Sx.wr W59 (List.mem_of_getElem? (i := 0) rfl)
      have O := O.wr W59 g_t
      have Z0 : G.n0 ≤ _ := (Wr.size W59).symm ▸ Z0
      have F_s_value := F_s_value.other W59 (Or.inl ne_s_t)
      have F_s_coder := F_s_coder.other W59 (Or.inl ne_s_t)
      have E_s := E_s.wr W59
      have K0 := K0.wr W59 (Or.inr sz_t)
      have A_t : Av G.Z h59_3 t .char [(.int (nar .char c1)), (.int (0 : Int32))] := A_t
      refine N.dup C (pc' := 61) d1_60 rfl rfl ?_
      refine N.iconst C (pc' := 62) (z := 1) d1_61 rfl rfl ?_
      refine N.iloadN C (pc' := 63) d1_62 rfl rfl ?_
      refine N.castore C (pc' := 64) (i := 1) d1_63 A_t rfl (show 1 < 2 from by decide) g_t rfl (fun h63_4 W63 A_t => ?_)
      have Sx := Sx.wr W63 (List.mem_of_getElem? (i := 0) rfl)
      have O := O.wr W63 g_t
      have Z0 : G.n0 ≤ _ := (Wr.size W63).symm ▸ Z0
      have F_s_value := F_s_value.other W63 (Or.inl ne_s_t)
      have F_s_coder := F_s_coder.other W63 (Or.inl ne_s_t)
      have E_s := E_s.wr W63
      have K0 := K0.wr W63 (Or.inr sz_t)
      have A_t : Av G.Z h63_4 t .char [(.int (nar .char c1)), (.int (nar .char c2))] := A_t
      refine N.callIS C Sx (pc' := 67) s [(.ref t)] d1_64 rfl (C.w (i := 8) rfl) (C.w (i := 9) rfl) (C.w (i := 6) rfl) (C.w (i := 10) rfl) (by decide) (allS (List.mem_of_getElem? (i := 1) rfl) all0) (con2 G hw s t 2 [nar .char c1, nar .char c2] cp h63_4 (own_ok2 hc1 hc2) rfl SS O Z0 g_s E_s F_s_value F_s_coder ne_s_t ne_t_s A_t) (lenOf pd___C_V rfl) rfl (by decide) (show 1 + (2 + 11) + _ ≤ _ from by decide) (by decide) (by decide) (rest := [(.ref s)]) rfl rfl ?_
      rintro K _ h64_5 C Sx ⟨rfl, KpS, -⟩
      have O := O.keep KpS (allS g_s all0)
      have Z0 := Nat.le_trans Z0 KpS.1
      have E_s := E_s.keep KpS
      have A_t := A_t.keep KpS (ninS ne_t_s nin0)
      have K0 := K0.trans KpS (allS (Or.inr sz_s) all0)
      show NS G K own_EL U rm1 Q h64_5 (((0 + 1) + 1) + 4) (((0 + 4) + 2) + 12) 67 #[.val (.int p), .val (.int c1), .val (.int c2), .val (.int k)] [(.ref s)]
      exact N.retAS C Sx rfl rfl d1_67 (by decide) (by decide) (by subst hQ; exact ⟨s, rfl, sz_s, K0, E_s⟩)
    · have hi41 : k.toInt = 1 := eqI hc41
      refine N.iloadN C (pc' := 45) d1_44 rfl rfl ?_
      refine N.callS C (pc' := 48) [(.int c1)] d1_45 (C.w (i := 112) rfl) (C.w (i := 113) rfl) (C.w (i := 6) rfl) (C.w (i := 114) rfl) (by decide) (con19 G hw c1 cp h hc1 SS O Z0) (lenOf pd__C_Ljava_lang_String_ rfl) rfl (by decide) (show 0 + (1 + 11) + _ ≤ _ from by decide) (by decide) (by decide) (rest := []) rfl rfl ?_
      rintro _ h45_6 ⟨s, rfl, sz_s, KpV, E_s⟩
      have Sx := Sx.keep KpV all0
      have O := O.keep KpV all0
      have Z0 := Nat.le_trans Z0 KpV.1
      have K0 := K0.trans KpV all0
      show NS G K own_EL U rm1 Q h45_6 (0 + 2) (0 + 5) 48 #[.val (.int p), .val (.int c1), .val (.int c2), .val (.int k)] [(.ref s)]
      exact N.retAS C Sx rfl rfl d1_48 (by decide) (by decide) (by subst hQ; exact ⟨s, rfl, sz_s, K0, E_s⟩)
  · have hi25 : k.toInt = 0 := eqI hc25
    refine N.newO C (pc' := 31) d1_28 (C.w (i := 4) rfl) (C.w (i := 5) rfl) (C.w (i := 6) rfl) (by decide) (by decide) rfl (fun h28_7 s hx_s Ex28 E_s D_s => ?_)
    have g_s : G.n0 ≤ s := by rw [hx_s]; exact Z0
    have sz_s : h.size ≤ s := by rw [hx_s]; exact K0.1
    have Z0 := Nat.le_trans Z0 Ex28.1
    have O := O.ext Ex28
    have K0 := K0.ext Ex28
    have Sx := Sx.born Ex28 hx_s E_s.lt
    have F_s_value : Fld G.Z h28_7 s "java/lang/String" "value" "[B" .null := D_s (Or.inr (C.w (i := 20) rfl)) (ty := (.array .byte)) (by decide)
    have F_s_coder : Fld G.Z h28_7 s "java/lang/String" "coder" "B" (.int (0 : Int32)) := D_s (Or.inr (C.w (i := 21) rfl)) (ty := .byte) (by decide)
    refine N.dup C (pc' := 32) d1_31 rfl rfl ?_
    refine N.iconst C (pc' := 33) (z := 0) d1_32 rfl rfl ?_
    refine N.newP C (pc' := 35) (n := (0 : Int32)) 0 d1_33 (C.w (i := 7) rfl) (by decide) (by decide) (by decide) (by decide) (by decide) rfl (fun h33_8 t hx_t Ex33 A'_t => ?_)
    have ne_s_t : s ≠ t := by rw [hx_t]; exact Nat.ne_of_lt F_s_value.lt
    have ne_t_s := Ne.symm ne_s_t
    have g_t : G.n0 ≤ t := by rw [hx_t]; exact Z0
    have sz_t : h.size ≤ t := by rw [hx_t]; exact K0.1
    have Z0 := Nat.le_trans Z0 Ex33.1
    have O := O.ext Ex33
    have F_s_value := F_s_value.ext Ex33
    have F_s_coder := F_s_coder.ext Ex33
    have E_s := E_s.ext Ex33
    have K0 := K0.ext Ex33
    have Sx := Sx.born Ex33 hx_t A'_t.lt
    have A_t : Av G.Z h33_8 t .char [] := A'_t
    refine N.callIS C Sx (pc' := 38) s [(.ref t)] d1_35 rfl (C.w (i := 8) rfl) (C.w (i := 9) rfl) (C.w (i := 6) rfl) (C.w (i := 10) rfl) (by decide) (allS (List.mem_of_getElem? (i := 1) rfl) all0) (con2 G hw s t 0 [] cp h33_8 own_ok0 rfl SS O Z0 g_s E_s F_s_value F_s_coder ne_s_t ne_t_s A_t) (lenOf pd___C_V rfl) rfl (by decide) (show 1 + (2 + 11) + _ ≤ _ from by decide) (by decide) (by decide) (rest := [(.ref s)]) rfl rfl ?_
    rintro K _ h35_9 C Sx ⟨rfl, KpS, -⟩
    have O := O.keep KpS (allS g_s all0)
    have Z0 := Nat.le_trans Z0 KpS.1
    have E_s := E_s.keep KpS
    have A_t := A_t.keep KpS (ninS ne_t_s nin0)
    have K0 := K0.trans KpS (allS (Or.inr sz_s) all0)
    show NS G K own_EL U rm1 Q h35_9 (((0 + 1) + 1) + 4) ((0 + 4) + 12) 38 #[.val (.int p), .val (.int c1), .val (.int c2), .val (.int k)] [(.ref s)]
    exact N.retAS C Sx rfl rfl d1_38 (by decide) (by decide) (by subst hQ; exact ⟨s, rfl, sz_s, K0, E_s⟩)
set_option maxRecDepth 65536 in
set_option maxHeartbeats 40000000 in
theorem con6 (G : Gx) (hw : ∀ d ∈ tables_1, d.before G.a0 G.Z = true) (x : Addr) (h : Heap) :
    Con G (⟨"java/lang/Record", "<init>", "()V"⟩ : MethodName) jdk_30_method_1_code 1 none rm6 #[(.ref x)] h (fun v h' => v = none ∧ h = h') := by
  refine Con.of (W := tables_1) (plainFor_of_name pn6) hw (fun mm => ef6 mm x) (fun K C => ?_)
  have C : Cx G K "java/lang/Record" "<init>" jdk_30_method_1_code 1 none tables_1 := C
  generalize hQ : (fun v h' => v = none ∧ h = h' : Option Value → Heap → Prop) = Q
  refine N.aloadN C (pc' := 1) d6_0 rfl rfl rfl ?_
  refine N.initO C (pc' := 4) d6_1 (C.w (i := 37) rfl) (C.w (i := 16) rfl) (C.w (i := 17) rfl) rfl (by decide) (show 0 + 12 ≤ _ from by decide) rfl ?_
  exact N.ret0 C rfl d6_4 (by decide) (by decide) (by subst hQ; exact ⟨rfl, rfl⟩)
set_option maxRecDepth 65536 in
set_option maxHeartbeats 40000000 in
theorem con5 (G : Gx) (hw : ∀ d ∈ tables_1, d.before G.a0 G.Z = true) (x : Addr) (v1 v2 v3 v4 v5 : Value) (h : Heap) (r_v1 : v1.isRef = true) (r_v2 : v2.isRef = true) (r_v3 : v3.isRef = true) (r_v4 : v4.isRef = true) (r_v5 : v5.isRef = true) (Z0 : G.n0 ≤ h.size) (g_x : G.n0 ≤ x) (E_x : Exa G.Z h x "com/example/due_share/dueshare/UriReference") (F_x_scheme : Fld G.Z h x "com/example/due_share/dueshare/UriReference" "scheme" "Ljava/lang/String;" .null) (F_x_authority : Fld G.Z h x "com/example/due_share/dueshare/UriReference" "authority" "Lcom/example/due_share/dueshare/UriReference$Authority;" .null) (F_x_path : Fld G.Z h x "com/example/due_share/dueshare/UriReference" "path" "Ljava/lang/String;" .null) (F_x_query : Fld G.Z h x "com/example/due_share/dueshare/UriReference" "query" "Ljava/lang/String;" .null) (F_x_fragment : Fld G.Z h x "com/example/due_share/dueshare/UriReference" "fragment" "Ljava/lang/String;" .null) :
    Con G (⟨"com/example/due_share/dueshare/UriReference", "<init>", "(Ljava/lang/String;Lcom/example/due_share/dueshare/UriReference$Authority;Ljava/lang/String;Ljava/lang/String;Ljava/lang/String;)V"⟩ : MethodName) prog_21_method_1_code 6 none rm5 #[(.ref x), v1, v2, v3, v4, v5] h (fun v h' => v = none ∧ Keep h h' [x] ∧ Fld G.Z h' x "com/example/due_share/dueshare/UriReference" "scheme" "Ljava/lang/String;" v1 ∧ Fld G.Z h' x "com/example/due_share/dueshare/UriReference" "authority" "Lcom/example/due_share/dueshare/UriReference$Authority;" v2 ∧ Fld G.Z h' x "com/example/due_share/dueshare/UriReference" "path" "Ljava/lang/String;" v3 ∧ Fld G.Z h' x "com/example/due_share/dueshare/UriReference" "query" "Ljava/lang/String;" v4 ∧ Fld G.Z h' x "com/example/due_share/dueshare/UriReference" "fragment" "Ljava/lang/String;" v5) := by
  refine Con.of (W := tables_1) (plainFor_of_name pn5) hw (fun mm => ef5 mm x v1 r_v1 v2 r_v2 v3 r_v3 v4 r_v4 v5 r_v5) (fun K C => ?_)
  have C : Cx G K "com/example/due_share/dueshare/UriReference" "<init>" prog_21_method_1_code 6 none tables_1 := C
  generalize hQ : (fun v h' => v = none ∧ Keep h h' [x] ∧ Fld G.Z h' x "com/example/due_share/dueshare/UriReference" "scheme" "Ljava/lang/String;" v1 ∧ Fld G.Z h' x "com/example/due_share/dueshare/UriReference" "authority" "Lcom/example/due_share/dueshare/UriReference$Authority;" v2 ∧ Fld G.Z h' x "com/example/due_share/dueshare/UriReference" "path" "Ljava/lang/String;" v3 ∧ Fld G.Z h' x "com/example/due_share/dueshare/UriReference" "query" "Ljava/lang/String;" v4 ∧ Fld G.Z h' x "com/example/due_share/dueshare/UriReference" "fragment" "Ljava/lang/String;" v5 : Option Value → Heap → Prop) = Q
  have K0 : Keep h h [x] := Keep.refl _ _
  refine N.aloadN C (pc' := 1) d5_0 rfl rfl rfl ?_
  refine N.callI C (pc' := 4) x [] d5_1 rfl (C.w (i := 32) rfl) (C.w (i := 33) rfl) (C.w (i := 35) rfl) (C.w (i := 36) rfl) (by decide) (con6 G hw x h) (lenOf pd___V rfl) rfl (by decide) (show 0 + (1 + 11) + _ ≤ _ from by decide) (by decide) (by decide) (rest := []) rfl rfl ?_
  rintro _ h1_1 ⟨rfl, rfl⟩
  show N G K rm5 Q h 0 0 4 #[.val (.ref x), .val v1, .val v2, .val v3, .val v4, .val v5] []
  refine N.aloadN C (pc' := 5) d5_4 rfl rfl rfl ?_
  refine N.aloadN C (pc' := 6) d5_5 rfl r_v1 rfl ?_
  refine N.putF C (pc' := 9) d5_6 (C.w (i := 38) rfl) F_x_scheme E_x (Or.inr ⟨(C.w (i := 39) rfl), rfl, rfl⟩) (C.w (i := 27) rfl) (ty := (.object "java/lang/String")) (by decide) (own_nr r_v1) (own_fr r_v1) g_x rfl (fun h6_2 W6 => ?_)
  have Z0 : G.n0 ≤ _ := (Wr.size W6).symm ▸ Z0
  have F_x_scheme := F_x_scheme.same W6
  have F_x_authority := F_x_authority.other W6 (Or.inr (slot_ne (Or.inr (C.w (i := 41) rfl)) (Or.inr (C.w (i := 39) rfl)) (by decide) (t := (.object "com/example/due_share/dueshare/UriReference$Authority")) (t' := (.object "java/lang/String")) (by decide) (by decide)))
  have F_x_path := F_x_path.other W6 (Or.inr (slot_ne (Or.inr (C.w (i := 43) rfl)) (Or.inr (C.w (i := 39) rfl)) (by decide) (t := (.object "java/lang/String")) (t' := (.object "java/lang/String")) (by decide) (by decide)))
  have F_x_query := F_x_query.other W6 (Or.inr (slot_ne (Or.inr (C.w (i := 45) rfl)) (Or.inr (C.w (i := 39) rfl)) (by decide) (t := (.object "java/lang/String")) (t' := (.object "java/lang/String")) (by decide) (by decide)))
  have F_x_fragment := F_x_fragment.other W6 (Or.inr (slot_ne (Or.inr (C.w (i := 47) rfl)) (Or.inr (C.w (i := 39) rfl)) (by decide) (t := (.object "java/lang/String")) (t' := (.object "java/lang/String")) (by decide) (by decide)))
  have E_x := E_x.wr W6
  have K0 := K0.wr W6 (Or.inl (List.mem_of_getElem? (i := 0) rfl))
  refine N.aloadN C (pc' := 10) d5_9 rfl rfl rfl ?_
  refine N.aloadN C (pc' := 11) d5_10 rfl r_v2 rfl ?_
  refine N.putF C (pc' := 14) d5_11 (C.w (i := 40) rfl) F_x_authority E_x (Or.inr ⟨(C.w (i := 41) rfl), rfl, rfl⟩) (C.w (i := 27) rfl) (ty := (.object "com/example/due_share/dueshare/UriReference$Authority")) (by decide) (own_nr r_v2) (own_fr r_v2) g_x rfl (fun h11_3 W11 => ?_)
  have Z0 : G.n0 ≤ _ := (Wr.size W11).symm ▸ Z0
  have F_x_scheme := F_x_scheme.other W11 (Or.inr (slot_ne (Or.inr (C.w (i := 39) rfl)) (Or.inr (C.w (i := 41) rfl)) (by decide) (t := (.object "java/lang/String")) (t' := (.object "com/example/due_share/dueshare/UriReference$Authority")) (by decide) (by decide)))
  have F_x_authority := F_x_authority.same W11
  have F_x_path := F_x_path.other W11 (Or.inr (slot_ne (Or.inr (C.w (i := 43) rfl)) (Or.inr (C.w (i := 41) rfl)) (by decide) (t := (.object "java/lang/String")) (t' := (.object "com/example/due_share/dueshare/UriReference$Authority")) (by decide) (by decide)))
  have F_x_query := F_x_query.other W11 (Or.inr (slot_ne (Or.inr (C.w (i := 45) rfl)) (Or.inr (C.w (i := 41) rfl)) (by decide) (t := (.object "java/lang/String")) (t' := (.object "com/example/due_share/dueshare/UriReference$Authority")) (by decide) (by decide)))
  have F_x_fragment := F_x_fragment.other W11 (Or.inr (slot_ne (Or.inr (C.w (i := 47) rfl)) (Or.inr (C.w (i := 41) rfl)) (by decide) (t := (.object "java/lang/String")) (t' := (.object "com/example/due_share/dueshare/UriReference$Authority")) (by decide) (by decide)))
  have E_x := E_x.wr W11
  have K0 := K0.wr W11 (Or.inl (List.mem_of_getElem? (i := 0) rfl))
  refine N.aloadN C (pc' := 15) d5_14 rfl rfl rfl ?_
  refine N.aloadN C (pc' := 16) d5_15 rfl r_v3 rfl ?_
  refine N.putF C (pc' := 19) d5_16 (C.w (i := 42) rfl) F_x_path E_x (Or.inr ⟨(C.w (i := 43) rfl), rfl, rfl⟩) (C.w (i := 27) rfl) (ty := (.object "java/lang/String")) (by decide) (own_nr r_v3) (own_fr r_v3) g_x rfl (fun h16_4 W16 => ?_)
  have Z0 : G.n0 ≤ _ := (Wr.size W16).symm ▸ Z0
  have F_x_scheme := F_x_scheme.other W16 (Or.inr (slot_ne (Or.inr (C.w (i := 39) rfl)) (Or.inr (C.w (i := 43) rfl)) (by decide) (t := (.object "java/lang/String")) (t' := (.object "java/lang/String")) (by decide) (by decide)))
  have F_x_authority := F_x_authority.other W16 (Or.inr (slot_ne (Or.inr (C.w (i := 41) rfl)) (Or.inr (C.w (i := 43) rfl)) (by decide) (t := (.object "com/example/due_share/dueshare/UriReference$Authority")) (t' := (.object "java/lang/String")) (by decide) (by decide)))
  have F_x_path := F_x_path.same W16
  have F_x_query := F_x_query.other W16 (Or.inr (slot_ne (Or.inr (C.w (i := 45) rfl)) (Or.inr (C.w (i := 43) rfl)) (by decide) (t := (.object "java/lang/String")) (t' := (.object "java/lang/String")) (by decide) (by decide)))
  have F_x_fragment := F_x_fragment.other W16 (Or.inr (slot_ne (Or.inr (C.w (i := 47) rfl)) (Or.inr (C.w (i := 43) rfl)) (by decide) (t := (.object "java/lang/String")) (t' := (.object "java/lang/String")) (by decide) (by decide)))
  have E_x := E_x.wr W16
  have K0 := K0.wr W16 (Or.inl (List.mem_of_getElem? (i := 0) rfl))
  refine N.aloadN C (pc' := 20) d5_19 rfl rfl rfl ?_
  refine N.aload C (pc' := 22) d5_20 rfl r_v4 rfl ?_
  refine N.putF C (pc' := 25) d5_22 (C.w (i := 44) rfl) F_x_query E_x (Or.inr ⟨(C.w (i := 45) rfl), rfl, rfl⟩) (C.w (i := 27) rfl) (ty := (.object "java/lang/String")) (by decide) (own_nr r_v4) (own_fr r_v4) g_x rfl (fun h22_5 W22 => ?_)
  have Z0 : G.n0 ≤ _ := (Wr.size W22).symm ▸ Z0
  have F_x_scheme := F_x_scheme.other W22 (Or.inr (slot_ne (Or.inr (C.w (i := 39) rfl)) (Or.inr (C.w (i := 45) rfl)) (by decide) (t := (.object "java/lang/String")) (t' := (.object "java/lang/String")) (by decide) (by decide)))
  have F_x_authority := F_x_authority.other W22 (Or.inr (slot_ne (Or.inr (C.w (i := 41) rfl)) (Or.inr (C.w (i := 45) rfl)) (by decide) (t := (.object "com/example/due_share/dueshare/UriReference$Authority")) (t' := (.object "java/lang/String")) (by decide) (by decide)))
  have F_x_path := F_x_path.other W22 (Or.inr (slot_ne (Or.inr (C.w (i := 43) rfl)) (Or.inr (C.w (i := 45) rfl)) (by decide) (t := (.object "java/lang/String")) (t' := (.object "java/lang/String")) (by decide) (by decide)))
  have F_x_query := F_x_query.same W22
  have F_x_fragment := F_x_fragment.other W22 (Or.inr (slot_ne (Or.inr (C.w (i := 47) rfl)) (Or.inr (C.w (i := 45) rfl)) (by decide) (t := (.object "java/lang/String")) (t' := (.object "java/lang/String")) (by decide) (by decide)))
  have E_x := E_x.wr W22
  have K0 := K0.wr W22 (Or.inl (List.mem_of_getElem? (i := 0) rfl))
  refine N.aloadN C (pc' := 26) d5_25 rfl rfl rfl ?_
  refine N.aload C (pc' := 28) d5_26 rfl r_v5 rfl ?_
  refine N.putF C (pc' := 31) d5_28 (C.w (i := 46) rfl) F_x_fragment E_x (Or.inr ⟨(C.w (i := 47) rfl), rfl, rfl⟩) (C.w (i := 27) rfl) (ty := (.object "java/lang/String")) (by decide) (own_nr r_v5) (own_fr r_v5) g_x rfl (fun h28_6 W28 => ?_)
  have Z0 : G.n0 ≤ _ := (Wr.size W28).symm ▸ Z0
  have F_x_scheme := F_x_scheme.other W28 (Or.inr (slot_ne (Or.inr (C.w (i := 39) rfl)) (Or.inr (C.w (i := 47) rfl)) (by decide) (t := (.object "java/lang/String")) (t' := (.object "java/lang/String")) (by decide) (by decide)))
  have F_x_authority := F_x_authority.other W28 (Or.inr (slot_ne (Or.inr (C.w (i := 41) rfl)) (Or.inr (C.w (i := 47) rfl)) (by decide) (t := (.object "com/example/due_share/dueshare/UriReference$Authority")) (t' := (.object "java/lang/String")) (by decide) (by decide)))
  have F_x_path := F_x_path.other W28 (Or.inr (slot_ne (Or.inr (C.w (i := 43) rfl)) (Or.inr (C.w (i := 47) rfl)) (by decide) (t := (.object "java/lang/String")) (t' := (.object "java/lang/String")) (by decide) (by decide)))
  have F_x_query := F_x_query.other W28 (Or.inr (slot_ne (Or.inr (C.w (i := 45) rfl)) (Or.inr (C.w (i := 47) rfl)) (by decide) (t := (.object "java/lang/String")) (t' := (.object "java/lang/String")) (by decide) (by decide)))
  have F_x_fragment := F_x_fragment.same W28
  have E_x := E_x.wr W28
  have K0 := K0.wr W28 (Or.inl (List.mem_of_getElem? (i := 0) rfl))
  exact N.ret0 C rfl d5_31 (by decide) (by decide) (by subst hQ; exact ⟨rfl, K0, F_x_scheme, F_x_authority, F_x_path, F_x_query, F_x_fragment⟩)
set_option maxRecDepth 65536 in
set_option maxHeartbeats 40000000 in
theorem con15 (G : Gx) (hw : ∀ d ∈ tables_1, d.before G.a0 G.Z = true) (x s : Addr) (v1 : Value) (q : Int32) (h : Heap) (r_v1 : v1.isRef = true) (Z0 : G.n0 ≤ h.size) (g_x : G.n0 ≤ x) (E_x : Exa G.Z h x "com/example/due_share/dueshare/UriReference$Authority") (F_x_userInfo : Fld G.Z h x "com/example/due_share/dueshare/UriReference$Authority" "userInfo" "Ljava/lang/String;" .null) (F_x_host : Fld G.Z h x "com/example/due_share/dueshare/UriReference$Authority" "host" "Ljava/lang/String;" .null) (F_x_port : Fld G.Z h x "com/example/due_share/dueshare/UriReference$Authority" "port" "I" (.int (0 : Int32))) :
    Con G (⟨"com/example/due_share/dueshare/UriReference$Authority", "<init>", "(Ljava/lang/String;Ljava/lang/String;I)V"⟩ : MethodName) prog_22_method_1_code 4 none rm15 #[(.ref x), v1, (.ref s), (.int q)] h (fun v h' => v = none ∧ Keep h h' [x]) := by
  refine Con.of (W := tables_1) (plainFor_of_name pn15) hw (fun mm => ef15 mm x v1 r_v1 s q) (fun K C => ?_)
  have C : Cx G K "com/example/due_share/dueshare/UriReference$Authority" "<init>" prog_22_method_1_code 4 none tables_1 := C
  generalize hQ : (fun v h' => v = none ∧ Keep h h' [x] : Option Value → Heap → Prop) = Q
  have K0 : Keep h h [x] := Keep.refl _ _
  refine N.aloadN C (pc' := 1) d15_0 rfl rfl rfl ?_
  refine N.callI C (pc' := 4) x [] d15_1 rfl (C.w (i := 94) rfl) (C.w (i := 33) rfl) (C.w (i := 35) rfl) (C.w (i := 36) rfl) (by decide) (con6 G hw x h) (lenOf pd___V rfl) rfl (by decide) (show 0 + (1 + 11) + _ ≤ _ from by decide) (by decide) (by decide) (rest := []) rfl rfl ?_
  rintro _ h1_1 ⟨rfl, rfl⟩
  show N G K rm15 Q h 0 0 4 #[.val (.ref x), .val v1, .val (.ref s), .val (.int q)] []
  refine N.aloadN C (pc' := 5) d15_4 rfl rfl rfl ?_
  refine N.aloadN C (pc' := 6) d15_5 rfl r_v1 rfl ?_
  refine N.putF C (pc' := 9) d15_6 (C.w (i := 95) rfl) F_x_userInfo E_x (Or.inr ⟨(C.w (i := 96) rfl), rfl, rfl⟩) (C.w (i := 89) rfl) (ty := (.object "java/lang/String")) (by decide) (own_nr r_v1) (own_fr r_v1) g_x rfl (fun h6_2 W6 => ?_)
  have Z0 : G.n0 ≤ _ := (Wr.size W6).symm ▸ Z0
  have F_x_userInfo := F_x_userInfo.same W6
  have F_x_host := F_x_host.other W6 (Or.inr (slot_ne (Or.inr (C.w (i := 98) rfl)) (Or.inr (C.w (i := 96) rfl)) (by decide) (t := (.object "java/lang/String")) (t' := (.object "java/lang/String")) (by decide) (by decide)))
  have F_x_port := F_x_port.other W6 (Or.inr (slot_ne (Or.inr (C.w (i := 100) rfl)) (Or.inr (C.w (i := 96) rfl)) (by decide) (t := .int) (t' := (.object "java/lang/String")) (by decide) (by decide)))
  have E_x := E_x.wr W6
  have K0 := K0.wr W6 (Or.inl (List.mem_of_getElem? (i := 0) rfl))
  refine N.aloadN C (pc' := 10) d15_9 rfl rfl rfl ?_
  refine N.aloadN C (pc' := 11) d15_10 rfl rfl rfl ?_
  refine N.putF C (pc' := 14) d15_11 (C.w (i := 97) rfl) F_x_host E_x (Or.inr ⟨(C.w (i := 98) rfl), rfl, rfl⟩) (C.w (i := 89) rfl) (ty := (.object "java/lang/String")) (by decide) rfl rfl g_x rfl (fun h11_3 W11 => ?_)
  have Z0 : G.n0 ≤ _ := (Wr.size W11).symm ▸ Z0
  have F_x_userInfo := F_x_userInfo.other W11 (Or.inr (slot_ne (Or.inr (C.w (i := 96) rfl)) (Or.inr (C.w (i := 98) rfl)) (by decide) (t := (.object "java/lang/String")) (t' := (.object "java/lang/String")) (by decide) (by decide)))
  have F_x_host := F_x_host.same W11
  have F_x_port := F_x_port.other W11 (Or.inr (slot_ne (Or.inr (C.w (i := 100) rfl)) (Or.inr (C.w (i := 98) rfl)) (by decide) (t := .int) (t' := (.object "java/lang/String")) (by decide) (by decide)))
  have E_x := E_x.wr W11
  have K0 := K0.wr W11 (Or.inl (List.mem_of_getElem? (i := 0) rfl))
  refine N.aloadN C (pc' := 15) d15_14 rfl rfl rfl ?_
  refine N.iloadN C (pc' := 16) d15_15 rfl rfl ?_
  refine N.putF C (pc' := 19) d15_16 (C.w (i := 99) rfl) F_x_port E_x (Or.inr ⟨(C.w (i := 100) rfl), rfl, rfl⟩) (C.w (i := 89) rfl) (ty := .int) (by decide) rfl rfl g_x rfl (fun h16_4 W16 => ?_)
  have Z0 : G.n0 ≤ _ := (Wr.size W16).symm ▸ Z0
  have F_x_userInfo := F_x_userInfo.other W16 (Or.inr (slot_ne (Or.inr (C.w (i := 96) rfl)) (Or.inr (C.w (i := 100) rfl)) (by decide) (t := (.object "java/lang/String")) (t' := .int) (by decide) (by decide)))
  have F_x_host := F_x_host.other W16 (Or.inr (slot_ne (Or.inr (C.w (i := 98) rfl)) (Or.inr (C.w (i := 100) rfl)) (by decide) (t := (.object "java/lang/String")) (t' := .int) (by decide) (by decide)))
  have F_x_port := F_x_port.same W16
  have E_x := E_x.wr W16
  have K0 := K0.wr W16 (Or.inl (List.mem_of_getElem? (i := 0) rfl))
  exact N.ret0 C rfl d15_19 (by decide) (by decide) (by subst hQ; exact ⟨rfl, K0⟩)
set_option maxRecDepth 65536 in
set_option maxHeartbeats 40000000 in
theorem con7 (G : Gx) (hw : ∀ d ∈ tables_1, d.before G.a0 G.Z = true) (x : Addr) (v1 v2 v3 v4 v5 : Value) (h : Heap) (r_v1 : v1.isRef = true) (r_v2 : v2.isRef = true) (r_v3 : v3.isRef = true) (r_v4 : v4.isRef = true) (r_v5 : v5.isRef = true) (Z0 : G.n0 ≤ h.size) (E_x : Exa G.Z h x "com/example/due_share/dueshare/UriReference") (F_x_scheme : Fld G.Z h x "com/example/due_share/dueshare/UriReference" "scheme" "Ljava/lang/String;" v1) (F_x_authority : Fld G.Z h x "com/example/due_share/dueshare/UriReference" "authority" "Lcom/example/due_share/dueshare/UriReference$Authority;" v2) (F_x_path : Fld G.Z h x "com/example/due_share/dueshare/UriReference" "path" "Ljava/lang/String;" v3) (F_x_query : Fld G.Z h x "com/example/due_share/dueshare/UriReference" "query" "Ljava/lang/String;" v4) (F_x_fragment : Fld G.Z h x "com/example/due_share/dueshare/UriReference" "fragment" "Ljava/lang/String;" v5) :
    Con G (⟨"com/example/due_share/dueshare/UriReference", "withoutFragment", "()Lcom/example/due_share/dueshare/UriReference;"⟩ : MethodName) prog_21_method_7_code 1 (some (.object "com/example/due_share/dueshare/UriReference")) rm7 #[(.ref x)] h (fun v h' => ∃ y : Addr, v = some (.ref y) ∧ h.size ≤ y ∧ Keep h h' [] ∧ Exa G.Z h' y "com/example/due_share/dueshare/UriReference" ∧ Fld G.Z h' y "com/example/due_share/dueshare/UriReference" "scheme" "Ljava/lang/String;" v1 ∧ Fld G.Z h' y "com/example/due_share/dueshare/UriReference" "authority" "Lcom/example/due_share/dueshare/UriReference$Authority;" v2 ∧ Fld G.Z h' y "com/example/due_share/dueshare/UriReference" "path" "Ljava/lang/String;" v3 ∧ Fld G.Z h' y "com/example/due_share/dueshare/UriReference" "query" "Ljava/lang/String;" v4 ∧ Fld G.Z h' y "com/example/due_share/dueshare/UriReference" "fragment" "Ljava/lang/String;" .null) := by
  refine Con.of (W := tables_1) (plainFor_of_name pn7) hw (fun mm => ef7 mm x) (fun K C => ?_)
  have C : Cx G K "com/example/due_share/dueshare/UriReference" "withoutFragment" prog_21_method_7_code 1 (some (.object "com/example/due_share/dueshare/UriReference")) tables_1 := C
  generalize hQ : (fun v h' => ∃ y : Addr, v = some (.ref y) ∧ h.size ≤ y ∧ Keep h h' [] ∧ Exa G.Z h' y "com/example/due_share/dueshare/UriReference" ∧ Fld G.Z h' y "com/example/due_share/dueshare/UriReference" "scheme" "Ljava/lang/String;" v1 ∧ Fld G.Z h' y "com/example/due_share/dueshare/UriReference" "authority" "Lcom/example/due_share/dueshare/UriReference$Authority;" v2 ∧ Fld G.Z h' y "com/example/due_share/dueshare/UriReference" "path" "Ljava/lang/String;" v3 ∧ Fld G.Z h' y "com/example/due_share/dueshare/UriReference" "query" "Ljava/lang/String;" v4 ∧ Fld G.Z h' y "com/example/due_share/dueshare/UriReference" "fragment" "Ljava/lang/String;" .null : Option Value → Heap → Prop) = Q
  have K0 : Keep h h [] := Keep.refl _ _
  refine N.newO C (pc' := 3) d7_0 (C.w (i := 53) rfl) (C.w (i := 27) rfl) (C.w (i := 28) rfl) (by decide) (by decide) rfl (fun h0_1 y hx_y Ex0 E_y D_y => ?_)
  have ne_x_y : x ≠ y := by rw [hx_y]; exact Nat.ne_of_lt F_x_scheme.lt
  have ne_y_x := Ne.symm ne_x_y
  have g_y : G.n0 ≤ y := by rw [hx_y]; exact Z0
  have sz_y : h.size ≤ y := by rw [hx_y]; exact K0.1
  have Z0 := Nat.le_trans Z0 Ex0.1
  have F_x_scheme := F_x_scheme.ext Ex0
  have F_x_authority := F_x_authority.ext Ex0
  have F_x_path := F_x_path.ext Ex0
  have F_x_query := F_x_query.ext Ex0
  have F_x_fragment := F_x_fragment.ext Ex0
  have E_x := E_x.ext Ex0
  have K0 := K0.ext Ex0
  have F_y_scheme : Fld G.Z h0_1 y "com/example/due_share/dueshare/UriReference" "scheme" "Ljava/lang/String;" .null := D_y (Or.inr (C.w (i := 39) rfl)) (ty := (.object "java/lang/String")) (by decide)
  have F_y_authority : Fld G.Z h0_1 y "com/example/due_share/dueshare/UriReference" "authority" "Lcom/example/due_share/dueshare/UriReference$Authority;" .null := D_y (Or.inr (C.w (i := 41) rfl)) (ty := (.object "com/example/due_share/dueshare/UriReference$Authority")) (by decide)
  have F_y_path : Fld G.Z h0_1 y "com/example/due_share/dueshare/UriReference" "path" "Ljava/lang/String;" .null := D_y (Or.inr (C.w (i := 43) rfl)) (ty := (.object "java/lang/String")) (by decide)
  have F_y_query : Fld G.Z h0_1 y "com/example/due_share/dueshare/UriReference" "query" "Ljava/lang/String;" .null := D_y (Or.inr (C.w (i := 45) rfl)) (ty := (.object "java/lang/String")) (by decide)
  have F_y_fragment : Fld G.Z h0_1 y "com/example/due_share/dueshare/UriReference" "fragment" "Ljava/lang/String;" .null := D_y (Or.inr (C.w (i := 47) rfl)) (ty := (.object "java/lang/String")) (by decide)
  refine N.dup C (pc' := 4) d7_3 rfl rfl ?_
  refine N.aloadN C (pc' := 5) d7_4 rfl rfl rfl ?_
  refine N.getF C (pc' := 8) d7_5 (C.w (i := 38) rfl) F_x_scheme rfl ?_
  refine N.aloadN C (pc' := 9) d7_8 rfl rfl rfl ?_
  refine N.getF C (pc' := 12) d7_9 (C.w (i := 40) rfl) F_x_authority rfl ?_
  refine N.aloadN C (pc' := 13) d7_12 rfl rfl rfl ?_
  refine N.getF C (pc' := 16) d7_13 (C.w (i := 42) rfl) F_x_path rfl ?_
  refine N.aloadN C (pc' := 17) d7_16 rfl rfl rfl ?_
  refine N.getF C (pc' := 20) d7_17 (C.w (i := 44) rfl) F_x_query rfl ?_
  refine N.aconst_null C (pc' := 21) d7_20 rfl ?_
  refine N.callI C (pc' := 24) y [v1, v2, v3, v4, .null] d7_21 rfl (C.w (i := 54) rfl) (C.w (i := 30) rfl) (C.w (i := 28) rfl) (C.w (i := 31) rfl) (by decide) (con5 G hw y v1 v2 v3 v4 .null h0_1 r_v1 r_v2 r_v3 r_v4 rfl Z0 g_y E_y F_y_scheme F_y_authority F_y_path F_y_query F_y_fragment) (lenOf pd__Ljava_lang_String_Lcom_example_due_share_dueshare_UriReference_Authority_Ljava_lang_String_Ljava_lang_String_Ljava_lang_String__V rfl) rfl (by decide) (show 1 + (6 + 11) + _ ≤ _ from by decide) (by decide) (by decide) (rest := [(.ref y)]) rfl rfl ?_
  rintro _ h21_2 ⟨rfl, KpU, FU_scheme, FU_authority, FU_path, FU_query, FU_fragment⟩
  have Z0 := Nat.le_trans Z0 KpU.1
  have F_x_scheme := F_x_scheme.keep KpU (ninS ne_x_y nin0)
  have F_x_authority := F_x_authority.keep KpU (ninS ne_x_y nin0)
  have F_x_path := F_x_path.keep KpU (ninS ne_x_y nin0)
  have F_x_query := F_x_query.keep KpU (ninS ne_x_y nin0)
  have F_x_fragment := F_x_fragment.keep KpU (ninS ne_x_y nin0)
  have E_x := E_x.keep KpU
  have E_y := E_y.keep KpU
  have K0 := K0.trans KpU (allS (Or.inr sz_y) all0)
  have F_y_scheme := FU_scheme
  have F_y_authority := FU_authority
  have F_y_path := FU_path
  have F_y_query := FU_query
  have F_y_fragment := FU_fragment
  show N G K rm7 Q h21_2 (0 + 1) (0 + 5) 24 #[.val (.ref x)] [(.ref y)]
  exact N.retA C rfl rfl d7_24 (by decide) (by decide) (by subst hQ; exact ⟨y, rfl, sz_y, K0, E_y, F_y_scheme, F_y_authority, F_y_path, F_y_query, F_y_fragment⟩)
set_option maxRecDepth 65536 in
set_option maxHeartbeats 40000000 in
theorem con8 (G : Gx) (hw : ∀ d ∈ tables_1, d.before G.a0 G.Z = true) (x : Addr) (v1 : Value) (h : Heap) (r_v1 : v1.isRef = true) (F_x_fragment : Fld G.Z h x "com/example/due_share/dueshare/UriReference" "fragment" "Ljava/lang/String;" v1) :
    Con G (⟨"com/example/due_share/dueshare/UriReference", "fragment", "()Ljava/lang/String;"⟩ : MethodName) prog_21_method_26_code 1 (some (.object "java/lang/String")) rm8 #[(.ref x)] h (fun v h' => v = some v1 ∧ h = h') := by
  refine Con.of (W := tables_1) (plainFor_of_name pn8) hw (fun mm => ef8 mm x) (fun K C => ?_)
  have C : Cx G K "com/example/due_share/dueshare/UriReference" "fragment" prog_21_method_26_code 1 (some (.object "java/lang/String")) tables_1 := C
  generalize hQ : (fun v h' => v = some v1 ∧ h = h' : Option Value → Heap → Prop) = Q
  refine N.aloadN C (pc' := 1) d8_0 rfl rfl rfl ?_
  refine N.getF C (pc' := 4) d8_1 (C.w (i := 46) rfl) F_x_fragment rfl ?_
  exact N.retA C rfl r_v1 d8_4 (by decide) (by decide) (by subst hQ; exact ⟨rfl, rfl⟩)
set_option maxRecDepth 65536 in
set_option maxHeartbeats 40000000 in
theorem con9 (G : Gx) (hw : ∀ d ∈ tables_1, d.before G.a0 G.Z = true) (x : Addr) (v1 : Value) (h : Heap) (r_v1 : v1.isRef = true) (F_x_scheme : Fld G.Z h x "com/example/due_share/dueshare/UriReference" "scheme" "Ljava/lang/String;" v1) :
    Con G (⟨"com/example/due_share/dueshare/UriReference", "scheme", "()Ljava/lang/String;"⟩ : MethodName) prog_21_method_22_code 1 (some (.object "java/lang/String")) rm9 #[(.ref x)] h (fun v h' => v = some v1 ∧ h = h') := by
  refine Con.of (W := tables_1) (plainFor_of_name pn9) hw (fun mm => ef9 mm x) (fun K C => ?_)
  have C : Cx G K "com/example/due_share/dueshare/UriReference" "scheme" prog_21_method_22_code 1 (some (.object "java/lang/String")) tables_1 := C
  generalize hQ : (fun v h' => v = some v1 ∧ h = h' : Option Value → Heap → Prop) = Q
  refine N.aloadN C (pc' := 1) d9_0 rfl rfl rfl ?_
  refine N.getF C (pc' := 4) d9_1 (C.w (i := 38) rfl) F_x_scheme rfl ?_
  exact N.retA C rfl r_v1 d9_4 (by decide) (by decide) (by subst hQ; exact ⟨rfl, rfl⟩)
set_option maxRecDepth 65536 in
set_option maxHeartbeats 40000000 in
theorem con11 (G : Gx) (hw : ∀ d ∈ tables_1, d.before G.a0 G.Z = true) (x : Addr) (v1 : Value) (h : Heap) (r_v1 : v1.isRef = true) (F_x_authority : Fld G.Z h x "com/example/due_share/dueshare/UriReference" "authority" "Lcom/example/due_share/dueshare/UriReference$Authority;" v1) :
    Con G (⟨"com/example/due_share/dueshare/UriReference", "authority", "()Lcom/example/due_share/dueshare/UriReference$Authority;"⟩ : MethodName) prog_21_method_23_code 1 (some (.object "com/example/due_share/dueshare/UriReference$Authority")) rm11 #[(.ref x)] h (fun v h' => v = some v1 ∧ h = h') := by
  refine Con.of (W := tables_1) (plainFor_of_name pn11) hw (fun mm => ef11 mm x) (fun K C => ?_)
  have C : Cx G K "com/example/due_share/dueshare/UriReference" "authority" prog_21_method_23_code 1 (some (.object "com/example/due_share/dueshare/UriReference$Authority")) tables_1 := C
  generalize hQ : (fun v h' => v = some v1 ∧ h = h' : Option Value → Heap → Prop) = Q
  refine N.aloadN C (pc' := 1) d11_0 rfl rfl rfl ?_
  refine N.getF C (pc' := 4) d11_1 (C.w (i := 40) rfl) F_x_authority rfl ?_
  exact N.retA C rfl r_v1 d11_4 (by decide) (by decide) (by subst hQ; exact ⟨rfl, rfl⟩)
set_option maxRecDepth 65536 in
set_option maxHeartbeats 40000000 in
theorem con12 (G : Gx) (hw : ∀ d ∈ tables_1, d.before G.a0 G.Z = true) (x : Addr) (v1 : Value) (h : Heap) (r_v1 : v1.isRef = true) (F_x_path : Fld G.Z h x "com/example/due_share/dueshare/UriReference" "path" "Ljava/lang/String;" v1) :
    Con G (⟨"com/example/due_share/dueshare/UriReference", "path", "()Ljava/lang/String;"⟩ : MethodName) prog_21_method_24_code 1 (some (.object "java/lang/String")) rm12 #[(.ref x)] h (fun v h' => v = some v1 ∧ h = h') := by
  refine Con.of (W := tables_1) (plainFor_of_name pn12) hw (fun mm => ef12 mm x) (fun K C => ?_)
  have C : Cx G K "com/example/due_share/dueshare/UriReference" "path" prog_21_method_24_code 1 (some (.object "java/lang/String")) tables_1 := C
  generalize hQ : (fun v h' => v = some v1 ∧ h = h' : Option Value → Heap → Prop) = Q
  refine N.aloadN C (pc' := 1) d12_0 rfl rfl rfl ?_
  refine N.getF C (pc' := 4) d12_1 (C.w (i := 42) rfl) F_x_path rfl ?_
  exact N.retA C rfl r_v1 d12_4 (by decide) (by decide) (by subst hQ; exact ⟨rfl, rfl⟩)
set_option maxRecDepth 65536 in
set_option maxHeartbeats 40000000 in
theorem con14 (G : Gx) (hw : ∀ d ∈ tables_1, d.before G.a0 G.Z = true) (x : Addr) (v1 : Value) (h : Heap) (r_v1 : v1.isRef = true) (F_x_query : Fld G.Z h x "com/example/due_share/dueshare/UriReference" "query" "Ljava/lang/String;" v1) :
    Con G (⟨"com/example/due_share/dueshare/UriReference", "query", "()Ljava/lang/String;"⟩ : MethodName) prog_21_method_25_code 1 (some (.object "java/lang/String")) rm14 #[(.ref x)] h (fun v h' => v = some v1 ∧ h = h') := by
  refine Con.of (W := tables_1) (plainFor_of_name pn14) hw (fun mm => ef14 mm x) (fun K C => ?_)
  have C : Cx G K "com/example/due_share/dueshare/UriReference" "query" prog_21_method_25_code 1 (some (.object "java/lang/String")) tables_1 := C
  generalize hQ : (fun v h' => v = some v1 ∧ h = h' : Option Value → Heap → Prop) = Q
  refine N.aloadN C (pc' := 1) d14_0 rfl rfl rfl ?_
  refine N.getF C (pc' := 4) d14_1 (C.w (i := 44) rfl) F_x_query rfl ?_
  exact N.retA C rfl r_v1 d14_4 (by decide) (by decide) (by subst hQ; exact ⟨rfl, rfl⟩)
set_option maxRecDepth 65536 in
set_option maxHeartbeats 40000000 in
theorem con13 (G : Gx) (hw : ∀ d ∈ tables_1, d.before G.a0 G.Z = true) (x : Addr) (h : Heap) :
    Con G (⟨"java/lang/String", "equals", "(Ljava/lang/Object;)Z"⟩ : MethodName) jdk_42_method_66_code 3 (some .boolean) rm13 #[(.ref x), (.ref x)] h (fun v h' => v = some (.int 1) ∧ h = h') := by
  refine Con.of (W := tables_1) (plainFor_of_name pn13) hw (fun mm => ef13 mm x x) (fun K C => ?_)
  have C : Cx G K "java/lang/String" "equals" jdk_42_method_66_code 3 (some .boolean) tables_1 := C
  generalize hQ : (fun v h' => v = some (.int 1) ∧ h = h' : Option Value → Heap → Prop) = Q
  refine N.aloadN C (pc' := 1) d13_0 rfl rfl rfl ?_
  refine N.aloadN C (pc' := 2) d13_1 rfl rfl rfl ?_
  refine N.acmp C (pc' := 5) true d13_2 rfl rfl (decide_eq_true rfl) (by decide) (by decide) ?_
  refine N.iconst C (pc' := 6) (z := 1) d13_5 rfl rfl ?_
  exact N.retN C (by simp) (z' := (1 : Int32)) rfl d13_6 (by decide) (by decide) (by subst hQ; exact ⟨rfl, rfl⟩)
set_option maxRecDepth 65536 in
set_option maxHeartbeats 40000000 in
theorem con10 (G : Gx) (hw : ∀ d ∈ tables_1, d.before G.a0 G.Z = true) (x : Addr) (h : Heap) (E_x : Exa G.Z h x "java/lang/String") :
    Con G (⟨"com/example/due_share/dueshare/UriReferenceWithoutFragmentPinLaw", "eq", "(Ljava/lang/String;Ljava/lang/String;)Z"⟩ : MethodName) method_4_code 2 (some .boolean) rm10 #[(.ref x), (.ref x)] h (fun v h' => v = some (.int 1) ∧ h = h') := by
  refine Con.of (W := tables_1) (plainFor_of_name pn10) hw (fun mm => ef10 mm x x) (fun K C => ?_)
  have C : Cx G K "com/example/due_share/dueshare/UriReferenceWithoutFragmentPinLaw" "eq" method_4_code 2 (some .boolean) tables_1 := C
  generalize hQ : (fun v h' => v = some (.int 1) ∧ h = h' : Option Value → Heap → Prop) = Q
  refine N.aloadN C (pc' := 1) d10_0 rfl rfl rfl ?_
  refine N.ifnonnull1 C (pc' := 16) d10_1 rfl ?_
  refine N.aloadN C (pc' := 17) d10_16 rfl rfl rfl ?_
  refine N.aloadN C (pc' := 18) d10_17 rfl rfl rfl ?_
  refine N.callV C (pc' := 21) x [(.ref x)] d10_18 (C.w (i := 78) rfl) (C.w (i := 79) rfl) (C.w (i := 81) rfl) (C.w (i := 80) rfl) (C.w (i := 6) rfl) (C.w (i := 82) rfl) (by decide) E_x (con13 G hw x h) (lenOf pd__Ljava_lang_Object__Z rfl) rfl (by decide) (show 0 + (3 + 11) + _ ≤ _ from by decide) (by decide) (by decide) (rest := []) rfl rfl ?_
  rintro _ h18_1 ⟨rfl, rfl⟩
  show N G K rm10 Q h 0 0 21 #[.val (.ref x), .val (.ref x)] [(.int (1 : Int32))]
  exact N.retN C (by simp) (z' := (1 : Int32)) rfl d10_21 (by decide) (by decide) (by subst hQ; exact ⟨rfl, rfl⟩)
set_option maxRecDepth 65536 in
set_option maxHeartbeats 40000000 in
theorem con10n (G : Gx) (hw : ∀ d ∈ tables_1, d.before G.a0 G.Z = true)  (h : Heap) :
    Con G (⟨"com/example/due_share/dueshare/UriReferenceWithoutFragmentPinLaw", "eq", "(Ljava/lang/String;Ljava/lang/String;)Z"⟩ : MethodName) method_4_code 2 (some .boolean) rm10 #[.null, .null] h (fun v h' => v = some (.int 1) ∧ h = h') := by
  refine Con.of (W := tables_1) (plainFor_of_name pn10) hw (fun mm => ef10n mm) (fun K C => ?_)
  have C : Cx G K "com/example/due_share/dueshare/UriReferenceWithoutFragmentPinLaw" "eq" method_4_code 2 (some .boolean) tables_1 := C
  generalize hQ : (fun v h' => v = some (.int 1) ∧ h = h' : Option Value → Heap → Prop) = Q
  refine N.aloadN C (pc' := 1) d10_0 rfl rfl rfl ?_
  refine N.ifnonnull0 C (pc' := 4) d10_1 rfl ?_
  refine N.aloadN C (pc' := 5) d10_4 rfl rfl rfl ?_
  refine N.ifnonnull0 C (pc' := 8) d10_5 rfl ?_
  refine N.iconst C (pc' := 9) (z := 1) d10_8 rfl rfl ?_
  refine N.goto C (pc' := 21) d10_9 rfl ?_
  exact N.retN C (by simp) (z' := (1 : Int32)) rfl d10_21 (by decide) (by decide) (by subst hQ; exact ⟨rfl, rfl⟩)
theorem conW (G : Gx) (hw : ∀ d ∈ tables_1, d.before G.a0 G.Z = true) (v : Value) (h : Heap) (E : okv G h v) : Con G (⟨"com/example/due_share/dueshare/UriReferenceWithoutFragmentPinLaw", "eq", "(Ljava/lang/String;Ljava/lang/String;)Z"⟩ : MethodName) method_4_code 2 (some .boolean) rm10 #[v, v] h (fun v h' => v = some (.int 1) ∧ h = h') := by
  rcases ref_cases E.1 with rfl | ⟨s, rfl⟩
  · exact con10n G hw h
  · exact con10 G hw s h (E.2 s rfl)
set_option maxRecDepth 65536 in
set_option maxHeartbeats 40000000 in
theorem con0 (G : Gx) (hw : ∀ d ∈ tables_1, d.before G.a0 G.Z = true) (p0 p1 p2 p3 p4 p5 : Int32) (cp : Int32) (h : Heap) (SS : Ss G cp) (O : Old G.Z G.n0 h) (Z0 : G.n0 ≤ h.size) :
    ConS G own_EL [] x code maxLocals ret room_1 #[(.int p0), (.int p1), (.int p2), (.int p3), (.int p4), (.int p5)] h (fun v _ => v = some (.int 1)) := by
  refine ConS.of (W := tables_1) (plainFor_of_name pn0) hw (own_ew hw) (fun mm => ef0 mm p0 p1 p2 p3 p4 p5) (fun K U C Sx => ?_)
  have C : Cx G K "com/example/due_share/dueshare/UriReferenceWithoutFragmentPinLaw" "law" code maxLocals ret tables_1 := C
  generalize hQ : (fun v _ => v = some (.int 1) : Option Value → Heap → Prop) = Q
  suffices j17 : ∀ (K : Kx) (h : Heap) (v6 : Value), Cx G K "com/example/due_share/dueshare/UriReferenceWithoutFragmentPinLaw" "law" code maxLocals ret tables_1 → SX G K own_EL U h [] → G.n0 ≤ h.size → Old G.Z G.n0 h → okv G h v6 → NS G K own_EL U room_1 Q h 6 18 17 #[.val (.int p0), .val (.int p1), .val (.int p2), .val (.int p3), .val (.int p4), .val (.int p5), .val v6, .unset, .unset, .unset, .unset, .unset, .unset, .unset] [] by
    refine N.iload C (pc' := 2) at_0 rfl rfl ?_
    refine N.iconst C (pc' := 3) (z := 1) at_2 rfl rfl ?_
    refine N.iand C (pc' := 4) at_3 rfl ?_
    refine N.ifc C (pt := 11) (pf := 7) at_4 rfl rfl (fun (hc4 : (p5 &&& (1 : Int32)) = (0 : Int32)) => ?_) (fun (hc4 : ¬ (p5 &&& (1 : Int32)) = (0 : Int32)) => ?_)
    · have hi4 : (p5 &&& (1 : Int32)).toInt = 0 := eqI hc4
      refine N.iloadN C (pc' := 12) at_11 rfl rfl ?_
      refine N.callSS C Sx (pc' := 15) [(.int p0)] at_12 (C.w (i := 0) rfl) (C.w (i := 1) rfl) (C.w (i := 2) rfl) (C.w (i := 3) rfl) (by decide) all0 (con1 G hw p0 cp h SS O Z0) (lenOf pd__I_Ljava_lang_String_ rfl) rfl (by decide) (show 0 + (4 + 11) + _ ≤ _ from by decide) (by decide) (by decide) (rest := []) rfl rfl ?_
      rintro K _ h12_1 C Sx ⟨s1, rfl, hzs1, KR1, E_s1⟩
      have O := O.keep KR1 all0
      have Z0 := Nat.le_trans Z0 KR1.1
      show NS G K own_EL U room_1 Q h12_1 (0 + 6) (0 + 18) 15 #[.val (.int p0), .val (.int p1), .val (.int p2), .val (.int p3), .val (.int p4), .val (.int p5), .unset, .unset, .unset, .unset, .unset, .unset, .unset, .unset] [(.ref s1)]
      refine N.astore C (pc' := 17) (ls' := #[.val (.int p0), .val (.int p1), .val (.int p2), .val (.int p3), .val (.int p4), .val (.int p5), .val (.ref s1), .unset, .unset, .unset, .unset, .unset, .unset, .unset]) at_15 rfl rfl rfl ?_
      exact N.more (j17 K _ _ C (Sx.drop nofun) Z0 O (okv.str E_s1)) (by decide) (by decide)
    · have hi4 : ¬ (p5 &&& (1 : Int32)).toInt = 0 := neI hc4
      refine N.aconst_null C (pc' := 8) at_7 rfl ?_
      refine N.goto C (pc' := 15) at_8 rfl ?_
      refine N.astore C (pc' := 17) (ls' := #[.val (.int p0), .val (.int p1), .val (.int p2), .val (.int p3), .val (.int p4), .val (.int p5), .val .null, .unset, .unset, .unset, .unset, .unset, .unset, .unset]) at_15 rfl rfl rfl ?_
      exact N.more (j17 K _ _ C (Sx.drop nofun) Z0 O okv.null) (by decide) (by decide)
  intro K h v6 C Sx Z0 O E_v6
  have r_v6 := E_v6.1
  suffices j38 : ∀ (K : Kx) (h : Heap) (v7 : Value), Cx G K "com/example/due_share/dueshare/UriReferenceWithoutFragmentPinLaw" "law" code maxLocals ret tables_1 → SX G K own_EL U h [] → G.n0 ≤ h.size → Old G.Z G.n0 h → okv G h v6 → okv G h v7 → NS G K own_EL U room_1 Q h 12 36 38 #[.val (.int p0), .val (.int p1), .val (.int p2), .val (.int p3), .val (.int p4), .val (.int p5), .val v6, .val v7, .unset, .unset, .unset, .unset, .unset, .unset] [] by
    refine N.iload C (pc' := 19) at_17 rfl rfl ?_
    refine N.bipush C (pc' := 21) (z := 16) at_19 rfl rfl ?_
    refine N.iand C (pc' := 22) at_21 rfl ?_
    refine N.ifc C (pt := 29) (pf := 25) at_22 rfl rfl (fun (hc22 : (p5 &&& (16 : Int32)) = (0 : Int32)) => ?_) (fun (hc22 : ¬ (p5 &&& (16 : Int32)) = (0 : Int32)) => ?_)
    · have hi22 : (p5 &&& (16 : Int32)).toInt = 0 := eqI hc22
      refine N.iloadN C (pc' := 30) at_29 rfl rfl ?_
      refine N.iload C (pc' := 32) at_30 rfl rfl ?_
      refine N.ixor C (pc' := 33) at_32 rfl ?_
      refine N.callSS C Sx (pc' := 36) [(.int (p1 ^^^ p4))] at_33 (C.w (i := 0) rfl) (C.w (i := 1) rfl) (C.w (i := 2) rfl) (C.w (i := 3) rfl) (by decide) all0 (con1 G hw (p1 ^^^ p4) cp h SS O Z0) (lenOf pd__I_Ljava_lang_String_ rfl) rfl (by decide) (show 0 + (4 + 11) + _ ≤ _ from by decide) (by decide) (by decide) (rest := []) rfl rfl ?_
      rintro K _ h33_2 C Sx ⟨s2, rfl, hzs2, KR2, E_s2⟩
      have O := O.keep KR2 all0
      have Z0 := Nat.le_trans Z0 KR2.1
      have E_v6 := E_v6.keep KR2
      show NS G K own_EL U room_1 Q h33_2 (6 + 6) (18 + 18) 36 #[.val (.int p0), .val (.int p1), .val (.int p2), .val (.int p3), .val (.int p4), .val (.int p5), .val v6, .unset, .unset, .unset, .unset, .unset, .unset, .unset] [(.ref s2)]
      refine N.astore C (pc' := 38) (ls' := #[.val (.int p0), .val (.int p1), .val (.int p2), .val (.int p3), .val (.int p4), .val (.int p5), .val v6, .val (.ref s2), .unset, .unset, .unset, .unset, .unset, .unset]) at_36 rfl rfl rfl ?_
      exact N.more (j38 K _ _ C (Sx.drop nofun) Z0 O E_v6 (okv.str E_s2)) (by decide) (by decide)
    · have hi22 : ¬ (p5 &&& (16 : Int32)).toInt = 0 := neI hc22
      refine N.aconst_null C (pc' := 26) at_25 rfl ?_
      refine N.goto C (pc' := 36) at_26 rfl ?_
      refine N.astore C (pc' := 38) (ls' := #[.val (.int p0), .val (.int p1), .val (.int p2), .val (.int p3), .val (.int p4), .val (.int p5), .val v6, .val .null, .unset, .unset, .unset, .unset, .unset, .unset]) at_36 rfl rfl rfl ?_
      exact N.more (j38 K _ _ C (Sx.drop nofun) Z0 O E_v6 okv.null) (by decide) (by decide)
  intro K h v7 C Sx Z0 O E_v6 E_v7
  have r_v7 := E_v7.1
  suffices j66 : ∀ (K : Kx) (h : Heap) (v8 : Value), Cx G K "com/example/due_share/dueshare/UriReferenceWithoutFragmentPinLaw" "law" code maxLocals ret tables_1 → SX G K own_EL U h [] → G.n0 ≤ h.size → Old G.Z G.n0 h → okv G h v6 → v8.isRef = true → NS G K own_EL U room_1 Q h 19 57 66 #[.val (.int p0), .val (.int p1), .val (.int p2), .val (.int p3), .val (.int p4), .val (.int p5), .val v6, .val v7, .val v8, .unset, .unset, .unset, .unset, .unset] [] by
    refine N.iload C (pc' := 40) at_38 rfl rfl ?_
    refine N.iconst C (pc' := 41) (z := 2) at_40 rfl rfl ?_
    refine N.iand C (pc' := 42) at_41 rfl ?_
    refine N.ifc C (pt := 49) (pf := 45) at_42 rfl rfl (fun (hc42 : (p5 &&& (2 : Int32)) = (0 : Int32)) => ?_) (fun (hc42 : ¬ (p5 &&& (2 : Int32)) = (0 : Int32)) => ?_)
    · have hi42 : (p5 &&& (2 : Int32)).toInt = 0 := eqI hc42
      rcases ref_cases r_v7 with rfl | ⟨z7, rfl⟩
      · skip
        refine N.newO C (pc' := 52) at_49 (C.w (i := 88) rfl) (C.w (i := 89) rfl) (C.w (i := 90) rfl) (by decide) (by decide) rfl (fun h49_3 au hx_au Ex49 E_au D_au => ?_)
        have g_au : G.n0 ≤ au := by rw [hx_au]; exact Z0
        have Z0 := Nat.le_trans Z0 Ex49.1
        have O := O.ext Ex49
        have E_v6 := E_v6.ext Ex49
        have Sx := Sx.born Ex49 hx_au E_au.lt
        have F_au_userInfo : Fld G.Z h49_3 au "com/example/due_share/dueshare/UriReference$Authority" "userInfo" "Ljava/lang/String;" .null := D_au (Or.inr (C.w (i := 96) rfl)) (ty := (.object "java/lang/String")) (by decide)
        have F_au_host : Fld G.Z h49_3 au "com/example/due_share/dueshare/UriReference$Authority" "host" "Ljava/lang/String;" .null := D_au (Or.inr (C.w (i := 98) rfl)) (ty := (.object "java/lang/String")) (by decide)
        have F_au_port : Fld G.Z h49_3 au "com/example/due_share/dueshare/UriReference$Authority" "port" "I" (.int (0 : Int32)) := D_au (Or.inr (C.w (i := 100) rfl)) (ty := .int) (by decide)
        refine N.dup C (pc' := 53) at_52 rfl rfl ?_
        refine N.aload C (pc' := 55) at_53 rfl rfl rfl ?_
        refine N.iloadN C (pc' := 56) at_55 rfl rfl ?_
        refine N.callSS C Sx (pc' := 59) [(.int p1)] at_56 (C.w (i := 0) rfl) (C.w (i := 1) rfl) (C.w (i := 2) rfl) (C.w (i := 3) rfl) (by decide) all0 (con1 G hw p1 cp h49_3 SS O Z0) (lenOf pd__I_Ljava_lang_String_ rfl) rfl (by decide) (show 3 + (4 + 11) + _ ≤ _ from by decide) (by decide) (by decide) (rest := [.null, (.ref au), (.ref au)]) rfl rfl ?_
        rintro K _ h56_4 C Sx ⟨s3, rfl, hzs3, KR3, E_s3⟩
        have O := O.keep KR3 all0
        have Z0 := Nat.le_trans Z0 KR3.1
        have F_au_userInfo := F_au_userInfo.keep KR3 nin0
        have F_au_host := F_au_host.keep KR3 nin0
        have F_au_port := F_au_port.keep KR3 nin0
        have E_v6 := E_v6.keep KR3
        have E_au := E_au.keep KR3
        show NS G K own_EL U room_1 Q h56_4 ((12 + 1) + 6) ((36 + 3) + 18) 59 #[.val (.int p0), .val (.int p1), .val (.int p2), .val (.int p3), .val (.int p4), .val (.int p5), .val v6, .val .null, .unset, .unset, .unset, .unset, .unset, .unset] [(.ref s3), .null, (.ref au), (.ref au)]
        refine N.iload C (pc' := 61) at_59 rfl rfl ?_
        refine N.callI C (pc' := 64) au [.null, (.ref s3), (.int p5)] at_61 rfl (C.w (i := 91) rfl) (C.w (i := 92) rfl) (C.w (i := 90) rfl) (C.w (i := 93) rfl) (by decide) (con15 G hw au s3 .null p5 h56_4 rfl Z0 g_au E_au F_au_userInfo F_au_host F_au_port) (lenOf pd__Ljava_lang_String_Ljava_lang_String_I_V rfl) rfl (by decide) (show 1 + (4 + 11) + _ ≤ _ from by decide) (by decide) (by decide) (rest := [(.ref au)]) rfl rfl ?_
        rintro _ h61_5 ⟨rfl, KpA⟩
        have Sx := Sx.keep KpA (allS (List.mem_of_getElem? (i := 0) rfl) all0)
        have O := O.keep KpA (allS g_au all0)
        have Z0 := Nat.le_trans Z0 KpA.1
        have E_v6 := E_v6.keep KpA
        have E_au := E_au.keep KpA
        have E_s3 := E_s3.keep KpA
        show NS G K own_EL U room_1 Q h61_5 ((12 + 1) + 6) ((36 + 3) + 18) 64 #[.val (.int p0), .val (.int p1), .val (.int p2), .val (.int p3), .val (.int p4), .val (.int p5), .val v6, .val .null, .unset, .unset, .unset, .unset, .unset, .unset] [(.ref au)]
        refine N.astore C (pc' := 66) (ls' := #[.val (.int p0), .val (.int p1), .val (.int p2), .val (.int p3), .val (.int p4), .val (.int p5), .val v6, .val .null, .val (.ref au), .unset, .unset, .unset, .unset, .unset]) at_64 rfl rfl rfl ?_
        exact N.more (j66 K _ _ C (Sx.drop nofun) Z0 O E_v6 rfl) (by decide) (by decide)
      · skip
        refine N.newO C (pc' := 52) at_49 (C.w (i := 88) rfl) (C.w (i := 89) rfl) (C.w (i := 90) rfl) (by decide) (by decide) rfl (fun h49_6 au hx_au Ex49 E_au D_au => ?_)
        have g_au : G.n0 ≤ au := by rw [hx_au]; exact Z0
        have Z0 := Nat.le_trans Z0 Ex49.1
        have O := O.ext Ex49
        have E_v6 := E_v6.ext Ex49
        have Sx := Sx.born Ex49 hx_au E_au.lt
        have F_au_userInfo : Fld G.Z h49_6 au "com/example/due_share/dueshare/UriReference$Authority" "userInfo" "Ljava/lang/String;" .null := D_au (Or.inr (C.w (i := 96) rfl)) (ty := (.object "java/lang/String")) (by decide)
        have F_au_host : Fld G.Z h49_6 au "com/example/due_share/dueshare/UriReference$Authority" "host" "Ljava/lang/String;" .null := D_au (Or.inr (C.w (i := 98) rfl)) (ty := (.object "java/lang/String")) (by decide)
        have F_au_port : Fld G.Z h49_6 au "com/example/due_share/dueshare/UriReference$Authority" "port" "I" (.int (0 : Int32)) := D_au (Or.inr (C.w (i := 100) rfl)) (ty := .int) (by decide)
        refine N.dup C (pc' := 53) at_52 rfl rfl ?_
        refine N.aload C (pc' := 55) at_53 rfl rfl rfl ?_
        refine N.iloadN C (pc' := 56) at_55 rfl rfl ?_
        refine N.callSS C Sx (pc' := 59) [(.int p1)] at_56 (C.w (i := 0) rfl) (C.w (i := 1) rfl) (C.w (i := 2) rfl) (C.w (i := 3) rfl) (by decide) all0 (con1 G hw p1 cp h49_6 SS O Z0) (lenOf pd__I_Ljava_lang_String_ rfl) rfl (by decide) (show 3 + (4 + 11) + _ ≤ _ from by decide) (by decide) (by decide) (rest := [(.ref z7), (.ref au), (.ref au)]) rfl rfl ?_
        rintro K _ h56_7 C Sx ⟨s4, rfl, hzs4, KR4, E_s4⟩
        have O := O.keep KR4 all0
        have Z0 := Nat.le_trans Z0 KR4.1
        have F_au_userInfo := F_au_userInfo.keep KR4 nin0
        have F_au_host := F_au_host.keep KR4 nin0
        have F_au_port := F_au_port.keep KR4 nin0
        have E_v6 := E_v6.keep KR4
        have E_au := E_au.keep KR4
        show NS G K own_EL U room_1 Q h56_7 ((12 + 1) + 6) ((36 + 3) + 18) 59 #[.val (.int p0), .val (.int p1), .val (.int p2), .val (.int p3), .val (.int p4), .val (.int p5), .val v6, .val (.ref z7), .unset, .unset, .unset, .unset, .unset, .unset] [(.ref s4), (.ref z7), (.ref au), (.ref au)]
        refine N.iload C (pc' := 61) at_59 rfl rfl ?_
        refine N.callI C (pc' := 64) au [(.ref z7), (.ref s4), (.int p5)] at_61 rfl (C.w (i := 91) rfl) (C.w (i := 92) rfl) (C.w (i := 90) rfl) (C.w (i := 93) rfl) (by decide) (con15 G hw au s4 (.ref z7) p5 h56_7 rfl Z0 g_au E_au F_au_userInfo F_au_host F_au_port) (lenOf pd__Ljava_lang_String_Ljava_lang_String_I_V rfl) rfl (by decide) (show 1 + (4 + 11) + _ ≤ _ from by decide) (by decide) (by decide) (rest := [(.ref au)]) rfl rfl ?_
        rintro _ h61_8 ⟨rfl, KpA⟩
        have Sx := Sx.keep KpA (allS (List.mem_of_getElem? (i := 0) rfl) all0)
        have O := O.keep KpA (allS g_au all0)
        have Z0 := Nat.le_trans Z0 KpA.1
        have E_v6 := E_v6.keep KpA
        have E_au := E_au.keep KpA
        have E_s4 := E_s4.keep KpA
        show NS G K own_EL U room_1 Q h61_8 ((12 + 1) + 6) ((36 + 3) + 18) 64 #[.val (.int p0), .val (.int p1), .val (.int p2), .val (.int p3), .val (.int p4), .val (.int p5), .val v6, .val (.ref z7), .unset, .unset, .unset, .unset, .unset, .unset] [(.ref au)]
        refine N.astore C (pc' := 66) (ls' := #[.val (.int p0), .val (.int p1), .val (.int p2), .val (.int p3), .val (.int p4), .val (.int p5), .val v6, .val (.ref z7), .val (.ref au), .unset, .unset, .unset, .unset, .unset]) at_64 rfl rfl rfl ?_
        exact N.more (j66 K _ _ C (Sx.drop nofun) Z0 O E_v6 rfl) (by decide) (by decide)
    · have hi42 : ¬ (p5 &&& (2 : Int32)).toInt = 0 := neI hc42
      refine N.aconst_null C (pc' := 46) at_45 rfl ?_
      refine N.goto C (pc' := 64) at_46 rfl ?_
      refine N.astore C (pc' := 66) (ls' := #[.val (.int p0), .val (.int p1), .val (.int p2), .val (.int p3), .val (.int p4), .val (.int p5), .val v6, .val v7, .val .null, .unset, .unset, .unset, .unset, .unset]) at_64 rfl rfl rfl ?_
      exact N.more (j66 K _ _ C (Sx.drop nofun) Z0 O E_v6 rfl) (by decide) (by decide)
  intro K h v8 C Sx Z0 O E_v6 r_v8
  refine N.iloadN C (pc' := 67) at_66 rfl rfl ?_
  refine N.callSS C Sx (pc' := 70) [(.int p2)] at_67 (C.w (i := 0) rfl) (C.w (i := 1) rfl) (C.w (i := 2) rfl) (C.w (i := 3) rfl) (by decide) all0 (con1 G hw p2 cp h SS O Z0) (lenOf pd__I_Ljava_lang_String_ rfl) rfl (by decide) (show 0 + (4 + 11) + _ ≤ _ from by decide) (by decide) (by decide) (rest := []) rfl rfl ?_
  rintro K _ h67_9 C Sx ⟨s5, rfl, hzs5, KR5, E_s5⟩
  have O := O.keep KR5 all0
  have Z0 := Nat.le_trans Z0 KR5.1
  have E_v6 := E_v6.keep KR5
  show NS G K own_EL U room_1 Q h67_9 (19 + 6) (57 + 18) 70 #[.val (.int p0), .val (.int p1), .val (.int p2), .val (.int p3), .val (.int p4), .val (.int p5), .val v6, .val v7, .val v8, .unset, .unset, .unset, .unset, .unset] [(.ref s5)]
  refine N.astore C (pc' := 72) (ls' := #[.val (.int p0), .val (.int p1), .val (.int p2), .val (.int p3), .val (.int p4), .val (.int p5), .val v6, .val v7, .val v8, .val (.ref s5), .unset, .unset, .unset, .unset]) at_70 rfl rfl rfl ?_
  suffices j89 : ∀ (K : Kx) (h : Heap) (v10 : Value), Cx G K "com/example/due_share/dueshare/UriReferenceWithoutFragmentPinLaw" "law" code maxLocals ret tables_1 → SX G K own_EL U h [] → G.n0 ≤ h.size → Old G.Z G.n0 h → okv G h v6 → Exa G.Z h s5 "java/lang/String" → okv G h v10 → NS G K own_EL U room_1 Q h 31 93 89 #[.val (.int p0), .val (.int p1), .val (.int p2), .val (.int p3), .val (.int p4), .val (.int p5), .val v6, .val v7, .val v8, .val (.ref s5), .val v10, .unset, .unset, .unset] [] by
    refine N.iload C (pc' := 74) at_72 rfl rfl ?_
    refine N.iconst C (pc' := 75) (z := 4) at_74 rfl rfl ?_
    refine N.iand C (pc' := 76) at_75 rfl ?_
    refine N.ifc C (pt := 83) (pf := 79) at_76 rfl rfl (fun (hc76 : (p5 &&& (4 : Int32)) = (0 : Int32)) => ?_) (fun (hc76 : ¬ (p5 &&& (4 : Int32)) = (0 : Int32)) => ?_)
    · have hi76 : (p5 &&& (4 : Int32)).toInt = 0 := eqI hc76
      refine N.iloadN C (pc' := 84) at_83 rfl rfl ?_
      refine N.callSS C Sx (pc' := 87) [(.int p3)] at_84 (C.w (i := 0) rfl) (C.w (i := 1) rfl) (C.w (i := 2) rfl) (C.w (i := 3) rfl) (by decide) all0 (con1 G hw p3 cp h67_9 SS O Z0) (lenOf pd__I_Ljava_lang_String_ rfl) rfl (by decide) (show 0 + (4 + 11) + _ ≤ _ from by decide) (by decide) (by decide) (rest := []) rfl rfl ?_
      rintro K _ h84_10 C Sx ⟨s6, rfl, hzs6, KR6, E_s6⟩
      have O := O.keep KR6 all0
      have Z0 := Nat.le_trans Z0 KR6.1
      have E_v6 := E_v6.keep KR6
      have E_s5 := E_s5.keep KR6
      show NS G K own_EL U room_1 Q h84_10 ((19 + 6) + 6) ((57 + 18) + 18) 87 #[.val (.int p0), .val (.int p1), .val (.int p2), .val (.int p3), .val (.int p4), .val (.int p5), .val v6, .val v7, .val v8, .val (.ref s5), .unset, .unset, .unset, .unset] [(.ref s6)]
      refine N.astore C (pc' := 89) (ls' := #[.val (.int p0), .val (.int p1), .val (.int p2), .val (.int p3), .val (.int p4), .val (.int p5), .val v6, .val v7, .val v8, .val (.ref s5), .val (.ref s6), .unset, .unset, .unset]) at_87 rfl rfl rfl ?_
      exact N.more (j89 K _ _ C (Sx.drop nofun) Z0 O E_v6 E_s5 (okv.str E_s6)) (by decide) (by decide)
    · have hi76 : ¬ (p5 &&& (4 : Int32)).toInt = 0 := neI hc76
      refine N.aconst_null C (pc' := 80) at_79 rfl ?_
      refine N.goto C (pc' := 87) at_80 rfl ?_
      refine N.astore C (pc' := 89) (ls' := #[.val (.int p0), .val (.int p1), .val (.int p2), .val (.int p3), .val (.int p4), .val (.int p5), .val v6, .val v7, .val v8, .val (.ref s5), .val .null, .unset, .unset, .unset]) at_87 rfl rfl rfl ?_
      exact N.more (j89 K _ _ C (Sx.drop nofun) Z0 O E_v6 E_s5 okv.null) (by decide) (by decide)
  intro K h v10 C Sx Z0 O E_v6 E_s5 E_v10
  have r_v10 := E_v10.1
  suffices j108 : ∀ (K : Kx) (h : Heap) (v11 : Value), Cx G K "com/example/due_share/dueshare/UriReferenceWithoutFragmentPinLaw" "law" code maxLocals ret tables_1 → SX G K own_EL U h [] → G.n0 ≤ h.size → Old G.Z G.n0 h → okv G h v6 → Exa G.Z h s5 "java/lang/String" → okv G h v10 → okv G h v11 → NS G K own_EL U room_1 Q h 37 111 108 #[.val (.int p0), .val (.int p1), .val (.int p2), .val (.int p3), .val (.int p4), .val (.int p5), .val v6, .val v7, .val v8, .val (.ref s5), .val v10, .val v11, .unset, .unset] [] by
    refine N.iload C (pc' := 91) at_89 rfl rfl ?_
    refine N.bipush C (pc' := 93) (z := 8) at_91 rfl rfl ?_
    refine N.iand C (pc' := 94) at_93 rfl ?_
    refine N.ifc C (pt := 101) (pf := 97) at_94 rfl rfl (fun (hc94 : (p5 &&& (8 : Int32)) = (0 : Int32)) => ?_) (fun (hc94 : ¬ (p5 &&& (8 : Int32)) = (0 : Int32)) => ?_)
    · have hi94 : (p5 &&& (8 : Int32)).toInt = 0 := eqI hc94
      refine N.iload C (pc' := 103) at_101 rfl rfl ?_
      refine N.callSS C Sx (pc' := 106) [(.int p4)] at_103 (C.w (i := 0) rfl) (C.w (i := 1) rfl) (C.w (i := 2) rfl) (C.w (i := 3) rfl) (by decide) all0 (con1 G hw p4 cp h SS O Z0) (lenOf pd__I_Ljava_lang_String_ rfl) rfl (by decide) (show 0 + (4 + 11) + _ ≤ _ from by decide) (by decide) (by decide) (rest := []) rfl rfl ?_
      rintro K _ h103_11 C Sx ⟨s7, rfl, hzs7, KR7, E_s7⟩
      have O := O.keep KR7 all0
      have Z0 := Nat.le_trans Z0 KR7.1
      have E_v6 := E_v6.keep KR7
      have E_s5 := E_s5.keep KR7
      have E_v10 := E_v10.keep KR7
      show NS G K own_EL U room_1 Q h103_11 (31 + 6) (93 + 18) 106 #[.val (.int p0), .val (.int p1), .val (.int p2), .val (.int p3), .val (.int p4), .val (.int p5), .val v6, .val v7, .val v8, .val (.ref s5), .val v10, .unset, .unset, .unset] [(.ref s7)]
      refine N.astore C (pc' := 108) (ls' := #[.val (.int p0), .val (.int p1), .val (.int p2), .val (.int p3), .val (.int p4), .val (.int p5), .val v6, .val v7, .val v8, .val (.ref s5), .val v10, .val (.ref s7), .unset, .unset]) at_106 rfl rfl rfl ?_
      exact N.more (j108 K _ _ C (Sx.drop nofun) Z0 O E_v6 E_s5 E_v10 (okv.str E_s7)) (by decide) (by decide)
    · have hi94 : ¬ (p5 &&& (8 : Int32)).toInt = 0 := neI hc94
      refine N.aconst_null C (pc' := 98) at_97 rfl ?_
      refine N.goto C (pc' := 106) at_98 rfl ?_
      refine N.astore C (pc' := 108) (ls' := #[.val (.int p0), .val (.int p1), .val (.int p2), .val (.int p3), .val (.int p4), .val (.int p5), .val v6, .val v7, .val v8, .val (.ref s5), .val v10, .val .null, .unset, .unset]) at_106 rfl rfl rfl ?_
      exact N.more (j108 K _ _ C (Sx.drop nofun) Z0 O E_v6 E_s5 E_v10 okv.null) (by decide) (by decide)
  intro K h v11 C Sx Z0 O E_v6 E_s5 E_v10 E_v11
  have r_v11 := E_v11.1
  refine N.newO C (pc' := 111) at_108 (C.w (i := 26) rfl) (C.w (i := 27) rfl) (C.w (i := 28) rfl) (by decide) (by decide) rfl (fun h108_12 x hx_x Ex108 E_x D_x => ?_)
  have g_x : G.n0 ≤ x := by rw [hx_x]; exact Z0
  have Z0 := Nat.le_trans Z0 Ex108.1
  have O := O.ext Ex108
  have E_v6 := E_v6.ext Ex108
  have E_s5 := E_s5.ext Ex108
  have E_v10 := E_v10.ext Ex108
  have E_v11 := E_v11.ext Ex108
  have Sx := Sx.born Ex108 hx_x E_x.lt
  have F_x_scheme : Fld G.Z h108_12 x "com/example/due_share/dueshare/UriReference" "scheme" "Ljava/lang/String;" .null := D_x (Or.inr (C.w (i := 39) rfl)) (ty := (.object "java/lang/String")) (by decide)
  have F_x_authority : Fld G.Z h108_12 x "com/example/due_share/dueshare/UriReference" "authority" "Lcom/example/due_share/dueshare/UriReference$Authority;" .null := D_x (Or.inr (C.w (i := 41) rfl)) (ty := (.object "com/example/due_share/dueshare/UriReference$Authority")) (by decide)
  have F_x_path : Fld G.Z h108_12 x "com/example/due_share/dueshare/UriReference" "path" "Ljava/lang/String;" .null := D_x (Or.inr (C.w (i := 43) rfl)) (ty := (.object "java/lang/String")) (by decide)
  have F_x_query : Fld G.Z h108_12 x "com/example/due_share/dueshare/UriReference" "query" "Ljava/lang/String;" .null := D_x (Or.inr (C.w (i := 45) rfl)) (ty := (.object "java/lang/String")) (by decide)
  have F_x_fragment : Fld G.Z h108_12 x "com/example/due_share/dueshare/UriReference" "fragment" "Ljava/lang/String;" .null := D_x (Or.inr (C.w (i := 47) rfl)) (ty := (.object "java/lang/String")) (by decide)
  refine N.dup C (pc' := 112) at_111 rfl rfl ?_
  refine N.aload C (pc' := 114) at_112 rfl r_v6 rfl ?_
  refine N.aload C (pc' := 116) at_114 rfl r_v8 rfl ?_
  refine N.aload C (pc' := 118) at_116 rfl rfl rfl ?_
  refine N.aload C (pc' := 120) at_118 rfl r_v10 rfl ?_
  refine N.aload C (pc' := 122) at_120 rfl r_v11 rfl ?_
  refine N.callI C (pc' := 125) x [v6, v8, (.ref s5), v10, v11] at_122 rfl (C.w (i := 29) rfl) (C.w (i := 30) rfl) (C.w (i := 28) rfl) (C.w (i := 31) rfl) (by decide) (con5 G hw x v6 v8 (.ref s5) v10 v11 h108_12 r_v6 r_v8 rfl r_v10 r_v11 Z0 g_x E_x F_x_scheme F_x_authority F_x_path F_x_query F_x_fragment) (lenOf pd__Ljava_lang_String_Lcom_example_due_share_dueshare_UriReference_Authority_Ljava_lang_String_Ljava_lang_String_Ljava_lang_String__V rfl) rfl (by decide) (show 1 + (6 + 11) + _ ≤ _ from by decide) (by decide) (by decide) (rest := [(.ref x)]) rfl rfl ?_
  rintro _ h122_13 ⟨rfl, KpU, FU_scheme, FU_authority, FU_path, FU_query, FU_fragment⟩
  have Sx := Sx.keep KpU (allS (List.mem_of_getElem? (i := 0) rfl) all0)
  have O := O.keep KpU (allS g_x all0)
  have Z0 := Nat.le_trans Z0 KpU.1
  have E_v6 := E_v6.keep KpU
  have E_s5 := E_s5.keep KpU
  have E_v10 := E_v10.keep KpU
  have E_v11 := E_v11.keep KpU
  have E_x := E_x.keep KpU
  have F_x_scheme := FU_scheme
  have F_x_authority := FU_authority
  have F_x_path := FU_path
  have F_x_query := FU_query
  have F_x_fragment := FU_fragment
  show NS G K own_EL U room_1 Q h122_13 (37 + 1) (111 + 5) 125 #[.val (.int p0), .val (.int p1), .val (.int p2), .val (.int p3), .val (.int p4), .val (.int p5), .val v6, .val v7, .val v8, .val (.ref s5), .val v10, .val v11, .unset, .unset] [(.ref x)]
  refine N.astore C (pc' := 127) (ls' := #[.val (.int p0), .val (.int p1), .val (.int p2), .val (.int p3), .val (.int p4), .val (.int p5), .val v6, .val v7, .val v8, .val (.ref s5), .val v10, .val v11, .val (.ref x), .unset]) at_125 rfl rfl rfl ?_
  refine N.aload C (pc' := 129) at_127 rfl rfl rfl ?_
  refine N.callV C (pc' := 132) x [] at_129 (C.w (i := 48) rfl) (C.w (i := 49) rfl) (C.w (i := 51) rfl) (C.w (i := 50) rfl) (C.w (i := 28) rfl) (C.w (i := 52) rfl) (by decide) E_x (con7 G hw x v6 v8 (.ref s5) v10 v11 h122_13 r_v6 r_v8 rfl r_v10 r_v11 Z0 E_x F_x_scheme F_x_authority F_x_path F_x_query F_x_fragment) (lenOf pd___Lcom_example_due_share_dueshare_UriReference_ rfl) rfl (by decide) (show 0 + (1 + 11) + _ ≤ _ from by decide) (by decide) (by decide) (rest := []) rfl rfl ?_
  rintro _ h129_14 ⟨y, rfl, hy, KpW, E_y, F_y_scheme, F_y_authority, F_y_path, F_y_query, F_y_fragment⟩
  have Sx := Sx.keep KpW all0
  have O := O.keep KpW all0
  have Z0 := Nat.le_trans Z0 KpW.1
  have F_x_scheme := F_x_scheme.keep KpW nin0
  have F_x_authority := F_x_authority.keep KpW nin0
  have F_x_path := F_x_path.keep KpW nin0
  have F_x_query := F_x_query.keep KpW nin0
  have F_x_fragment := F_x_fragment.keep KpW nin0
  have E_v6 := E_v6.keep KpW
  have E_s5 := E_s5.keep KpW
  have E_v10 := E_v10.keep KpW
  have E_v11 := E_v11.keep KpW
  have E_x := E_x.keep KpW
  show NS G K own_EL U room_1 Q h129_14 ((37 + 1) + 1) ((111 + 5) + 5) 132 #[.val (.int p0), .val (.int p1), .val (.int p2), .val (.int p3), .val (.int p4), .val (.int p5), .val v6, .val v7, .val v8, .val (.ref s5), .val v10, .val v11, .val (.ref x), .unset] [(.ref y)]
  refine N.astore C (pc' := 134) (ls' := #[.val (.int p0), .val (.int p1), .val (.int p2), .val (.int p3), .val (.int p4), .val (.int p5), .val v6, .val v7, .val v8, .val (.ref s5), .val v10, .val v11, .val (.ref x), .val (.ref y)]) at_132 rfl rfl rfl ?_
  refine N.aload C (pc' := 136) at_134 rfl rfl rfl ?_
  refine N.ifnonnull1 C (pc' := 141) at_136 rfl ?_
  refine N.aload C (pc' := 143) at_141 rfl rfl rfl ?_
  refine N.callV C (pc' := 146) y [] at_143 (C.w (i := 55) rfl) (C.w (i := 56) rfl) (C.w (i := 58) rfl) (C.w (i := 57) rfl) (C.w (i := 28) rfl) (C.w (i := 59) rfl) (by decide) E_y (con8 G hw y .null h129_14 rfl F_y_fragment) (lenOf pd___Ljava_lang_String_ rfl) rfl (by decide) (show 0 + (1 + 11) + _ ≤ _ from by decide) (by decide) (by decide) (rest := []) rfl rfl ?_
  rintro _ h143_15 ⟨rfl, rfl⟩
  show NS G K own_EL U room_1 Q h129_14 ((37 + 1) + 1) ((111 + 5) + 5) 146 #[.val (.int p0), .val (.int p1), .val (.int p2), .val (.int p3), .val (.int p4), .val (.int p5), .val v6, .val v7, .val v8, .val (.ref s5), .val v10, .val v11, .val (.ref x), .val (.ref y)] [.null]
  refine N.ifnonnull0 C (pc' := 149) at_146 rfl ?_
  refine N.aload C (pc' := 151) at_149 rfl rfl rfl ?_
  refine N.callV C (pc' := 154) y [] at_151 (C.w (i := 60) rfl) (C.w (i := 61) rfl) (C.w (i := 63) rfl) (C.w (i := 62) rfl) (C.w (i := 28) rfl) (C.w (i := 64) rfl) (by decide) E_y (con9 G hw y v6 h129_14 r_v6 F_y_scheme) (lenOf pd___Ljava_lang_String_ rfl) rfl (by decide) (show 0 + (1 + 11) + _ ≤ _ from by decide) (by decide) (by decide) (rest := []) rfl rfl ?_
  rintro _ h151_16 ⟨rfl, rfl⟩
  show NS G K own_EL U room_1 Q h129_14 ((37 + 1) + 1) ((111 + 5) + 5) 154 #[.val (.int p0), .val (.int p1), .val (.int p2), .val (.int p3), .val (.int p4), .val (.int p5), .val v6, .val v7, .val v8, .val (.ref s5), .val v10, .val v11, .val (.ref x), .val (.ref y)] [v6]
  refine N.aload C (pc' := 156) at_154 rfl r_v6 rfl ?_
  refine N.callS C (pc' := 159) [v6, v6] at_156 (C.w (i := 65) rfl) (C.w (i := 66) rfl) (C.w (i := 2) rfl) (C.w (i := 67) rfl) (by decide) (conW G hw v6 h129_14 E_v6) (lenOf pd__Ljava_lang_String_Ljava_lang_String__Z rfl) rfl (by decide) (show 0 + (2 + 11) + _ ≤ _ from by decide) (by decide) (by decide) (rest := []) rfl rfl ?_
  rintro _ h156_17 ⟨rfl, rfl⟩
  show NS G K own_EL U room_1 Q h129_14 ((37 + 1) + 1) ((111 + 5) + 5) 159 #[.val (.int p0), .val (.int p1), .val (.int p2), .val (.int p3), .val (.int p4), .val (.int p5), .val v6, .val v7, .val v8, .val (.ref s5), .val v10, .val v11, .val (.ref x), .val (.ref y)] [(.int (1 : Int32))]
  refine N.ifc C (pt := 202) (pf := 162) at_159 rfl rfl (fun (q : (1 : Int32) = (0 : Int32)) => absurd q (by decide)) (fun _ => ?_)
  refine N.aload C (pc' := 164) at_162 rfl rfl rfl ?_
  refine N.callV C (pc' := 167) y [] at_164 (C.w (i := 68) rfl) (C.w (i := 69) rfl) (C.w (i := 71) rfl) (C.w (i := 70) rfl) (C.w (i := 28) rfl) (C.w (i := 72) rfl) (by decide) E_y (con11 G hw y v8 h129_14 r_v8 F_y_authority) (lenOf pd___Lcom_example_due_share_dueshare_UriReference_Authority_ rfl) rfl (by decide) (show 0 + (1 + 11) + _ ≤ _ from by decide) (by decide) (by decide) (rest := []) rfl rfl ?_
  rintro _ h164_18 ⟨rfl, rfl⟩
  show NS G K own_EL U room_1 Q h129_14 ((37 + 1) + 1) ((111 + 5) + 5) 167 #[.val (.int p0), .val (.int p1), .val (.int p2), .val (.int p3), .val (.int p4), .val (.int p5), .val v6, .val v7, .val v8, .val (.ref s5), .val v10, .val v11, .val (.ref x), .val (.ref y)] [v8]
  refine N.aload C (pc' := 169) at_167 rfl r_v8 rfl ?_
  refine N.acmp C (pc' := 172) true at_169 r_v8 r_v8 (decide_eq_true rfl) (by decide) (by decide) ?_
  refine N.aload C (pc' := 174) at_172 rfl rfl rfl ?_
  refine N.callV C (pc' := 177) y [] at_174 (C.w (i := 73) rfl) (C.w (i := 74) rfl) (C.w (i := 76) rfl) (C.w (i := 75) rfl) (C.w (i := 28) rfl) (C.w (i := 77) rfl) (by decide) E_y (con12 G hw y (.ref s5) h129_14 rfl F_y_path) (lenOf pd___Ljava_lang_String_ rfl) rfl (by decide) (show 0 + (1 + 11) + _ ≤ _ from by decide) (by decide) (by decide) (rest := []) rfl rfl ?_
  rintro _ h174_19 ⟨rfl, rfl⟩
  show NS G K own_EL U room_1 Q h129_14 ((37 + 1) + 1) ((111 + 5) + 5) 177 #[.val (.int p0), .val (.int p1), .val (.int p2), .val (.int p3), .val (.int p4), .val (.int p5), .val v6, .val v7, .val v8, .val (.ref s5), .val v10, .val v11, .val (.ref x), .val (.ref y)] [(.ref s5)]
  refine N.aload C (pc' := 179) at_177 rfl rfl rfl ?_
  refine N.callS C (pc' := 182) [(.ref s5), (.ref s5)] at_179 (C.w (i := 65) rfl) (C.w (i := 66) rfl) (C.w (i := 2) rfl) (C.w (i := 67) rfl) (by decide) (conW G hw (.ref s5) h129_14 (okv.str E_s5)) (lenOf pd__Ljava_lang_String_Ljava_lang_String__Z rfl) rfl (by decide) (show 0 + (2 + 11) + _ ≤ _ from by decide) (by decide) (by decide) (rest := []) rfl rfl ?_
  rintro _ h179_20 ⟨rfl, rfl⟩
  show NS G K own_EL U room_1 Q h129_14 ((37 + 1) + 1) ((111 + 5) + 5) 182 #[.val (.int p0), .val (.int p1), .val (.int p2), .val (.int p3), .val (.int p4), .val (.int p5), .val v6, .val v7, .val v8, .val (.ref s5), .val v10, .val v11, .val (.ref x), .val (.ref y)] [(.int (1 : Int32))]
  refine N.ifc C (pt := 202) (pf := 185) at_182 rfl rfl (fun (q : (1 : Int32) = (0 : Int32)) => absurd q (by decide)) (fun _ => ?_)
  refine N.aload C (pc' := 187) at_185 rfl rfl rfl ?_
  refine N.callV C (pc' := 190) y [] at_187 (C.w (i := 83) rfl) (C.w (i := 84) rfl) (C.w (i := 86) rfl) (C.w (i := 85) rfl) (C.w (i := 28) rfl) (C.w (i := 87) rfl) (by decide) E_y (con14 G hw y v10 h129_14 r_v10 F_y_query) (lenOf pd___Ljava_lang_String_ rfl) rfl (by decide) (show 0 + (1 + 11) + _ ≤ _ from by decide) (by decide) (by decide) (rest := []) rfl rfl ?_
  rintro _ h187_21 ⟨rfl, rfl⟩
  show NS G K own_EL U room_1 Q h129_14 ((37 + 1) + 1) ((111 + 5) + 5) 190 #[.val (.int p0), .val (.int p1), .val (.int p2), .val (.int p3), .val (.int p4), .val (.int p5), .val v6, .val v7, .val v8, .val (.ref s5), .val v10, .val v11, .val (.ref x), .val (.ref y)] [v10]
  refine N.aload C (pc' := 192) at_190 rfl r_v10 rfl ?_
  refine N.callS C (pc' := 195) [v10, v10] at_192 (C.w (i := 65) rfl) (C.w (i := 66) rfl) (C.w (i := 2) rfl) (C.w (i := 67) rfl) (by decide) (conW G hw v10 h129_14 E_v10) (lenOf pd__Ljava_lang_String_Ljava_lang_String__Z rfl) rfl (by decide) (show 0 + (2 + 11) + _ ≤ _ from by decide) (by decide) (by decide) (rest := []) rfl rfl ?_
  rintro _ h192_22 ⟨rfl, rfl⟩
  show NS G K own_EL U room_1 Q h129_14 ((37 + 1) + 1) ((111 + 5) + 5) 195 #[.val (.int p0), .val (.int p1), .val (.int p2), .val (.int p3), .val (.int p4), .val (.int p5), .val v6, .val v7, .val v8, .val (.ref s5), .val v10, .val v11, .val (.ref x), .val (.ref y)] [(.int (1 : Int32))]
  refine N.ifc C (pt := 202) (pf := 198) at_195 rfl rfl (fun (q : (1 : Int32) = (0 : Int32)) => absurd q (by decide)) (fun _ => ?_)
  refine N.iconst C (pc' := 199) (z := 1) at_198 rfl rfl ?_
  refine N.goto C (pc' := 203) at_199 rfl ?_
  exact N.retNS C Sx (by simp) (z' := (1 : Int32)) rfl at_203 (by decide) (by decide) (by subst hQ; exact rfl)
theorem own_cmpct {args : Array Value} {s : State} {t : Term} {x : Int32} (ev : t.eval args s none [] s = some (.int x)) (h : (Cond.not (Cond.eq t (Term.int 0))).value args s none s [] = some true) : ¬ x = 0 := fun q => by
  have e := Cond.eq_ints ev (Term.int_eval (args := args) (first := s) (o := none) (idx := []) (s := s) 0)
  rw [decide_eq_true q] at e
  simp [Cond.value, e] at h
  simp [Cond.value] at e
  simp_all
theorem own_start {l : Launch} {s : State} {args : Array Value} (hr : rest_1_c.before args s = true) : (∃ cp : Int32, Ss (l, s, args, s.heap.size) cp) ∧ Jvm.Lit.compactW.before args s = true := by
  have hr := Cond.before_iff.mp hr
  unfold rest_1_c at hr
  obtain ⟨r0, hr⟩ := and_e hr
  obtain ⟨r1, hr⟩ := and_e hr
  obtain ⟨r2, hr⟩ := and_e hr
  obtain ⟨cp, ecp⟩ := is_v r1
  exact ⟨⟨cp, Sta.start ecp (Or.inl (Cond.before_iff.mpr r0)), own_cmpct ecp r2⟩, Cond.before_iff.mpr r2⟩
set_option maxRecDepth 65536 in
set_option maxHeartbeats 40000000 in
theorem comes_1 {Post : Tables → Env → Array Value → State → Outcome → State → Prop} (hpost : ∀ tb e args s v u, (limb_1_1.after args s (.returned v) u = true ∧ limb_1_2.after args s (.returned v) u = true ∧ True) → ReturnedEndW s (.returned v) u (Jvm.fieldLocs frame_1_writes args s ++ Jvm.arrayLocs frame_1_arrays args s ++ Jvm.staticLocs frame_1_statics s) 56 1216 → Post tb e args s (.returned v) u) :
    ArmFor flags0 classFile x code maxLocals ret World_1 tables_1 room_1 Calls_1 rest_1 Pre_1 Post := by
  intro l hfl _ _ p e ha hc hk s m args below hf hA hF happ hP
  obtain ⟨hcalls, hrest, hpre⟩ := hP
  obtain ⟨-, -, -, hnamed, -, -, -, hat⟩ := (Spec.applies_iff hf).mp happ
  obtain ⟨hg, hn⟩ := and_e (Cond.before_iff.mp (show (Jvm.Cond.and given_1 narrow_1).before args s = true from hpre))
  obtain ⟨hcount, hrow⟩ := and_e hg
  obtain ⟨ha0, hrow⟩ := and_e hrow
  obtain ⟨ha1, hrow⟩ := and_e hrow
  obtain ⟨ha2, hrow⟩ := and_e hrow
  obtain ⟨ha3, hrow⟩ := and_e hrow
  obtain ⟨ha4, hrow⟩ := and_e hrow
  have ha5 := hrow
  obtain ⟨w0, w1, w2, w3, w4, w5, rfl⟩ : ∃ w0 w1 w2 w3 w4 w5 : Value, args = #[w0, w1, w2, w3, w4, w5] := by
    have hs : args.size = 6 := by simpa [Cond.value, given_1] using hcount
    obtain ⟨L⟩ := args
    match L, hs with
    | [w0, w1, w2, w3, w4, w5], _ => exact ⟨w0, w1, w2, w3, w4, w5, rfl⟩
  have hw := fun d (hd : d ∈ tables_1) => atoms_spec (ws := Jvm.Cond.code x code maxLocals ret :: tables_1) hat d (List.mem_cons_of_mem _ hd)
  have hfit : Fit s := fun {y c} hc i hi => by
    obtain ⟨ha, rfl⟩ := Array.getElem?_eq_some_iff.mp hc
    have q := List.all_eq_true.mp ((Array.all_eq_true_iff_forall_mem.mp hF) _ (Array.getElem_mem ha)) i (List.mem_range.mpr hi)
    simpa [Array.getElem?_eq_getElem hi] using q
  obtain ⟨i0, ei0⟩ := is_v ha0
  obtain rfl : w0 = (.int i0) := Option.some.inj ei0
  obtain ⟨i1, ei1⟩ := is_v ha1
  obtain rfl : w1 = (.int i1) := Option.some.inj ei1
  obtain ⟨i2, ei2⟩ := is_v ha2
  obtain rfl : w2 = (.int i2) := Option.some.inj ei2
  obtain ⟨i3, ei3⟩ := is_v ha3
  obtain rfl : w3 = (.int i3) := Option.some.inj ei3
  obtain ⟨i4, ei4⟩ := is_v ha4
  obtain rfl : w4 = (.int i4) := Option.some.inj ei4
  obtain ⟨i5, ei5⟩ := is_v ha5
  obtain rfl : w5 = (.int i5) := Option.some.inj ei5
  obtain ⟨⟨cp, SS⟩, hcw⟩ := own_start (l := l) hrest
  have hCH : CHv s own_EL s.vm s.heap := CHv.start (own_ew hw) hcalls.1 hcw (hw _ (List.mem_of_getElem? (i := 19) rfl)) (hw _ (List.mem_of_getElem? (i := 5) rfl))
  obtain ⟨n, o, h1, h2, h3, _, L, rfl, ⟨rfl, N⟩, -, hq⟩ := con0 (l, s, _, s.heap.size) hw i0 i1 i2 i3 i4 i5 cp s.heap SS (Old.start s) (Nat.le_refl _) tables_1 p e ha hc hk s m _ below hf ((Spec.applies_iff_loose hf).mp happ).1 ⟨rfl, State.Warmed39.refl s, rfl, hCH, nofun⟩ trivial
  refine ⟨n, _, h1, h2, h3, hpost _ _ _ _ _ _ ⟨Cond.after_iff.mpr rfl, Cond.after_iff.mpr (eq_i res_at (Term.int_eval (1)) rfl), trivial⟩ ⟨hq.1, hq.2.1, hq.2.2.1, (hq.2.2.2.sift fun y hy => Or.inr (N y hy)).mono (by decide) (by decide)⟩⟩
theorem main_1_1 : Claimed_1_1 := comes_1 fun _ _ _ _ _ _ h hF => ⟨h.1, hF⟩
theorem main_1_2 : Claimed_1_2 := comes_1 fun _ _ _ _ _ _ h hF => ⟨h.2.1, hF⟩
end Jvm.Pilot.@@N@@
namespace Jvm.Pilot.@@N@@
open Jvm Jvm.ClassFile Sem Op Lib Jvm.Free Jvm.Stand Jvm.Pilot.@@N@@.Jvm.D
/-! MADE BY PROGRAM (witnessworld.py) out of the Statement's table words and the real class files: 22 classes; the members and pool entries that the words name. The judged class is class 1, her method 1. -/
namespace start1
open Jvm.ClassFile
def u (s : String) : CpInfo := .utf8 (stringToUtf16 s)
/-- a pool by its gaps: so many unusable entries, then the entry; so many at the end -/
def gap : Nat → List CpInfo → List CpInfo
  | 0, r => r
  | n + 1, r => .unusable :: gap n r
def poolList (es : List (Nat × CpInfo)) (last : Nat) : List CpInfo := es.foldr (fun e r => gap e.1 (e.2 :: r)) (gap last [])
def pool (es : List (Nat × CpInfo)) (last : Nat) : Array CpInfo := ⟨poolList es last⟩
def fileOf (pool : Array CpInfo) (this : Nat) (attrs : Array Attribute := #[]) (ms : Array MethodInfo := #[]) (fl : Nat := 33) (sup : Nat := 0) (ifs : Array Nat := #[]) (fds : Array FieldInfo := #[]) : ClassFile where
  minorVersion := 0
  majorVersion := 65
  constantPool := pool
  accessFlags := fl
  thisClass := this
  superClass := sup
  interfaces := ifs
  fields := fds
  methods := ms
  attributes := attrs
def plain (name : String) (sup : Option ClassId) : Class where
  name := name
  kind := .ordinary
  loader := none
  accessFlags := 33
  super := sup
  interfaces := #[]
  cf := none
  fields := #[]
  methods := #[]
  instanceTypes := #[]
  staticTypes := #[]
  resolved := #[]
  callSites := []
  init := .initialized
  statics := none
  mirror := none

def pool0 : Array CpInfo := pool [(5, u "<init>"), (0, u "()V"), (1, .class_ 10), (1, u "java/lang/Object")] 113

def k0c0 : Code := { maxStack := 0, maxLocals := 1, code := object_method_1_code, exceptionTable := #[], attributes := #[] }
def k0m0 : Method := { name := "<init>", desc := "()V", sig := { parameters := [], returnType := none }, accessFlags := 1, code := some k0c0 }
/-- java/lang/Object -/
def k0 : Class := { plain "java/lang/Object" none with
  accessFlags := 33
  interfaces := #[]
  cf := some (fileOf pool0 8 #[] #[{ accessFlags := 1, nameIndex := 5, descriptorIndex := 6, attributes := #[] }] 33 0 #[] #[])
  fields := #[]
  methods := #[k0m0]
  instanceTypes := #[]
  staticTypes := #[]
  resolved := Array.replicate 124 none
  statics := none }

def pool1 : Array CpInfo := pool [(2, .class_ 4), (1, u "java/lang/Object"), (0, u "<init>"), (0, u "()V"), (0, .methodref 8 9), (0, .class_ 10), (0, .nameAndType 11 12), (0, u "com/example/due_share/dueshare/UriReferenceWithoutFragmentPinLaw"), (0, u "str"), (0, u "(I)Ljava/lang/String;"), (0, .class_ 14), (0, u "com/example/due_share/dueshare/UriReference$Authority"), (0, .methodref 13 16), (0, .nameAndType 5 17), (0, u "(Ljava/lang/String;Ljava/lang/String;I)V"), (0, .class_ 19), (0, u "com/example/due_share/dueshare/UriReference"), (0, .methodref 18 21), (0, .nameAndType 5 22), (0, u "(Ljava/lang/String;Lcom/example/due_share/dueshare/UriReference$Authority;Ljava/lang/String;Ljava/lang/String;Ljava/lang/String;)V"), (0, .methodref 18 24), (0, .nameAndType 25 26), (0, u "withoutFragment"), (0, u "()Lcom/example/due_share/dueshare/UriReference;"), (0, .methodref 18 28), (0, .nameAndType 29 30), (0, u "fragment"), (0, u "()Ljava/lang/String;"), (0, .methodref 18 32), (0, .nameAndType 33 30), (0, u "scheme"), (0, .methodref 8 35), (0, .nameAndType 36 37), (0, u "eq"), (0, u "(Ljava/lang/String;Ljava/lang/String;)Z"), (0, .methodref 18 39), (0, .nameAndType 40 41), (0, u "authority"), (0, u "()Lcom/example/due_share/dueshare/UriReference$Authority;"), (0, .methodref 18 43), (0, .nameAndType 44 30), (0, u "path"), (0, .methodref 18 46), (0, .nameAndType 47 30), (0, u "query"), (0, .class_ 49), (0, u "java/lang/String"), (0, .methodref 48 51), (0, .nameAndType 5 52), (0, u "([C)V"), (0, .methodref 48 54), (0, .nameAndType 55 56), (0, u "valueOf"), (0, u "(C)Ljava/lang/String;"), (0, .methodref 48 58), (0, .nameAndType 59 60), (0, u "equals"), (0, u "(Ljava/lang/Object;)Z"), (2, u "law"), (0, u "(IIIIII)Z")] 5

def k1m0 : Method := { name := "<init>", desc := "()V", sig := { parameters := [], returnType := none }, accessFlags := 1, code := none }
def k1c1 : Code := { maxStack := 7, maxLocals := 14, code := code, exceptionTable := #[], attributes := #[] }
def k1m1 : Method := { name := "law", desc := "(IIIIII)Z", sig := { parameters := [.int, .int, .int, .int, .int, .int], returnType := some .boolean }, accessFlags := 9, code := some k1c1 }
def k1c2 : Code := { maxStack := 6, maxLocals := 4, code := method_3_code, exceptionTable := #[], attributes := #[] }
def k1m2 : Method := { name := "str", desc := "(I)Ljava/lang/String;", sig := { parameters := [.int], returnType := some (.object "java/lang/String") }, accessFlags := 10, code := some k1c2 }
def k1c3 : Code := { maxStack := 2, maxLocals := 2, code := method_4_code, exceptionTable := #[], attributes := #[] }
def k1m3 : Method := { name := "eq", desc := "(Ljava/lang/String;Ljava/lang/String;)Z", sig := { parameters := [(.object "java/lang/String"), (.object "java/lang/String")], returnType := some .boolean }, accessFlags := 10, code := some k1c3 }
/-- com/example/due_share/dueshare/UriReferenceWithoutFragmentPinLaw -/
def k1 : Class := { plain "com/example/due_share/dueshare/UriReferenceWithoutFragmentPinLaw" (some 0) with
  accessFlags := 49
  interfaces := #[]
  cf := some (fileOf pool1 8 #[] #[{ accessFlags := 1, nameIndex := 5, descriptorIndex := 6, attributes := #[] }, { accessFlags := 9, nameIndex := 63, descriptorIndex := 64, attributes := #[] }, { accessFlags := 10, nameIndex := 11, descriptorIndex := 12, attributes := #[] }, { accessFlags := 10, nameIndex := 36, descriptorIndex := 37, attributes := #[] }] 49 2 #[] #[])
  fields := #[]
  methods := #[k1m0, k1m1, k1m2, k1m3]
  instanceTypes := #[]
  staticTypes := #[]
  resolved := Array.replicate 70 none
  statics := none }

def pool2 : Array CpInfo := pool [(1, .class_ 2), (0, u "java/io/Serializable"), (0, .class_ 4), (0, u "java/lang/Object")] 2

/-- java/io/Serializable -/
def k2 : Class := { plain "java/io/Serializable" (some 0) with
  accessFlags := 1537
  interfaces := #[]
  cf := some (fileOf pool2 1 #[] #[] 1537 3 #[] #[])
  fields := #[]
  methods := #[]
  instanceTypes := #[]
  staticTypes := #[]
  resolved := Array.replicate 7 none
  statics := none }

def pool3 : Array CpInfo := pool [(1, .class_ 2), (0, u "java/lang/Comparable"), (0, .class_ 4), (0, u "java/lang/Object")] 7

/-- java/lang/Comparable -/
def k3 : Class := { plain "java/lang/Comparable" (some 0) with
  accessFlags := 1537
  interfaces := #[]
  cf := some (fileOf pool3 1 #[] #[] 1537 3 #[] #[])
  fields := #[]
  methods := #[]
  instanceTypes := #[]
  staticTypes := #[]
  resolved := Array.replicate 12 none
  statics := none }

def pool4 : Array CpInfo := pool [(2, .class_ 4), (1, u "java/lang/CharSequence"), (42, .class_ 48), (0, u "java/lang/CharSequence$1CodePointIterator"), (10, .class_ 60), (0, u "java/lang/CharSequence$1CharIterator"), (5, .class_ 67), (0, u "java/lang/Object")] 63

/-- java/lang/CharSequence -/
def k4 : Class := { plain "java/lang/CharSequence" (some 0) with
  accessFlags := 1537
  interfaces := #[]
  cf := some (fileOf pool4 2 #[.nestMembers #[47, 59]] #[] 1537 66 #[] #[])
  fields := #[]
  methods := #[]
  instanceTypes := #[]
  staticTypes := #[]
  resolved := Array.replicate 131 none
  statics := none }

def pool5 : Array CpInfo := pool [(1, .class_ 2), (0, u "java/lang/constant/Constable"), (0, .class_ 4), (0, u "java/lang/Object")] 6

/-- java/lang/constant/Constable -/
def k5 : Class := { plain "java/lang/constant/Constable" (some 0) with
  accessFlags := 1537
  interfaces := #[]
  cf := some (fileOf pool5 1 #[] #[] 1537 3 #[] #[])
  fields := #[]
  methods := #[]
  instanceTypes := #[]
  staticTypes := #[]
  resolved := Array.replicate 11 none
  statics := none }

def pool6 : Array CpInfo := pool [(1, .class_ 2), (0, u "java/lang/constant/ConstantDesc"), (0, .class_ 4), (0, u "java/lang/Object")] 32

/-- java/lang/constant/ConstantDesc -/
def k6 : Class := { plain "java/lang/constant/ConstantDesc" (some 0) with
  accessFlags := 1537
  interfaces := #[]
  cf := some (fileOf pool6 1 #[] #[] 1537 3 #[] #[])
  fields := #[]
  methods := #[]
  instanceTypes := #[]
  staticTypes := #[]
  resolved := Array.replicate 37 none
  statics := none }

def pool7 : Array CpInfo := pool [(1, .methodref 2 3), (0, .class_ 4), (0, .nameAndType 5 6), (0, u "java/lang/Object"), (0, u "<init>"), (0, u "()V"), (0, .string 8), (0, u ""), (0, .fieldref 10 11), (0, .class_ 12), (0, .nameAndType 13 14), (0, u "java/lang/String"), (0, u "value"), (0, u "[B"), (0, .fieldref 10 16), (0, .nameAndType 17 18), (0, u "coder"), (0, u "B"), (2, u "hash"), (0, u "I"), (2, u "hashIsZero"), (0, u "Z"), (0, .methodref 10 28), (0, .nameAndType 5 29), (0, u "([CIILjava/lang/Void;)V"), (8, .fieldref 10 39), (0, .nameAndType 40 26), (0, u "COMPACT_STRINGS"), (1, .class_ 44), (1, u "java/lang/StringUTF16"), (0, u "compress"), (1, .methodref 42 48), (0, .nameAndType 49 50), (0, u "coderFromArrayLen"), (0, u "([BI)B"), (2, u "toBytes"), (53, .class_ 109), (1, u "java/lang/StringLatin1"), (67, .methodref 42 178), (0, .nameAndType 45 179), (0, u "([CII)[B"), (29, .methodref 10 210), (0, .nameAndType 5 211), (0, u "([BB)V"), (157, u "(C)Z"), (173, u "equals"), (29, u "(Ljava/lang/Object;)Z"), (1, .class_ 576), (0, u "java/lang/CharSequence"), (22, u "CASE_INSENSITIVE_ORDER"), (0, u "Ljava/util/Comparator;"), (181, u "valueOf"), (0, u "(C)Ljava/lang/String;"), (226, u "([C)V"), (4, .methodref 107 1016), (0, .nameAndType 1017 369), (0, u "canEncode"), (0, .methodref 107 1019), (0, .nameAndType 53 1020), (0, u "(C)[B"), (80, u "serialPersistentFields"), (0, u "[Ljava/io/ObjectStreamField;"), (0, .class_ 1104), (0, u "java/lang/String$CaseInsensitiveComparator"), (1, .class_ 1107), (0, u "java/io/Serializable"), (0, .class_ 1109), (0, u "java/lang/Comparable"), (0, .class_ 1111), (0, u "java/lang/constant/Constable"), (0, .class_ 1113), (0, u "java/lang/constant/ConstantDesc"), (2, u "serialVersionUID"), (0, u "J"), (3, u "REPL"), (0, u "C"), (2, u "LATIN1"), (1, u "UTF16")] 323

def k7m0 : Method := { name := "<init>", desc := "()V", sig := { parameters := [], returnType := none }, accessFlags := 1, code := none }
def k7c1 : Code := { maxStack := 5, maxLocals := 2, code := jdk_42_method_3_code, exceptionTable := #[], attributes := #[] }
def k7m1 : Method := { name := "<init>", desc := "([C)V", sig := { parameters := [(.array .char)], returnType := none }, accessFlags := 1, code := some k7c1 }
def k7c2 : Code := { maxStack := 2, maxLocals := 3, code := jdk_42_method_66_code, exceptionTable := #[], attributes := #[] }
def k7m2 : Method := { name := "equals", desc := "(Ljava/lang/Object;)Z", sig := { parameters := [(.object "java/lang/Object")], returnType := some .boolean }, accessFlags := 1, code := some k7c2 }
def k7c3 : Code := { maxStack := 4, maxLocals := 1, code := jdk_42_method_139_code, exceptionTable := #[], attributes := #[] }
def k7m3 : Method := { name := "valueOf", desc := "(C)Ljava/lang/String;", sig := { parameters := [.char], returnType := some (.object "java/lang/String") }, accessFlags := 9, code := some k7c3 }
def k7c4 : Code := { maxStack := 4, maxLocals := 6, code := jdk_42_method_149_code, exceptionTable := #[], attributes := #[] }
def k7m4 : Method := { name := "<init>", desc := "([CIILjava/lang/Void;)V", sig := { parameters := [(.array .char), .int, .int, (.object "java/lang/Void")], returnType := none }, accessFlags := 2, code := some k7c4 }
def k7c5 : Code := { maxStack := 2, maxLocals := 3, code := jdk_42_method_151_code, exceptionTable := #[], attributes := #[] }
def k7m5 : Method := { name := "<init>", desc := "([BB)V", sig := { parameters := [(.array .byte), .byte], returnType := none }, accessFlags := 0, code := some k7c5 }
/-- java/lang/String -/
def k7 : Class := { plain "java/lang/String" (some 0) with
  accessFlags := 49
  interfaces := #[2, 3, 4, 5, 6]
  cf := some (fileOf pool7 10 #[.nestMembers #[1103]] #[{ accessFlags := 1, nameIndex := 5, descriptorIndex := 6, attributes := #[] }, { accessFlags := 1, nameIndex := 5, descriptorIndex := 1010, attributes := #[] }, { accessFlags := 1, nameIndex := 543, descriptorIndex := 573, attributes := #[] }, { accessFlags := 9, nameIndex := 782, descriptorIndex := 783, attributes := #[] }, { accessFlags := 2, nameIndex := 5, descriptorIndex := 29, attributes := #[] }, { accessFlags := 0, nameIndex := 5, descriptorIndex := 211, attributes := #[] }] 49 2 #[1106, 1108, 575, 1110, 1112] #[{ accessFlags := 18, nameIndex := 13, descriptorIndex := 14, attributes := #[] }, { accessFlags := 18, nameIndex := 17, descriptorIndex := 18, attributes := #[] }, { accessFlags := 2, nameIndex := 21, descriptorIndex := 22, attributes := #[] }, { accessFlags := 2, nameIndex := 25, descriptorIndex := 26, attributes := #[] }, { accessFlags := 26, nameIndex := 1116, descriptorIndex := 1117, attributes := #[] }, { accessFlags := 24, nameIndex := 40, descriptorIndex := 26, attributes := #[] }, { accessFlags := 26, nameIndex := 1101, descriptorIndex := 1102, attributes := #[] }, { accessFlags := 26, nameIndex := 1121, descriptorIndex := 1122, attributes := #[] }, { accessFlags := 25, nameIndex := 599, descriptorIndex := 600, attributes := #[] }, { accessFlags := 24, nameIndex := 1125, descriptorIndex := 18, attributes := #[] }, { accessFlags := 24, nameIndex := 1127, descriptorIndex := 18, attributes := #[] }])
  fields := #[{ name := "value", type := (.array .byte), accessFlags := 18, slot := 0, constantValue := 0 }, { name := "coder", type := .byte, accessFlags := 18, slot := 1, constantValue := 0 }, { name := "hash", type := .int, accessFlags := 2, slot := 2, constantValue := 0 }, { name := "hashIsZero", type := .boolean, accessFlags := 2, slot := 3, constantValue := 0 }, { name := "serialVersionUID", type := .long, accessFlags := 26, slot := 0, constantValue := 0 }, { name := "COMPACT_STRINGS", type := .boolean, accessFlags := 24, slot := 1, constantValue := 0 }, { name := "serialPersistentFields", type := (.array (.object "java/io/ObjectStreamField")), accessFlags := 26, slot := 2, constantValue := 0 }, { name := "REPL", type := .char, accessFlags := 26, slot := 3, constantValue := 0 }, { name := "CASE_INSENSITIVE_ORDER", type := (.object "java/util/Comparator"), accessFlags := 25, slot := 4, constantValue := 0 }, { name := "LATIN1", type := .byte, accessFlags := 24, slot := 5, constantValue := 0 }, { name := "UTF16", type := .byte, accessFlags := 24, slot := 6, constantValue := 0 }]
  methods := #[k7m0, k7m1, k7m2, k7m3, k7m4, k7m5]
  instanceTypes := #[(.array .byte), .byte, .int, .boolean]
  staticTypes := #[.long, .boolean, (.array (.object "java/io/ObjectStreamField")), .char, (.object "java/util/Comparator"), .byte, .byte]
  resolved := Array.replicate 1451 none
  statics := some 0 }

def pool8 : Array CpInfo := pool [(1, .methodref 2 3), (0, .class_ 4), (0, .nameAndType 5 6), (0, u "java/lang/Object"), (0, u "<init>"), (0, u "()V"), (0, .class_ 8), (0, u "java/lang/Record")] 13

def k8c0 : Code := { maxStack := 1, maxLocals := 1, code := jdk_30_method_1_code, exceptionTable := #[], attributes := #[] }
def k8m0 : Method := { name := "<init>", desc := "()V", sig := { parameters := [], returnType := none }, accessFlags := 4, code := some k8c0 }
/-- java/lang/Record -/
def k8 : Class := { plain "java/lang/Record" (some 0) with
  accessFlags := 1057
  interfaces := #[]
  cf := some (fileOf pool8 7 #[] #[{ accessFlags := 4, nameIndex := 5, descriptorIndex := 6, attributes := #[] }] 1057 2 #[] #[])
  fields := #[]
  methods := #[k8m0]
  instanceTypes := #[]
  staticTypes := #[]
  resolved := Array.replicate 22 none
  statics := none }

def pool9 : Array CpInfo := pool [(1, .class_ 2), (0, u "com/example/due_share/dueshare/UriReference"), (0, .methodref 4 5), (0, .class_ 6), (0, .nameAndType 7 8), (0, u "java/lang/Record"), (0, u "<init>"), (0, u "()V"), (0, .fieldref 1 10), (0, .nameAndType 11 12), (0, u "scheme"), (0, u "Ljava/lang/String;"), (0, .fieldref 1 14), (0, .nameAndType 15 16), (0, u "authority"), (0, u "Lcom/example/due_share/dueshare/UriReference$Authority;"), (0, .fieldref 1 18), (0, .nameAndType 19 12), (0, u "path"), (0, .fieldref 1 21), (0, .nameAndType 22 12), (0, u "query"), (0, .fieldref 1 24), (0, .nameAndType 25 12), (0, u "fragment"), (14, .class_ 41), (0, u "com/example/due_share/dueshare/UriReference$NotAReference"), (22, u "SCHEME"), (0, u "Ljava/util/regex/Pattern;"), (36, .class_ 104), (1, u "com/example/due_share/dueshare/UriReference$Authority"), (17, .methodref 1 123), (0, .nameAndType 7 124), (0, u "(Ljava/lang/String;Lcom/example/due_share/dueshare/UriReference$Authority;Ljava/lang/String;Ljava/lang/String;Ljava/lang/String;)V"), (3, u "()Lcom/example/due_share/dueshare/UriReference;"), (17, u "I"), (25, u "()Ljava/lang/String;"), (116, u "HEX_DIGITS"), (0, u "[C"), (20, u "IP_V6"), (4, u "IP_FUTURE"), (6, u "SUB_DELIMS"), (3, u "USER_INFO"), (2, u "REG_NAME"), (0, u "PATH"), (0, u "QUERY_OR_FRAGMENT"), (0, u "MOST_PORT"), (12, u "withoutFragment"), (3, u "()Lcom/example/due_share/dueshare/UriReference$Authority;")] 51

def k9c0 : Code := { maxStack := 2, maxLocals := 6, code := prog_21_method_1_code, exceptionTable := #[], attributes := #[] }
def k9m0 : Method := { name := "<init>", desc := "(Ljava/lang/String;Lcom/example/due_share/dueshare/UriReference$Authority;Ljava/lang/String;Ljava/lang/String;Ljava/lang/String;)V", sig := { parameters := [(.object "java/lang/String"), (.object "com/example/due_share/dueshare/UriReference$Authority"), (.object "java/lang/String"), (.object "java/lang/String"), (.object "java/lang/String")], returnType := none }, accessFlags := 0, code := some k9c0 }
def k9c1 : Code := { maxStack := 7, maxLocals := 1, code := prog_21_method_7_code, exceptionTable := #[], attributes := #[] }
def k9m1 : Method := { name := "withoutFragment", desc := "()Lcom/example/due_share/dueshare/UriReference;", sig := { parameters := [], returnType := some (.object "com/example/due_share/dueshare/UriReference") }, accessFlags := 0, code := some k9c1 }
def k9c2 : Code := { maxStack := 1, maxLocals := 1, code := prog_21_method_22_code, exceptionTable := #[], attributes := #[] }
def k9m2 : Method := { name := "scheme", desc := "()Ljava/lang/String;", sig := { parameters := [], returnType := some (.object "java/lang/String") }, accessFlags := 1, code := some k9c2 }
def k9c3 : Code := { maxStack := 1, maxLocals := 1, code := prog_21_method_23_code, exceptionTable := #[], attributes := #[] }
def k9m3 : Method := { name := "authority", desc := "()Lcom/example/due_share/dueshare/UriReference$Authority;", sig := { parameters := [], returnType := some (.object "com/example/due_share/dueshare/UriReference$Authority") }, accessFlags := 1, code := some k9c3 }
def k9c4 : Code := { maxStack := 1, maxLocals := 1, code := prog_21_method_24_code, exceptionTable := #[], attributes := #[] }
def k9m4 : Method := { name := "path", desc := "()Ljava/lang/String;", sig := { parameters := [], returnType := some (.object "java/lang/String") }, accessFlags := 1, code := some k9c4 }
def k9c5 : Code := { maxStack := 1, maxLocals := 1, code := prog_21_method_25_code, exceptionTable := #[], attributes := #[] }
def k9m5 : Method := { name := "query", desc := "()Ljava/lang/String;", sig := { parameters := [], returnType := some (.object "java/lang/String") }, accessFlags := 1, code := some k9c5 }
def k9c6 : Code := { maxStack := 1, maxLocals := 1, code := prog_21_method_26_code, exceptionTable := #[], attributes := #[] }
def k9m6 : Method := { name := "fragment", desc := "()Ljava/lang/String;", sig := { parameters := [], returnType := some (.object "java/lang/String") }, accessFlags := 1, code := some k9c6 }
/-- com/example/due_share/dueshare/UriReference -/
def k9 : Class := { plain "com/example/due_share/dueshare/UriReference" (some 8) with
  accessFlags := 48
  interfaces := #[]
  cf := some (fileOf pool9 1 #[.nestMembers #[40, 102]] #[{ accessFlags := 0, nameIndex := 7, descriptorIndex := 124, attributes := #[] }, { accessFlags := 0, nameIndex := 346, descriptorIndex := 128, attributes := #[] }, { accessFlags := 1, nameIndex := 11, descriptorIndex := 172, attributes := #[] }, { accessFlags := 1, nameIndex := 15, descriptorIndex := 350, attributes := #[] }, { accessFlags := 1, nameIndex := 19, descriptorIndex := 172, attributes := #[] }, { accessFlags := 1, nameIndex := 22, descriptorIndex := 172, attributes := #[] }, { accessFlags := 1, nameIndex := 25, descriptorIndex := 172, attributes := #[] }] 48 4 #[] #[{ accessFlags := 18, nameIndex := 11, descriptorIndex := 12, attributes := #[] }, { accessFlags := 18, nameIndex := 15, descriptorIndex := 16, attributes := #[] }, { accessFlags := 18, nameIndex := 19, descriptorIndex := 12, attributes := #[] }, { accessFlags := 18, nameIndex := 22, descriptorIndex := 12, attributes := #[] }, { accessFlags := 18, nameIndex := 25, descriptorIndex := 12, attributes := #[] }, { accessFlags := 26, nameIndex := 64, descriptorIndex := 65, attributes := #[] }, { accessFlags := 26, nameIndex := 323, descriptorIndex := 12, attributes := #[] }, { accessFlags := 26, nameIndex := 327, descriptorIndex := 12, attributes := #[] }, { accessFlags := 26, nameIndex := 330, descriptorIndex := 12, attributes := #[] }, { accessFlags := 26, nameIndex := 331, descriptorIndex := 12, attributes := #[] }, { accessFlags := 26, nameIndex := 332, descriptorIndex := 12, attributes := #[] }, { accessFlags := 26, nameIndex := 311, descriptorIndex := 65, attributes := #[] }, { accessFlags := 26, nameIndex := 316, descriptorIndex := 65, attributes := #[] }, { accessFlags := 26, nameIndex := 333, descriptorIndex := 146, attributes := #[] }, { accessFlags := 26, nameIndex := 289, descriptorIndex := 290, attributes := #[] }])
  fields := #[{ name := "scheme", type := (.object "java/lang/String"), accessFlags := 18, slot := 0, constantValue := 0 }, { name := "authority", type := (.object "com/example/due_share/dueshare/UriReference$Authority"), accessFlags := 18, slot := 1, constantValue := 0 }, { name := "path", type := (.object "java/lang/String"), accessFlags := 18, slot := 2, constantValue := 0 }, { name := "query", type := (.object "java/lang/String"), accessFlags := 18, slot := 3, constantValue := 0 }, { name := "fragment", type := (.object "java/lang/String"), accessFlags := 18, slot := 4, constantValue := 0 }, { name := "SCHEME", type := (.object "java/util/regex/Pattern"), accessFlags := 26, slot := 0, constantValue := 0 }, { name := "SUB_DELIMS", type := (.object "java/lang/String"), accessFlags := 26, slot := 1, constantValue := 0 }, { name := "USER_INFO", type := (.object "java/lang/String"), accessFlags := 26, slot := 2, constantValue := 0 }, { name := "REG_NAME", type := (.object "java/lang/String"), accessFlags := 26, slot := 3, constantValue := 0 }, { name := "PATH", type := (.object "java/lang/String"), accessFlags := 26, slot := 4, constantValue := 0 }, { name := "QUERY_OR_FRAGMENT", type := (.object "java/lang/String"), accessFlags := 26, slot := 5, constantValue := 0 }, { name := "IP_V6", type := (.object "java/util/regex/Pattern"), accessFlags := 26, slot := 6, constantValue := 0 }, { name := "IP_FUTURE", type := (.object "java/util/regex/Pattern"), accessFlags := 26, slot := 7, constantValue := 0 }, { name := "MOST_PORT", type := .int, accessFlags := 26, slot := 8, constantValue := 0 }, { name := "HEX_DIGITS", type := (.array .char), accessFlags := 26, slot := 9, constantValue := 0 }]
  methods := #[k9m0, k9m1, k9m2, k9m3, k9m4, k9m5, k9m6]
  instanceTypes := #[(.object "java/lang/String"), (.object "com/example/due_share/dueshare/UriReference$Authority"), (.object "java/lang/String"), (.object "java/lang/String"), (.object "java/lang/String")]
  staticTypes := #[(.object "java/util/regex/Pattern"), (.object "java/lang/String"), (.object "java/lang/String"), (.object "java/lang/String"), (.object "java/lang/String"), (.object "java/lang/String"), (.object "java/util/regex/Pattern"), (.object "java/util/regex/Pattern"), .int, (.array .char)]
  resolved := Array.replicate 402 none
  statics := none }

def pool10 : Array CpInfo := pool [(1, .class_ 2), (0, u "com/example/due_share/dueshare/UriReference"), (0, .methodref 4 5), (0, .class_ 6), (0, .nameAndType 7 8), (0, u "java/lang/Record"), (0, u "<init>"), (0, u "()V"), (0, .fieldref 10 11), (0, .class_ 12), (0, .nameAndType 13 14), (0, u "com/example/due_share/dueshare/UriReference$Authority"), (0, u "userInfo"), (0, u "Ljava/lang/String;"), (0, .fieldref 10 16), (0, .nameAndType 17 14), (0, u "host"), (0, .fieldref 10 19), (0, .nameAndType 20 21), (0, u "port"), (0, u "I"), (46, u "(Ljava/lang/String;Ljava/lang/String;I)V")] 150

def k10c0 : Code := { maxStack := 2, maxLocals := 4, code := prog_22_method_1_code, exceptionTable := #[], attributes := #[] }
def k10m0 : Method := { name := "<init>", desc := "(Ljava/lang/String;Ljava/lang/String;I)V", sig := { parameters := [(.object "java/lang/String"), (.object "java/lang/String"), .int], returnType := none }, accessFlags := 0, code := some k10c0 }
/-- com/example/due_share/dueshare/UriReference$Authority -/
def k10 : Class := { plain "com/example/due_share/dueshare/UriReference$Authority" (some 8) with
  accessFlags := 48
  interfaces := #[]
  cf := some (fileOf pool10 10 #[.nestHost 1] #[{ accessFlags := 0, nameIndex := 7, descriptorIndex := 68, attributes := #[] }] 48 4 #[] #[{ accessFlags := 18, nameIndex := 13, descriptorIndex := 14, attributes := #[] }, { accessFlags := 18, nameIndex := 17, descriptorIndex := 14, attributes := #[] }, { accessFlags := 18, nameIndex := 20, descriptorIndex := 21, attributes := #[] }])
  fields := #[{ name := "userInfo", type := (.object "java/lang/String"), accessFlags := 18, slot := 0, constantValue := 0 }, { name := "host", type := (.object "java/lang/String"), accessFlags := 18, slot := 1, constantValue := 0 }, { name := "port", type := .int, accessFlags := 18, slot := 2, constantValue := 0 }]
  methods := #[k10m0]
  instanceTypes := #[(.object "java/lang/String"), (.object "java/lang/String"), .int]
  staticTypes := #[]
  resolved := Array.replicate 219 none
  statics := none }

def pool11 : Array CpInfo := pool [(6, .class_ 8), (1, u "java/lang/Object"), (0, u "<init>"), (0, u "()V"), (1, .class_ 14), (1, u "java/lang/StringUTF16"), (31, u "$assertionsDisabled"), (0, u "Z"), (13, u "HI_BYTE_SHIFT"), (0, u "I"), (2, u "LO_BYTE_SHIFT"), (49, .methodref 12 116), (0, .nameAndType 117 118), (0, u "compress"), (0, u "([CI[BII)I"), (3, u "([CII)[B"), (138, u "coderFromArrayLen"), (0, u "([BI)B"), (106, .class_ 371), (1, u "java/lang/StringUTF16$LinesSpliterator"), (58, u "MAX_LENGTH"), (196, .class_ 628), (0, u "java/lang/StringUTF16$CodePointsSpliterator"), (0, .class_ 630), (0, u "java/lang/StringUTF16$CharsSpliterator")] 4

def k11m0 : Method := { name := "<init>", desc := "()V", sig := { parameters := [], returnType := none }, accessFlags := 0, code := none }
def k11c1 : Code := { maxStack := 2, maxLocals := 2, code := jdk_52_method_15_code, exceptionTable := #[], attributes := #[] }
def k11m1 : Method := { name := "coderFromArrayLen", desc := "([BI)B", sig := { parameters := [(.array .byte), .int], returnType := some .byte }, accessFlags := 8, code := some k11c1 }
def k11c2 : Code := { maxStack := 5, maxLocals := 6, code := jdk_52_method_16_code, exceptionTable := #[], attributes := #[] }
def k11m2 : Method := { name := "compress", desc := "([CII)[B", sig := { parameters := [(.array .char), .int, .int], returnType := some (.array .byte) }, accessFlags := 9, code := some k11c2 }
def k11c3 : Code := { maxStack := 3, maxLocals := 7, code := jdk_52_method_21_code, exceptionTable := #[], attributes := #[] }
def k11m3 : Method := { name := "compress", desc := "([CI[BII)I", sig := { parameters := [(.array .char), .int, (.array .byte), .int, .int], returnType := some .int }, accessFlags := 9, code := some k11c3 }
/-- java/lang/StringUTF16 -/
def k11 : Class := { plain "java/lang/StringUTF16" (some 0) with
  accessFlags := 48
  interfaces := #[]
  cf := some (fileOf pool11 12 #[.nestMembers #[627, 629, 369]] #[{ accessFlags := 0, nameIndex := 9, descriptorIndex := 10, attributes := #[] }, { accessFlags := 8, nameIndex := 261, descriptorIndex := 262, attributes := #[] }, { accessFlags := 9, nameIndex := 117, descriptorIndex := 122, attributes := #[] }, { accessFlags := 9, nameIndex := 117, descriptorIndex := 118, attributes := #[] }] 48 6 #[] #[{ accessFlags := 26, nameIndex := 61, descriptorIndex := 62, attributes := #[] }, { accessFlags := 26, nameIndex := 65, descriptorIndex := 62, attributes := #[] }, { accessFlags := 24, nameIndex := 430, descriptorIndex := 62, attributes := #[] }, { accessFlags := 4120, nameIndex := 46, descriptorIndex := 47, attributes := #[] }])
  fields := #[{ name := "HI_BYTE_SHIFT", type := .int, accessFlags := 26, slot := 0, constantValue := 0 }, { name := "LO_BYTE_SHIFT", type := .int, accessFlags := 26, slot := 1, constantValue := 0 }, { name := "MAX_LENGTH", type := .int, accessFlags := 24, slot := 2, constantValue := 0 }, { name := "$assertionsDisabled", type := .boolean, accessFlags := 4120, slot := 3, constantValue := 0 }]
  methods := #[k11m0, k11m1, k11m2, k11m3]
  instanceTypes := #[]
  staticTypes := #[.int, .int, .int, .boolean]
  resolved := Array.replicate 635 none
  statics := none }

def pool12 : Array CpInfo := pool [(4, .class_ 6), (1, u "java/lang/Object"), (0, u "<init>"), (0, u "()V"), (5, .class_ 16), (1, u "java/lang/StringLatin1"), (73, u "canEncode"), (14, u "(C)Z"), (15, u "$assertionsDisabled"), (0, u "Z"), (98, .class_ 223), (1, u "java/lang/StringLatin1$LinesSpliterator"), (156, u "toBytes"), (1, u "(C)[B"), (7, .class_ 391), (0, u "java/lang/StringLatin1$CharsSpliterator")] 3

def k12m0 : Method := { name := "<init>", desc := "()V", sig := { parameters := [], returnType := none }, accessFlags := 0, code := none }
def k12c1 : Code := { maxStack := 2, maxLocals := 1, code := jdk_43_method_3_code, exceptionTable := #[], attributes := #[] }
def k12m1 : Method := { name := "canEncode", desc := "(C)Z", sig := { parameters := [.char], returnType := some .boolean }, accessFlags := 9, code := some k12c1 }
def k12c2 : Code := { maxStack := 4, maxLocals := 1, code := jdk_43_method_46_code, exceptionTable := #[], attributes := #[] }
def k12m2 : Method := { name := "toBytes", desc := "(C)[B", sig := { parameters := [.char], returnType := some (.array .byte) }, accessFlags := 9, code := some k12c2 }
/-- java/lang/StringLatin1 -/
def k12 : Class := { plain "java/lang/StringLatin1" (some 0) with
  accessFlags := 48
  interfaces := #[]
  cf := some (fileOf pool12 14 #[.nestMembers #[390, 221]] #[{ accessFlags := 0, nameIndex := 7, descriptorIndex := 8, attributes := #[] }, { accessFlags := 9, nameIndex := 90, descriptorIndex := 105, attributes := #[] }, { accessFlags := 9, nameIndex := 380, descriptorIndex := 382, attributes := #[] }] 48 4 #[] #[{ accessFlags := 4120, nameIndex := 121, descriptorIndex := 122, attributes := #[] }])
  fields := #[{ name := "$assertionsDisabled", type := .boolean, accessFlags := 4120, slot := 0, constantValue := 0 }]
  methods := #[k12m0, k12m1, k12m2]
  instanceTypes := #[]
  staticTypes := #[.boolean]
  resolved := Array.replicate 395 none
  statics := none }

def pool13 : Array CpInfo := pool [(2, .class_ 4), (1, u "java/lang/Object"), (0, u "<init>"), (0, u "()V"), (17, .class_ 26), (1, u "jdk/internal/util/Preconditions"), (28, .class_ 56), (0, u "jdk/internal/util/Preconditions$4"), (57, .class_ 115), (0, u "jdk/internal/util/Preconditions$1"), (7, u "SIOOBE_FORMATTER"), (0, u "Ljava/util/function/BiFunction;"), (0, .class_ 126), (0, u "jdk/internal/util/Preconditions$2"), (3, u "AIOOBE_FORMATTER"), (0, .class_ 132), (0, u "jdk/internal/util/Preconditions$3"), (3, u "IOOBE_FORMATTER")] 57

def k13m0 : Method := { name := "<init>", desc := "()V", sig := { parameters := [], returnType := none }, accessFlags := 1, code := none }
/-- jdk/internal/util/Preconditions -/
def k13 : Class := { plain "jdk/internal/util/Preconditions" (some 0) with
  accessFlags := 33
  interfaces := #[]
  cf := some (fileOf pool13 24 #[.nestMembers #[55, 131, 125, 114]] #[{ accessFlags := 1, nameIndex := 5, descriptorIndex := 6, attributes := #[] }] 33 2 #[] #[{ accessFlags := 25, nameIndex := 123, descriptorIndex := 124, attributes := #[] }, { accessFlags := 25, nameIndex := 130, descriptorIndex := 124, attributes := #[] }, { accessFlags := 25, nameIndex := 136, descriptorIndex := 124, attributes := #[] }])
  fields := #[{ name := "SIOOBE_FORMATTER", type := (.object "java/util/function/BiFunction"), accessFlags := 25, slot := 0, constantValue := 0 }, { name := "AIOOBE_FORMATTER", type := (.object "java/util/function/BiFunction"), accessFlags := 25, slot := 1, constantValue := 0 }, { name := "IOOBE_FORMATTER", type := (.object "java/util/function/BiFunction"), accessFlags := 25, slot := 2, constantValue := 0 }]
  methods := #[k13m0]
  instanceTypes := #[]
  staticTypes := #[(.object "java/util/function/BiFunction"), (.object "java/util/function/BiFunction"), (.object "java/util/function/BiFunction")]
  resolved := Array.replicate 194 none
  statics := some 1 }

def pool14 : Array CpInfo := pool [(9, u "<init>"), (6, .class_ 18), (1, u "java/lang/Object"), (0, u "()V"), (1, .class_ 23), (1, u "jdk/internal/util/ArraysSupport"), (0, u "LOG2_ARRAY_LONG_INDEX_SCALE"), (0, u "I"), (2, u "U"), (0, u "Ljdk/internal/misc/Unsafe;"), (8, u "BIG_ENDIAN"), (0, u "Z"), (8, u "LOG2_BYTE_BIT_SIZE"), (4, u "LOG2_ARRAY_INT_INDEX_SCALE"), (54, u "JLA"), (0, u "Ljdk/internal/access/JavaLangAccess;"), (11, u "LOG2_ARRAY_BOOLEAN_INDEX_SCALE"), (9, u "LOG2_ARRAY_BYTE_INDEX_SCALE"), (5, u "LOG2_ARRAY_CHAR_INDEX_SCALE"), (5, u "LOG2_ARRAY_SHORT_INDEX_SCALE"), (18, u "LOG2_ARRAY_FLOAT_INDEX_SCALE"), (24, u "LOG2_ARRAY_DOUBLE_INDEX_SCALE"), (89, u "T_BOOLEAN"), (2, u "T_CHAR"), (1, u "T_FLOAT"), (1, u "T_DOUBLE"), (1, u "T_BYTE"), (1, u "T_SHORT"), (1, u "T_INT"), (1, u "T_LONG"), (1, u "SOFT_MAX_ARRAY_LENGTH")] 83

def k14m0 : Method := { name := "<init>", desc := "()V", sig := { parameters := [], returnType := none }, accessFlags := 2, code := none }
/-- jdk/internal/util/ArraysSupport -/
def k14 : Class := { plain "jdk/internal/util/ArraysSupport" (some 0) with
  accessFlags := 33
  interfaces := #[]
  cf := some (fileOf pool14 21 #[] #[{ accessFlags := 2, nameIndex := 9, descriptorIndex := 19, attributes := #[] }] 33 16 #[] #[{ accessFlags := 24, nameIndex := 28, descriptorIndex := 29, attributes := #[] }, { accessFlags := 26, nameIndex := 38, descriptorIndex := 39, attributes := #[] }, { accessFlags := 25, nameIndex := 121, descriptorIndex := 25, attributes := #[] }, { accessFlags := 25, nameIndex := 131, descriptorIndex := 25, attributes := #[] }, { accessFlags := 25, nameIndex := 137, descriptorIndex := 25, attributes := #[] }, { accessFlags := 25, nameIndex := 143, descriptorIndex := 25, attributes := #[] }, { accessFlags := 25, nameIndex := 53, descriptorIndex := 25, attributes := #[] }, { accessFlags := 25, nameIndex := 24, descriptorIndex := 25, attributes := #[] }, { accessFlags := 25, nameIndex := 162, descriptorIndex := 25, attributes := #[] }, { accessFlags := 25, nameIndex := 187, descriptorIndex := 25, attributes := #[] }, { accessFlags := 26, nameIndex := 48, descriptorIndex := 25, attributes := #[] }, { accessFlags := 25, nameIndex := 277, descriptorIndex := 25, attributes := #[] }, { accessFlags := 25, nameIndex := 280, descriptorIndex := 25, attributes := #[] }, { accessFlags := 25, nameIndex := 282, descriptorIndex := 25, attributes := #[] }, { accessFlags := 25, nameIndex := 284, descriptorIndex := 25, attributes := #[] }, { accessFlags := 25, nameIndex := 286, descriptorIndex := 25, attributes := #[] }, { accessFlags := 25, nameIndex := 288, descriptorIndex := 25, attributes := #[] }, { accessFlags := 25, nameIndex := 290, descriptorIndex := 25, attributes := #[] }, { accessFlags := 25, nameIndex := 292, descriptorIndex := 25, attributes := #[] }, { accessFlags := 26, nameIndex := 108, descriptorIndex := 109, attributes := #[] }, { accessFlags := 25, nameIndex := 294, descriptorIndex := 25, attributes := #[] }])
  fields := #[{ name := "U", type := (.object "jdk/internal/misc/Unsafe"), accessFlags := 24, slot := 0, constantValue := 0 }, { name := "BIG_ENDIAN", type := .boolean, accessFlags := 26, slot := 1, constantValue := 0 }, { name := "LOG2_ARRAY_BOOLEAN_INDEX_SCALE", type := .int, accessFlags := 25, slot := 2, constantValue := 0 }, { name := "LOG2_ARRAY_BYTE_INDEX_SCALE", type := .int, accessFlags := 25, slot := 3, constantValue := 0 }, { name := "LOG2_ARRAY_CHAR_INDEX_SCALE", type := .int, accessFlags := 25, slot := 4, constantValue := 0 }, { name := "LOG2_ARRAY_SHORT_INDEX_SCALE", type := .int, accessFlags := 25, slot := 5, constantValue := 0 }, { name := "LOG2_ARRAY_INT_INDEX_SCALE", type := .int, accessFlags := 25, slot := 6, constantValue := 0 }, { name := "LOG2_ARRAY_LONG_INDEX_SCALE", type := .int, accessFlags := 25, slot := 7, constantValue := 0 }, { name := "LOG2_ARRAY_FLOAT_INDEX_SCALE", type := .int, accessFlags := 25, slot := 8, constantValue := 0 }, { name := "LOG2_ARRAY_DOUBLE_INDEX_SCALE", type := .int, accessFlags := 25, slot := 9, constantValue := 0 }, { name := "LOG2_BYTE_BIT_SIZE", type := .int, accessFlags := 26, slot := 10, constantValue := 0 }, { name := "T_BOOLEAN", type := .int, accessFlags := 25, slot := 11, constantValue := 0 }, { name := "T_CHAR", type := .int, accessFlags := 25, slot := 12, constantValue := 0 }, { name := "T_FLOAT", type := .int, accessFlags := 25, slot := 13, constantValue := 0 }, { name := "T_DOUBLE", type := .int, accessFlags := 25, slot := 14, constantValue := 0 }, { name := "T_BYTE", type := .int, accessFlags := 25, slot := 15, constantValue := 0 }, { name := "T_SHORT", type := .int, accessFlags := 25, slot := 16, constantValue := 0 }, { name := "T_INT", type := .int, accessFlags := 25, slot := 17, constantValue := 0 }, { name := "T_LONG", type := .int, accessFlags := 25, slot := 18, constantValue := 0 }, { name := "JLA", type := (.object "jdk/internal/access/JavaLangAccess"), accessFlags := 26, slot := 19, constantValue := 0 }, { name := "SOFT_MAX_ARRAY_LENGTH", type := .int, accessFlags := 25, slot := 20, constantValue := 0 }]
  methods := #[k14m0]
  instanceTypes := #[]
  staticTypes := #[(.object "jdk/internal/misc/Unsafe"), .boolean, .int, .int, .int, .int, .int, .int, .int, .int, .int, .int, .int, .int, .int, .int, .int, .int, .int, (.object "jdk/internal/access/JavaLangAccess"), .int]
  resolved := Array.replicate 378 none
  statics := none }

def pool15 : Array CpInfo := pool [(1, u "java/lang/Cloneable"), (0, .class_ 1), (0, u "java/lang/Object"), (0, .class_ 3)] 3

/-- java/lang/Cloneable -/
def k15 : Class := { plain "java/lang/Cloneable" (some 0) with
  accessFlags := 1537
  interfaces := #[]
  cf := some (fileOf pool15 2 #[] #[] 1537 4 #[] #[])
  fields := #[]
  methods := #[]
  instanceTypes := #[]
  staticTypes := #[]
  resolved := Array.replicate 8 none
  statics := none }

/-- the primitive byte -/
def k16 : Class := { plain "byte" none with kind := .primitive 'B', accessFlags := 0x411 }
/-- [B -/
def k17 : Class := { plain "[B" (some 0) with kind := .array 16 .byte, interfaces := #[15, 2], accessFlags := 1041 }

/-- the primitive char -/
def k18 : Class := { plain "char" none with kind := .primitive 'C', accessFlags := 0x411 }
/-- [C -/
def k19 : Class := { plain "[C" (some 0) with kind := .array 18 .char, interfaces := #[15, 2], accessFlags := 1041 }

/-- the primitive int -/
def k20 : Class := { plain "int" none with kind := .primitive 'I', accessFlags := 0x411 }
/-- [I -/
def k21 : Class := { plain "[I" (some 0) with kind := .array 20 .int, interfaces := #[15, 2], accessFlags := 1041 }

def heap : Heap := #[{ cls := 7, slots := #[.long 0, .int 1, .null, .int 0, .null, .int 0, .int 0], vm := .statics 7 },
  { cls := 13, slots := #[.null, .null, .null], vm := .statics 13 }]
def classes : Array Class := #[k0, k1, k2, k3, k4, k5, k6, k7, k8, k9, k10, k11, k12, k13, k14, k15, k16, k17, k18, k19, k20, k21]
def interned : List (Array UInt16 × Addr) := []
def slotsUsed : Nat := 10
def theMethod : MethodId := ⟨1, 1⟩
def args0 : Array Value := #[.int 1, .int 2, .int 3, .int 4, .int 5, .int 0]
def aboutOver (below : List Frame) : State where
  vm := { classes := classes, interned := interned.toArray }
  heap := heap
  slotsUsed := slotsUsed
  threads := #[{ frames := .invoking theMethod args0 :: below }]
def below0 : List Frame := [.native { method := ⟨0, 0⟩, args := #[] }]
def about1 : State := aboutOver below0
def p0 : Program := .bare "" "" ""
def e0 : Env := launch0.env 0 0 0
theorem w_frames : about1.frames = Frame.invoking theMethod args0 :: below0 := rfl
set_option maxRecDepth 65536 in
theorem w_args : argsFit about1.vm theMethod args0 = true := by decide +kernel
set_option maxRecDepth 65536 in
theorem w_heap : heapFits about1 = true := by decide +kernel
set_option maxRecDepth 65536 in
theorem w_runnable : about1.curStatus? = some .runnable := by decide +kernel
set_option maxRecDepth 65536 in
theorem w_alone : about1.alone = true := by decide +kernel
set_option maxRecDepth 65536 in
theorem w_named : about1.methodNamed? x = some theMethod := by decide +kernel
set_option maxRecDepth 65536 in
theorem w_hears : about1.hears theMethod below0 = true := by decide +kernel
set_option maxRecDepth 65536 in
theorem w_ripe : about1.ripe theMethod args0 below0 = true := by decide +kernel
theorem w_running : about1.status = .running := rfl
set_option maxRecDepth 65536 in
theorem w_room : about1.hasRoom e0.platform room_1 = true :=
  launch0.hasRoom_least _ room_1 (by decide +kernel) (by decide +kernel) (by decide +kernel) (by decide +kernel) (by decide +kernel) (by decide +kernel)
theorem allAtoms_all (ts : List Jvm.Cond) (a : Array Jvm.Value) (st : Jvm.State) : (allAtoms ts).before a st = ts.all (fun c => c.before a st) := by
  induction ts with
  | nil => rfl
  | cons c t ih =>
    show (Jvm.Cond.and c (allAtoms t)).before a st = _
    rw [Jvm.Cond.before_and, ih, List.all_cons]
def words1 : List Jvm.Cond := Jvm.Cond.code x code maxLocals ret :: tables_1
/-- a 'code' word, met by the world's own term for the bytes: nothing is compared byte by byte -/
theorem code_word {y : MethodName} {bytes : ByteArray} {mx : Nat} {rt : Option FieldType} {a : Array Value} {s : State} {m : MethodId} {meth : Method} {c : Code} (h1 : s.methodNamed? y = some m) (h2 : s.vm.method? m = some meth) (h3 : meth.code = some c) (h4 : c.code = bytes)
    (h5 : (c.maxLocals == mx && c.exceptionTable.isEmpty && decide (c.maxStack ≤ mostOperands) && decide (meth.sig.returnType = rt) && !meth.locks && decide (parseMethodDescriptor y.desc = some meth.sig)) = true) : (Jvm.Cond.code y bytes mx rt).before a s = true := by
  simp only [Bool.and_eq_true, beq_iff_eq, Bool.not_eq_true', decide_eq_true_eq] at h5
  obtain ⟨⟨⟨⟨⟨g1, g2⟩, g3⟩, g4⟩, g5⟩, g6⟩ := h5
  simp [Cond.before, Cond.holds, Cond.value, h1, h2, h3, h4, g1, g2, g3, g4, g5, g6]
def isCode : Jvm.Cond → Bool
  | .code _ _ _ _ => true
  | _ => false
theorem all_split {L : List Jvm.Cond} {P : Jvm.Cond → Bool} (h1 : L.all (fun c => isCode c || P c) = true) (h2 : ∀ c ∈ L.filter isCode, P c = true) : L.all P = true := by
  refine List.all_eq_true.mpr fun c hc => ?_
  have h := List.all_eq_true.mp h1 c hc
  rcases Bool.eq_false_or_eq_true (isCode c) with hi | hi
  · exact h2 c (List.mem_filter.mpr ⟨hc, hi⟩)
  · simpa [hi] using h
set_option maxRecDepth 65536 in
theorem w_c0 : (Jvm.Cond.code x code maxLocals ret).before args0 about1 = true := code_word (m := ⟨1, 1⟩) (meth := k1m1) (c := k1c1) (by decide +kernel) rfl rfl rfl (by decide +kernel)
set_option maxRecDepth 65536 in
theorem w_c1 : (Jvm.Cond.code ({ cls := "com/example/due_share/dueshare/UriReferenceWithoutFragmentPinLaw", name := "str", desc := "(I)Ljava/lang/String;" } : Jvm.MethodName) method_3_code (4 : Nat) (Option.some (Jvm.ClassFile.FieldType.object "java/lang/String"))).before args0 about1 = true := code_word (m := ⟨1, 2⟩) (meth := k1m2) (c := k1c2) (by decide +kernel) rfl rfl rfl (by decide +kernel)
set_option maxRecDepth 65536 in
theorem w_c2 : (Jvm.Cond.code ({ cls := "java/lang/String", name := "<init>", desc := "([C)V" } : Jvm.MethodName) jdk_42_method_3_code (2 : Nat) (Option.none : Option Jvm.ClassFile.FieldType)).before args0 about1 = true := code_word (m := ⟨7, 1⟩) (meth := k7m1) (c := k7c1) (by decide +kernel) rfl rfl rfl (by decide +kernel)
set_option maxRecDepth 65536 in
theorem w_c3 : (Jvm.Cond.code ({ cls := "java/lang/String", name := "<init>", desc := "([CIILjava/lang/Void;)V" } : Jvm.MethodName) jdk_42_method_149_code (6 : Nat) (Option.none : Option Jvm.ClassFile.FieldType)).before args0 about1 = true := code_word (m := ⟨7, 4⟩) (meth := k7m4) (c := k7c4) (by decide +kernel) rfl rfl rfl (by decide +kernel)
set_option maxRecDepth 65536 in
theorem w_c4 : (Jvm.Cond.code ({ cls := "java/lang/Object", name := "<init>", desc := "()V" } : Jvm.MethodName) object_method_1_code (1 : Nat) (Option.none : Option Jvm.ClassFile.FieldType)).before args0 about1 = true := code_word (m := ⟨0, 0⟩) (meth := k0m0) (c := k0c0) (by decide +kernel) rfl rfl rfl (by decide +kernel)
set_option maxRecDepth 65536 in
theorem w_c5 : (Jvm.Cond.code ({ cls := "com/example/due_share/dueshare/UriReference", name := "<init>", desc := "(Ljava/lang/String;Lcom/example/due_share/dueshare/UriReference$Authority;Ljava/lang/String;Ljava/lang/String;Ljava/lang/String;)V" } : Jvm.MethodName) prog_21_method_1_code (6 : Nat) (Option.none : Option Jvm.ClassFile.FieldType)).before args0 about1 = true := code_word (m := ⟨9, 0⟩) (meth := k9m0) (c := k9c0) (by decide +kernel) rfl rfl rfl (by decide +kernel)
set_option maxRecDepth 65536 in
theorem w_c6 : (Jvm.Cond.code ({ cls := "java/lang/Record", name := "<init>", desc := "()V" } : Jvm.MethodName) jdk_30_method_1_code (1 : Nat) (Option.none : Option Jvm.ClassFile.FieldType)).before args0 about1 = true := code_word (m := ⟨8, 0⟩) (meth := k8m0) (c := k8c0) (by decide +kernel) rfl rfl rfl (by decide +kernel)
set_option maxRecDepth 65536 in
theorem w_c7 : (Jvm.Cond.code ({ cls := "com/example/due_share/dueshare/UriReference", name := "withoutFragment", desc := "()Lcom/example/due_share/dueshare/UriReference;" } : Jvm.MethodName) prog_21_method_7_code (1 : Nat) (Option.some (Jvm.ClassFile.FieldType.object "com/example/due_share/dueshare/UriReference"))).before args0 about1 = true := code_word (m := ⟨9, 1⟩) (meth := k9m1) (c := k9c1) (by decide +kernel) rfl rfl rfl (by decide +kernel)
set_option maxRecDepth 65536 in
theorem w_c8 : (Jvm.Cond.code ({ cls := "com/example/due_share/dueshare/UriReference", name := "fragment", desc := "()Ljava/lang/String;" } : Jvm.MethodName) prog_21_method_26_code (1 : Nat) (Option.some (Jvm.ClassFile.FieldType.object "java/lang/String"))).before args0 about1 = true := code_word (m := ⟨9, 6⟩) (meth := k9m6) (c := k9c6) (by decide +kernel) rfl rfl rfl (by decide +kernel)
set_option maxRecDepth 65536 in
theorem w_c9 : (Jvm.Cond.code ({ cls := "com/example/due_share/dueshare/UriReference", name := "scheme", desc := "()Ljava/lang/String;" } : Jvm.MethodName) prog_21_method_22_code (1 : Nat) (Option.some (Jvm.ClassFile.FieldType.object "java/lang/String"))).before args0 about1 = true := code_word (m := ⟨9, 2⟩) (meth := k9m2) (c := k9c2) (by decide +kernel) rfl rfl rfl (by decide +kernel)
set_option maxRecDepth 65536 in
theorem w_c10 : (Jvm.Cond.code ({ cls := "com/example/due_share/dueshare/UriReferenceWithoutFragmentPinLaw", name := "eq", desc := "(Ljava/lang/String;Ljava/lang/String;)Z" } : Jvm.MethodName) method_4_code (2 : Nat) (Option.some Jvm.ClassFile.FieldType.boolean)).before args0 about1 = true := code_word (m := ⟨1, 3⟩) (meth := k1m3) (c := k1c3) (by decide +kernel) rfl rfl rfl (by decide +kernel)
set_option maxRecDepth 65536 in
theorem w_c11 : (Jvm.Cond.code ({ cls := "com/example/due_share/dueshare/UriReference", name := "authority", desc := "()Lcom/example/due_share/dueshare/UriReference$Authority;" } : Jvm.MethodName) prog_21_method_23_code (1 : Nat) (Option.some (Jvm.ClassFile.FieldType.object "com/example/due_share/dueshare/UriReference$Authority"))).before args0 about1 = true := code_word (m := ⟨9, 3⟩) (meth := k9m3) (c := k9c3) (by decide +kernel) rfl rfl rfl (by decide +kernel)
set_option maxRecDepth 65536 in
theorem w_c12 : (Jvm.Cond.code ({ cls := "com/example/due_share/dueshare/UriReference", name := "path", desc := "()Ljava/lang/String;" } : Jvm.MethodName) prog_21_method_24_code (1 : Nat) (Option.some (Jvm.ClassFile.FieldType.object "java/lang/String"))).before args0 about1 = true := code_word (m := ⟨9, 4⟩) (meth := k9m4) (c := k9c4) (by decide +kernel) rfl rfl rfl (by decide +kernel)
set_option maxRecDepth 65536 in
theorem w_c13 : (Jvm.Cond.code ({ cls := "java/lang/String", name := "equals", desc := "(Ljava/lang/Object;)Z" } : Jvm.MethodName) jdk_42_method_66_code (3 : Nat) (Option.some Jvm.ClassFile.FieldType.boolean)).before args0 about1 = true := code_word (m := ⟨7, 2⟩) (meth := k7m2) (c := k7c2) (by decide +kernel) rfl rfl rfl (by decide +kernel)
set_option maxRecDepth 65536 in
theorem w_c14 : (Jvm.Cond.code ({ cls := "com/example/due_share/dueshare/UriReference", name := "query", desc := "()Ljava/lang/String;" } : Jvm.MethodName) prog_21_method_25_code (1 : Nat) (Option.some (Jvm.ClassFile.FieldType.object "java/lang/String"))).before args0 about1 = true := code_word (m := ⟨9, 5⟩) (meth := k9m5) (c := k9c5) (by decide +kernel) rfl rfl rfl (by decide +kernel)
set_option maxRecDepth 65536 in
theorem w_c15 : (Jvm.Cond.code ({ cls := "com/example/due_share/dueshare/UriReference$Authority", name := "<init>", desc := "(Ljava/lang/String;Ljava/lang/String;I)V" } : Jvm.MethodName) prog_22_method_1_code (4 : Nat) (Option.none : Option Jvm.ClassFile.FieldType)).before args0 about1 = true := code_word (m := ⟨10, 0⟩) (meth := k10m0) (c := k10c0) (by decide +kernel) rfl rfl rfl (by decide +kernel)
set_option maxRecDepth 65536 in
theorem w_c16 : (Jvm.Cond.code ({ cls := "java/lang/StringUTF16", name := "compress", desc := "([CII)[B" } : Jvm.MethodName) jdk_52_method_16_code (6 : Nat) (Option.some (Jvm.ClassFile.FieldType.array Jvm.ClassFile.FieldType.byte))).before args0 about1 = true := code_word (m := ⟨11, 2⟩) (meth := k11m2) (c := k11c2) (by decide +kernel) rfl rfl rfl (by decide +kernel)
set_option maxRecDepth 65536 in
theorem w_c17 : (Jvm.Cond.code ({ cls := "java/lang/StringUTF16", name := "compress", desc := "([CI[BII)I" } : Jvm.MethodName) jdk_52_method_21_code (7 : Nat) (Option.some Jvm.ClassFile.FieldType.int)).before args0 about1 = true := code_word (m := ⟨11, 3⟩) (meth := k11m3) (c := k11c3) (by decide +kernel) rfl rfl rfl (by decide +kernel)
set_option maxRecDepth 65536 in
theorem w_c18 : (Jvm.Cond.code ({ cls := "java/lang/StringUTF16", name := "coderFromArrayLen", desc := "([BI)B" } : Jvm.MethodName) jdk_52_method_15_code (2 : Nat) (Option.some Jvm.ClassFile.FieldType.byte)).before args0 about1 = true := code_word (m := ⟨11, 1⟩) (meth := k11m1) (c := k11c1) (by decide +kernel) rfl rfl rfl (by decide +kernel)
set_option maxRecDepth 65536 in
theorem w_c19 : (Jvm.Cond.code ({ cls := "java/lang/String", name := "valueOf", desc := "(C)Ljava/lang/String;" } : Jvm.MethodName) jdk_42_method_139_code (1 : Nat) (Option.some (Jvm.ClassFile.FieldType.object "java/lang/String"))).before args0 about1 = true := code_word (m := ⟨7, 3⟩) (meth := k7m3) (c := k7c3) (by decide +kernel) rfl rfl rfl (by decide +kernel)
set_option maxRecDepth 65536 in
theorem w_c20 : (Jvm.Cond.code ({ cls := "java/lang/StringLatin1", name := "canEncode", desc := "(C)Z" } : Jvm.MethodName) jdk_43_method_3_code (1 : Nat) (Option.some Jvm.ClassFile.FieldType.boolean)).before args0 about1 = true := code_word (m := ⟨12, 1⟩) (meth := k12m1) (c := k12c1) (by decide +kernel) rfl rfl rfl (by decide +kernel)
set_option maxRecDepth 65536 in
theorem w_c21 : (Jvm.Cond.code ({ cls := "java/lang/StringLatin1", name := "toBytes", desc := "(C)[B" } : Jvm.MethodName) jdk_43_method_46_code (1 : Nat) (Option.some (Jvm.ClassFile.FieldType.array Jvm.ClassFile.FieldType.byte))).before args0 about1 = true := code_word (m := ⟨12, 2⟩) (meth := k12m2) (c := k12c2) (by decide +kernel) rfl rfl rfl (by decide +kernel)
set_option maxRecDepth 65536 in
theorem w_c22 : (Jvm.Cond.code ({ cls := "java/lang/String", name := "<init>", desc := "([BB)V" } : Jvm.MethodName) jdk_42_method_151_code (3 : Nat) (Option.none : Option Jvm.ClassFile.FieldType)).before args0 about1 = true := code_word (m := ⟨7, 5⟩) (meth := k7m5) (c := k7c5) (by decide +kernel) rfl rfl rfl (by decide +kernel)
def codes1 : List Jvm.Cond := [Jvm.Cond.code x code maxLocals ret, Jvm.Cond.code ({ cls := "com/example/due_share/dueshare/UriReferenceWithoutFragmentPinLaw", name := "str", desc := "(I)Ljava/lang/String;" } : Jvm.MethodName) method_3_code (4 : Nat) (Option.some (Jvm.ClassFile.FieldType.object "java/lang/String")), Jvm.Cond.code ({ cls := "java/lang/String", name := "<init>", desc := "([C)V" } : Jvm.MethodName) jdk_42_method_3_code (2 : Nat) (Option.none : Option Jvm.ClassFile.FieldType), Jvm.Cond.code ({ cls := "java/lang/String", name := "<init>", desc := "([CIILjava/lang/Void;)V" } : Jvm.MethodName) jdk_42_method_149_code (6 : Nat) (Option.none : Option Jvm.ClassFile.FieldType), Jvm.Cond.code ({ cls := "java/lang/Object", name := "<init>", desc := "()V" } : Jvm.MethodName) object_method_1_code (1 : Nat) (Option.none : Option Jvm.ClassFile.FieldType), Jvm.Cond.code ({ cls := "com/example/due_share/dueshare/UriReference", name := "<init>", desc := "(Ljava/lang/String;Lcom/example/due_share/dueshare/UriReference$Authority;Ljava/lang/String;Ljava/lang/String;Ljava/lang/String;)V" } : Jvm.MethodName) prog_21_method_1_code (6 : Nat) (Option.none : Option Jvm.ClassFile.FieldType), Jvm.Cond.code ({ cls := "java/lang/Record", name := "<init>", desc := "()V" } : Jvm.MethodName) jdk_30_method_1_code (1 : Nat) (Option.none : Option Jvm.ClassFile.FieldType), Jvm.Cond.code ({ cls := "com/example/due_share/dueshare/UriReference", name := "withoutFragment", desc := "()Lcom/example/due_share/dueshare/UriReference;" } : Jvm.MethodName) prog_21_method_7_code (1 : Nat) (Option.some (Jvm.ClassFile.FieldType.object "com/example/due_share/dueshare/UriReference")), Jvm.Cond.code ({ cls := "com/example/due_share/dueshare/UriReference", name := "fragment", desc := "()Ljava/lang/String;" } : Jvm.MethodName) prog_21_method_26_code (1 : Nat) (Option.some (Jvm.ClassFile.FieldType.object "java/lang/String")), Jvm.Cond.code ({ cls := "com/example/due_share/dueshare/UriReference", name := "scheme", desc := "()Ljava/lang/String;" } : Jvm.MethodName) prog_21_method_22_code (1 : Nat) (Option.some (Jvm.ClassFile.FieldType.object "java/lang/String")), Jvm.Cond.code ({ cls := "com/example/due_share/dueshare/UriReferenceWithoutFragmentPinLaw", name := "eq", desc := "(Ljava/lang/String;Ljava/lang/String;)Z" } : Jvm.MethodName) method_4_code (2 : Nat) (Option.some Jvm.ClassFile.FieldType.boolean), Jvm.Cond.code ({ cls := "com/example/due_share/dueshare/UriReference", name := "authority", desc := "()Lcom/example/due_share/dueshare/UriReference$Authority;" } : Jvm.MethodName) prog_21_method_23_code (1 : Nat) (Option.some (Jvm.ClassFile.FieldType.object "com/example/due_share/dueshare/UriReference$Authority")), Jvm.Cond.code ({ cls := "com/example/due_share/dueshare/UriReference", name := "path", desc := "()Ljava/lang/String;" } : Jvm.MethodName) prog_21_method_24_code (1 : Nat) (Option.some (Jvm.ClassFile.FieldType.object "java/lang/String")), Jvm.Cond.code ({ cls := "java/lang/String", name := "equals", desc := "(Ljava/lang/Object;)Z" } : Jvm.MethodName) jdk_42_method_66_code (3 : Nat) (Option.some Jvm.ClassFile.FieldType.boolean), Jvm.Cond.code ({ cls := "com/example/due_share/dueshare/UriReference", name := "query", desc := "()Ljava/lang/String;" } : Jvm.MethodName) prog_21_method_25_code (1 : Nat) (Option.some (Jvm.ClassFile.FieldType.object "java/lang/String")), Jvm.Cond.code ({ cls := "com/example/due_share/dueshare/UriReference$Authority", name := "<init>", desc := "(Ljava/lang/String;Ljava/lang/String;I)V" } : Jvm.MethodName) prog_22_method_1_code (4 : Nat) (Option.none : Option Jvm.ClassFile.FieldType), Jvm.Cond.code ({ cls := "java/lang/StringUTF16", name := "compress", desc := "([CII)[B" } : Jvm.MethodName) jdk_52_method_16_code (6 : Nat) (Option.some (Jvm.ClassFile.FieldType.array Jvm.ClassFile.FieldType.byte)), Jvm.Cond.code ({ cls := "java/lang/StringUTF16", name := "compress", desc := "([CI[BII)I" } : Jvm.MethodName) jdk_52_method_21_code (7 : Nat) (Option.some Jvm.ClassFile.FieldType.int), Jvm.Cond.code ({ cls := "java/lang/StringUTF16", name := "coderFromArrayLen", desc := "([BI)B" } : Jvm.MethodName) jdk_52_method_15_code (2 : Nat) (Option.some Jvm.ClassFile.FieldType.byte), Jvm.Cond.code ({ cls := "java/lang/String", name := "valueOf", desc := "(C)Ljava/lang/String;" } : Jvm.MethodName) jdk_42_method_139_code (1 : Nat) (Option.some (Jvm.ClassFile.FieldType.object "java/lang/String")), Jvm.Cond.code ({ cls := "java/lang/StringLatin1", name := "canEncode", desc := "(C)Z" } : Jvm.MethodName) jdk_43_method_3_code (1 : Nat) (Option.some Jvm.ClassFile.FieldType.boolean), Jvm.Cond.code ({ cls := "java/lang/StringLatin1", name := "toBytes", desc := "(C)[B" } : Jvm.MethodName) jdk_43_method_46_code (1 : Nat) (Option.some (Jvm.ClassFile.FieldType.array Jvm.ClassFile.FieldType.byte)), Jvm.Cond.code ({ cls := "java/lang/String", name := "<init>", desc := "([BB)V" } : Jvm.MethodName) jdk_42_method_151_code (3 : Nat) (Option.none : Option Jvm.ClassFile.FieldType)]
set_option maxRecDepth 65536 in
theorem codes_eq : words1.filter isCode = codes1 := rfl
theorem w_codes : ∀ c ∈ words1.filter isCode, c.before args0 about1 = true := by
  rw [codes_eq]
  intro c hc
  simp only [codes1, List.mem_cons, List.not_mem_nil, or_false] at hc
  rcases hc with rfl | rfl | rfl | rfl | rfl | rfl | rfl | rfl | rfl | rfl | rfl | rfl | rfl | rfl | rfl | rfl | rfl | rfl | rfl | rfl | rfl | rfl | rfl
  · exact w_c0
  · exact w_c1
  · exact w_c2
  · exact w_c3
  · exact w_c4
  · exact w_c5
  · exact w_c6
  · exact w_c7
  · exact w_c8
  · exact w_c9
  · exact w_c10
  · exact w_c11
  · exact w_c12
  · exact w_c13
  · exact w_c14
  · exact w_c15
  · exact w_c16
  · exact w_c17
  · exact w_c18
  · exact w_c19
  · exact w_c20
  · exact w_c21
  · exact w_c22
set_option maxRecDepth 65536 in
theorem w_t1 : (words1.take 24).all (fun c => isCode c || c.before args0 about1) = true := by decide +kernel
set_option maxRecDepth 65536 in
theorem w_t2 : ((words1.drop 24).take 24).all (fun c => isCode c || c.before args0 about1) = true := by decide +kernel
set_option maxRecDepth 65536 in
theorem w_t3 : (((words1.drop 24).drop 24).take 24).all (fun c => isCode c || c.before args0 about1) = true := by decide +kernel
set_option maxRecDepth 65536 in
theorem w_t4 : ((((words1.drop 24).drop 24).drop 24).take 24).all (fun c => isCode c || c.before args0 about1) = true := by decide +kernel
set_option maxRecDepth 65536 in
theorem w_t5 : (((((words1.drop 24).drop 24).drop 24).drop 24).take 24).all (fun c => isCode c || c.before args0 about1) = true := by decide +kernel
set_option maxRecDepth 65536 in
theorem w_t6 : (((((words1.drop 24).drop 24).drop 24).drop 24).drop 24).all (fun c => isCode c || c.before args0 about1) = true := by decide +kernel
theorem w_tables : (allAtoms (Jvm.Cond.code x code maxLocals ret :: tables_1)).before args0 about1 = true := by
  rw [allAtoms_all]
  show words1.all (fun c => c.before args0 about1) = true
  refine all_split ?_ w_codes
  rw [← List.take_append_drop 24 words1, List.all_append, w_t1, ← List.take_append_drop 24 (words1.drop 24), List.all_append, w_t2, ← List.take_append_drop 24 ((words1.drop 24).drop 24), List.all_append, w_t3, ← List.take_append_drop 24 (((words1.drop 24).drop 24).drop 24), List.all_append, w_t4, ← List.take_append_drop 24 ((((words1.drop 24).drop 24).drop 24).drop 24), List.all_append, w_t5, w_t6]
  rfl
set_option maxRecDepth 65536 in
theorem w_rest : rest_1_c.before args0 about1 = true := by decide +kernel
set_option maxRecDepth 65536 in
theorem w_case : (Jvm.Cond.and given_1 narrow_1).before args0 about1 = true := by decide +kernel
set_option maxRecDepth 65536 in
theorem w_consts : constsHeld consts_1 about1 := Jvm.Lit.constsHeldB_iff.mp (by decide +kernel)
theorem w_applies : (headSpec (Jvm.Cond.code x code maxLocals ret :: tables_1) room_1).applies x e0.platform about1 = true :=
  (Spec.applies_iff w_frames).mpr ⟨w_running, w_runnable, w_alone, w_named, w_hears, w_ripe, w_room, w_tables⟩
theorem atStart : AtStart classFile x code maxLocals ret World_1 tables_1 room_1 Calls_1 rest_1 Pre_1 launch0 p0 e0 about1 theMethod args0 below0 :=
  ⟨lists_1, trivial, launch0.admits_env _ _ _, launch0.least_env, fairChoices_fair.cas, fairChoices_fair.clock, w_frames, w_args, w_heap, w_applies, ⟨w_consts, trivial⟩, w_rest, w_case⟩
end start1
theorem witness_1 : WitnessClaimed_1 := ⟨start1.p0, start1.e0, start1.about1, start1.theMethod, start1.args0, start1.below0, start1.atStart⟩
end Jvm.Pilot.@@N@@
