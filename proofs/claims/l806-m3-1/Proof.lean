import JvmDerived
import JvmDerived.Pilot.@@N@@Statement
import JvmDerived.Pilot.@@N@@Code
set_option linter.unusedVariables false
set_option linter.unusedSimpArgs false
@@BLOCK:HandJ.lean.txt@@
@@BLOCK:SymMore.lean.txt@@
namespace Jvm.OwnKit
open Sem ClassFile Op Lib Jvm.Stand Jvm.Free Jvm.LawKit Jvm.RoadKit
/-- what is fixed in the whole proof: the launch, the start (whose tables the words speak of), its arguments, the least new address -/
abbrev Gx := Launch × State × Array Value × Nat
abbrev Gx.l (G : Gx) : Launch := G.1
abbrev Gx.Z (G : Gx) : State := G.2.1
abbrev Gx.a0 (G : Gx) : Array Value := G.2.2.1
abbrev Gx.n0 (G : Gx) : Nat := G.2.2.2
/-- what is fixed in one body's walk -/
abbrev Kx := Program × Env × State × MethodId × Array Value × List Frame × Method × Code
abbrev Kx.p (K : Kx) : Program := K.1
abbrev Kx.e (K : Kx) : Env := K.2.1
abbrev Kx.s (K : Kx) : State := K.2.2.1
abbrev Kx.m (K : Kx) : MethodId := K.2.2.2.1
abbrev Kx.args (K : Kx) : Array Value := K.2.2.2.2.1
abbrev Kx.below (K : Kx) : List Frame := K.2.2.2.2.2.1
abbrev Kx.meth (K : Kx) : Method := K.2.2.2.2.2.2.1
abbrev Kx.c (K : Kx) : Code := K.2.2.2.2.2.2.2
def Cx (G : Gx) (K : Kx) (own nm : String) (bytes : ByteArray) (maxL : Nat) (ret : Option FieldType) (W : List Jvm.Cond) : Prop :=
  K.p.tables.exec = Jvm.exec ∧ G.Z.Warmed39 K.s.vm ∧ K.c.code = bytes ∧ K.c.maxLocals = maxL ∧ K.s.vm.findClass own = some K.m.cls ∧ K.meth.name = nm ∧ K.meth.sig.returnType = ret ∧ K.meth.locks = false ∧ ∀ d ∈ W, d.before G.a0 G.Z = true
section Cxs
variable {G : Gx} {K : Kx} {own nm : String} {bytes : ByteArray} {maxL : Nat} {ret : Option FieldType} {W : List Jvm.Cond}
theorem Cx.hx (C : Cx G K own nm bytes maxL ret W) : K.p.tables.exec = Jvm.exec := C.1
theorem Cx.hZ (C : Cx G K own nm bytes maxL ret W) : G.Z.Warmed39 K.s.vm := C.2.1
theorem Cx.by (C : Cx G K own nm bytes maxL ret W) : K.c.code = bytes := C.2.2.1
theorem Cx.ml (C : Cx G K own nm bytes maxL ret W) : K.c.maxLocals = maxL := C.2.2.2.1
theorem Cx.ow (C : Cx G K own nm bytes maxL ret W) : K.s.vm.findClass own = some K.m.cls := C.2.2.2.2.1
theorem Cx.name (C : Cx G K own nm bytes maxL ret W) : K.meth.name = nm := C.2.2.2.2.2.1
theorem Cx.rt (C : Cx G K own nm bytes maxL ret W) : K.meth.sig.returnType = ret := C.2.2.2.2.2.2.1
theorem Cx.lk (C : Cx G K own nm bytes maxL ret W) : K.meth.locks = false := C.2.2.2.2.2.2.2.1
theorem Cx.w (C : Cx G K own nm bytes maxL ret W) {i : Nat} {d : Jvm.Cond} (h : W[i]? = some d) : d.before G.a0 G.Z = true := C.2.2.2.2.2.2.2.2 d (List.mem_of_getElem? h)
end Cxs
/-- the run stands in this body at pc with these locals and this stack, over the heap h, having made so many cells and slots: it ends as Q says -/
def NE (G : Gx) (K : Kx) (rm : Room) (Q : State → Outcome → Prop) (h : Heap) (cells slots pc : Nat) (ls : Array Slot) (st : List Value) : Prop :=
  ∀ (T : State) (locs : List Loc), Stand K.p G.l K.e rm K.s K.m K.args K.below K.meth K.c T locs cells slots → T.heap = h → Fr G.n0 locs →
    ∃ s₂ o, Steps K.p.tables K.e K.below (T.setTop (mkF K.m pc ls st)) s₂ ∧ s₂.status = .running ∧ Ended s₂ K.below o ∧ Q s₂ o
/-- the end of a body that interns nothing -/
def EndP (G : Gx) (K : Kx) (rm : Room) (Q : Option Value → Heap → Prop) : State → Outcome → Prop := fun s₂ o => ∃ v L, o = .returned v ∧ (Q v s₂.heap ∧ Fr G.n0 L) ∧ FrameEnd K.s o s₂ L rm.cells rm.slots
abbrev N (G : Gx) (K : Kx) (rm : Room) (Q : Option Value → Heap → Prop) (h : Heap) (cells slots pc : Nat) (ls : Array Slot) (st : List Value) : Prop := NE G K rm (EndP G K rm Q) h cells slots pc ls st
/-- a body's contract -/
def Con (G : Gx) (y : MethodName) (bytes : ByteArray) (maxL : Nat) (ret : Option FieldType) (rm : Room) (as : Array Value) (h : Heap) (Q : Option Value → Heap → Prop) : Prop :=
  ∀ ws : List Jvm.Cond, MetFree G.l y (head1 (Jvm.Cond.code y bytes maxL ret :: ws) rm) (fun a U => a = as ∧ G.Z.Warmed39 U.vm ∧ U.heap = h) (fun _ _ _ _ _ => True) (fun _ U o U' => ∃ v L, o = .returned v ∧ (Q v U'.heap ∧ Fr G.n0 L) ∧ FrameEnd U o U' L rm.cells rm.slots)
theorem Con.of {G : Gx} {y : MethodName} {bytes : ByteArray} {maxL : Nat} {ret : Option FieldType} {rm : Room} {as : Array Value} {h : Heap} {Q : Option Value → Heap → Prop} {W : List Jvm.Cond} {ls : Array Slot} (hpl : plainFor y = true) (hW : ∀ d ∈ W, d.before G.a0 G.Z = true)
    (he : ∀ m, entryFrame m as maxL = mkF m 0 ls []) (body : ∀ K : Kx, Cx G K y.cls y.name bytes maxL ret W → N G K rm Q h 0 0 0 ls []) : Con G y bytes maxL ret rm as h Q := fun ws => by
  refine MetFree.of_bodySF hpl hisR ?_
  intro p e s m args below meth c s₁ Bd hml hP hK
  obtain ⟨rfl, hZ, hh⟩ := hP
  have X0 : Stand p G.l e rm s m args below meth c s₁ [] 0 0 := Stand.of_body Bd
  obtain ⟨s₂, o, h1, h2, h3, h4⟩ := body (p, e, s, m, args, below, meth, c) ⟨Bd.exec, hZ, Bd.bytes, hml, findClass_of_methodNamed Bd.named, (name_of_methodNamed Bd.named Bd.method).1, Bd.returns, BodyLoose.notSynchronized Bd, hW⟩ s₁ [] X0 (by rw [← hh, Bd.state]; rfl) (Fr.nil _)
  exact ⟨s₂, o, castTop (he m) h1, h2, h3, h4⟩
theorem Con.mono {G : Gx} {y : MethodName} {bytes : ByteArray} {maxL : Nat} {ret : Option FieldType} {rm : Room} {as : Array Value} {h : Heap} {Q Q' : Option Value → Heap → Prop} (M : Con G y bytes maxL ret rm as h Q) (f : ∀ v h', Q v h' → Q' v h') : Con G y bytes maxL ret rm as h Q' := fun ws p e ha hc hk s m args below hf happ hP hK => by
  obtain ⟨n, o, h1, h2, h3, v, L, h4, ⟨h5, h6⟩, h7⟩ := M ws p e ha hc hk s m args below hf happ hP hK
  exact ⟨n, o, h1, h2, h3, v, L, h4, ⟨f _ _ h5, h6⟩, h7⟩
def cmpP : ClassFile.Cond → Int32 → Int32 → Prop
  | .eq, x, y => x = y
  | .ne, x, y => ¬ x = y
  | .lt, x, y => x.toInt < y.toInt
  | .ge, x, y => y.toInt ≤ x.toInt
  | .gt, x, y => y.toInt < x.toInt
  | .le, x, y => x.toInt ≤ y.toInt
def cmpN : ClassFile.Cond → Int32 → Int32 → Prop
  | .eq, x, y => ¬ x = y
  | .ne, x, y => x = y
  | .lt, x, y => y.toInt ≤ x.toInt
  | .ge, x, y => x.toInt < y.toInt
  | .gt, x, y => x.toInt ≤ y.toInt
  | .le, x, y => y.toInt < x.toInt
theorem cmp_or (cd : ClassFile.Cond) (x y : Int32) : (if_icmp.holds cd x y = true ∧ cmpP cd x y) ∨ (if_icmp.holds cd x y = false ∧ cmpN cd x y) := by
  have e1 := @Int32.lt_iff_toInt_lt x y
  have e2 := @Int32.lt_iff_toInt_lt y x
  by_cases h1 : x < y
  · obtain ⟨a1, a2, a3, a4⟩ := tlt h1
    have q := e1.mp h1
    have n : ¬ x = y := fun e => by subst e; omega
    obtain ⟨b1, b2⟩ := feq n
    have n' : ¬ y < x := fun z => by have := e2.mp z; omega
    obtain ⟨c1, c2, c3, c4⟩ := flt n'
    cases cd <;> simp only [cmpP, cmpN] <;> simp_all <;> omega
  · obtain ⟨a1, a2, a3, a4⟩ := flt h1
    have q : ¬ x.toInt < y.toInt := fun z => h1 (e1.mpr z)
    by_cases h2 : x = y
    · obtain ⟨b1, b2⟩ := teq h2
      subst h2
      obtain ⟨c1, c2, c3, c4⟩ := flt h1
      cases cd <;> simp only [cmpP, cmpN] <;> simp_all
    · obtain ⟨b1, b2⟩ := feq h2
      have q2 : ¬ x.toInt = y.toInt := fun z => h2 (Int32.toInt_inj.mp z)
      obtain ⟨c1, c2, c3, c4⟩ := tlt (e2.mpr (by omega : y.toInt < x.toInt))
      cases cd <;> simp only [cmpP, cmpN] <;> simp_all <;> omega
def cmpPL : ClassFile.Cond → Int64 → Int64 → Prop
  | .eq, x, y => x = y
  | .ne, x, y => ¬ x = y
  | .lt, x, y => x.toInt < y.toInt
  | .ge, x, y => y.toInt ≤ x.toInt
  | .gt, x, y => y.toInt < x.toInt
  | .le, x, y => x.toInt ≤ y.toInt
def cmpNL : ClassFile.Cond → Int64 → Int64 → Prop
  | .eq, x, y => ¬ x = y
  | .ne, x, y => x = y
  | .lt, x, y => y.toInt ≤ x.toInt
  | .ge, x, y => x.toInt < y.toInt
  | .gt, x, y => x.toInt ≤ y.toInt
  | .le, x, y => y.toInt < x.toInt
theorem cmp_orL (cd : ClassFile.Cond) (x y : Int64) : (ifCond.holds cd (lcmpW x y) = true ∧ cmpPL cd x y) ∨ (ifCond.holds cd (lcmpW x y) = false ∧ cmpNL cd x y) := by
  have hl : (lcmpW x y).toInt < (0 : Int32).toInt ↔ x.toInt < y.toInt := by rw [← Int32.lt_iff_toInt_lt, ← Int64.lt_iff_toInt_lt]; exact lw_lt x y
  have hg : (0 : Int32).toInt < (lcmpW x y).toInt ↔ y.toInt < x.toInt := by rw [← Int32.lt_iff_toInt_lt, ← Int64.lt_iff_toInt_lt]; exact lw_gt x y
  have he := lw_eq x y
  generalize lcmpW x y = z at *
  rw [if0]
  rcases cmp_or cd z 0 with ⟨h1, h2⟩ | ⟨h1, h2⟩
  · refine Or.inl ⟨h1, ?_⟩
    cases cd <;> simp only [cmpP, cmpPL] at h2 ⊢ <;> first | exact he.mp h2 | exact fun q => h2 (he.mpr q) | omega
  · refine Or.inr ⟨h1, ?_⟩
    cases cd <;> simp only [cmpN, cmpNL] at h2 ⊢ <;> first | exact he.mp h2 | exact fun q => h2 (he.mpr q) | omega
/-- the array at x, of that type, holds just these -/
def Av (Z : State) (h : Heap) (x : Addr) (ty : FieldType) (vs : List Value) : Prop := ∃ c : Cell, Arr Z h x c ty ∧ c.slots.toList = vs
theorem ix {j : Int32} {i : Nat} (h : j.toInt = (i : Int)) : ¬ j < 0 ∧ j.toNatClampNeg = i := by
  refine ⟨fun q => ?_, ?_⟩
  · have := Int32.lt_iff_toInt_lt.mp q
    have e0 : (0 : Int32).toInt = 0 := by decide
    omega
  · show j.toInt.toNat = i
    omega
theorem ixin {j : Int32} {i n : Nat} (h : j.toInt = (i : Int)) (hi : i < n) : ¬ (j < 0 ∨ n ≤ j.toNatClampNeg) := by
  obtain ⟨h1, h2⟩ := ix h
  rintro (q | q)
  · exact h1 q
  · omega
theorem eqI {x y : Int32} (h : x = y) : x.toInt = y.toInt := h ▸ rfl
theorem neI {x y : Int32} (h : ¬ x = y) : ¬ x.toInt = y.toInt := fun q => h (Int32.toInt_inj.mp q)
theorem eqL {x y : Int64} (h : x = y) : x.toInt = y.toInt := h ▸ rfl
theorem neL {x y : Int64} (h : ¬ x = y) : ¬ x.toInt = y.toInt := fun q => h (Int64.toInt_inj.mp q)
section Avs
variable {Z : State} {h h' : Heap} {x y : Addr} {ty : FieldType} {vs : List Value} {i : Nat} {v : Value} {sl : Nat} {ws : List Addr}
theorem Av.lt (A : Av Z h x ty vs) : x < h.size := by obtain ⟨c, A, -⟩ := A; exact A.lt
theorem Av.ext (A : Av Z h x ty vs) (E : Ext h h') : Av Z h' x ty vs := by obtain ⟨c, A, r⟩ := A; exact ⟨c, A.ext E, r⟩
theorem Av.other (A : Av Z h x ty vs) (W : Wr h h' y sl v) (q : x ≠ y) : Av Z h' x ty vs := by obtain ⟨c, A, r⟩ := A; exact ⟨c, A.other W q, r⟩
theorem Av.keep (A : Av Z h x ty vs) (K : Keep h h' ws) (q : x ∉ ws) : Av Z h' x ty vs := by obtain ⟨c, A, r⟩ := A; exact ⟨c, ⟨K.2.1 x c A.1 q, A.2⟩, r⟩
theorem Av.same (A : Av Z h x ty vs) (W : Wr h h' x i v) : Av Z h' x ty (vs.set i v) := by
  obtain ⟨c, A, rfl⟩ := A
  exact ⟨_, A.same W, by simp [Cell.setSlot]⟩
theorem Av.new {k : ClassId} {z : Int32} (A : Arr Z h x (newA k ty z) ty) : Av Z h x ty (List.replicate z.toNatClampNeg (defaultValue ty)) := ⟨_, A, by simp [newA]⟩
end Avs
section Rules
variable {G : Gx} {K : Kx} {rm : Room} {own nm : String} {bytes : ByteArray} {maxL : Nat} {ret : Option FieldType} {W : List Jvm.Cond} {Q : State → Outcome → Prop} {Qv : Option Value → Heap → Prop} {h : Heap} {a b pc pc' : Nat} {ls ls' : Array Slot} {st st' : List Value}
theorem N.step (f : ∀ T, At T K.m K.c K.below → ∀ t, Steps K.p.tables K.e K.below (T.setTop (mkF K.m pc' ls' st')) t → Steps K.p.tables K.e K.below (T.setTop (mkF K.m pc ls st)) t) (k : NE G K rm Q h a b pc' ls' st') : NE G K rm Q h a b pc ls st := fun T locs X e F => by
  obtain ⟨s₂, o, hs, r⟩ := k T locs X e F
  exact ⟨s₂, o, f T X.here _ hs, r⟩
theorem N.stX (f : ∀ (T : State) (locs : List Loc), Stand K.p G.l K.e rm K.s K.m K.args K.below K.meth K.c T locs a b → T.heap = h → ∀ t, Steps K.p.tables K.e K.below (T.setTop (mkF K.m pc' ls' st')) t → Steps K.p.tables K.e K.below (T.setTop (mkF K.m pc ls st)) t) (k : NE G K rm Q h a b pc' ls' st') : NE G K rm Q h a b pc ls st := fun T locs X e F => by
  obtain ⟨s₂, o, hs, r⟩ := k T locs X e F
  exact ⟨s₂, o, f T locs X e _ hs, r⟩
theorem N.more {a' b' : Nat} (k : NE G K rm Q h a' b' pc ls st) (ha : a ≤ a') (hb : b ≤ b') : NE G K rm Q h a b pc ls st := fun T locs X e F => k T locs (X.more ha hb) e F

theorem N.iload (C : Cx G K own nm bytes maxL ret W) {k : Nat} {v : Int32} (hd : decode bytes pc = .ok (.iload k, 2)) (hl : ls[k]? = some (.val (.int v))) (hp : pc + 2 = pc') (k : NE G K rm Q h a b pc' ls (.int v :: st)) : NE G K rm Q h a b pc ls (st) := by
  subst hp; exact N.step (fun T A t ht => XS.iload A C.hx rfl (hb C.by hd) hl ht) k
theorem N.iloadN (C : Cx G K own nm bytes maxL ret W) {k : Fin 4} {v : Int32} (hd : decode bytes pc = .ok (.iload_n k, 1)) (hl : ls[k.val]? = some (.val (.int v))) (hp : pc + 1 = pc') (k : NE G K rm Q h a b pc' ls (.int v :: st)) : NE G K rm Q h a b pc ls (st) := by
  subst hp; exact N.step (fun T A t ht => XS.iloadN A C.hx rfl (hb C.by hd) hl ht) k
theorem N.istore (C : Cx G K own nm bytes maxL ret W) {k : Nat} {v : Int32} (hd : decode bytes pc = .ok (.istore k, 2)) (hl : storeLocals ls k (.int v) = some ls') (hp : pc + 2 = pc') (k : NE G K rm Q h a b pc' ls' (st)) : NE G K rm Q h a b pc ls (.int v :: st) := by
  subst hp; exact N.step (fun T A t ht => XS.istore A C.hx rfl (hb C.by hd) rfl hl ht) k
theorem N.istoreN (C : Cx G K own nm bytes maxL ret W) {k : Fin 4} {v : Int32} (hd : decode bytes pc = .ok (.istore_n k, 1)) (hl : storeLocals ls k.val (.int v) = some ls') (hp : pc + 1 = pc') (k : NE G K rm Q h a b pc' ls' (st)) : NE G K rm Q h a b pc ls (.int v :: st) := by
  subst hp; exact N.step (fun T A t ht => XS.istoreN A C.hx rfl (hb C.by hd) rfl hl ht) k
theorem N.iadd (C : Cx G K own nm bytes maxL ret W) {x y : Int32} (hd : decode bytes pc = .ok (.iadd, 1)) (hp : pc + 1 = pc') (k : NE G K rm Q h a b pc' ls (.int (x + y) :: st)) : NE G K rm Q h a b pc ls (.int y :: .int x :: st) := by
  subst hp; exact N.step (fun T A t ht => XS.iadd A C.hx rfl (hb C.by hd) rfl ht) k
theorem N.isub (C : Cx G K own nm bytes maxL ret W) {x y : Int32} (hd : decode bytes pc = .ok (.isub, 1)) (hp : pc + 1 = pc') (k : NE G K rm Q h a b pc' ls (.int (x - y) :: st)) : NE G K rm Q h a b pc ls (.int y :: .int x :: st) := by
  subst hp; exact N.step (fun T A t ht => XS.isub A C.hx rfl (hb C.by hd) rfl ht) k
theorem N.imul (C : Cx G K own nm bytes maxL ret W) {x y : Int32} (hd : decode bytes pc = .ok (.imul, 1)) (hp : pc + 1 = pc') (k : NE G K rm Q h a b pc' ls (.int (x * y) :: st)) : NE G K rm Q h a b pc ls (.int y :: .int x :: st) := by
  subst hp; exact N.step (fun T A t ht => XS.imul A C.hx rfl (hb C.by hd) rfl ht) k
theorem N.iand (C : Cx G K own nm bytes maxL ret W) {x y : Int32} (hd : decode bytes pc = .ok (.iand, 1)) (hp : pc + 1 = pc') (k : NE G K rm Q h a b pc' ls (.int (x &&& y) :: st)) : NE G K rm Q h a b pc ls (.int y :: .int x :: st) := by
  subst hp; exact N.step (fun T A t ht => XS.iand A C.hx rfl (hb C.by hd) rfl ht) k
theorem N.ior (C : Cx G K own nm bytes maxL ret W) {x y : Int32} (hd : decode bytes pc = .ok (.ior, 1)) (hp : pc + 1 = pc') (k : NE G K rm Q h a b pc' ls (.int (x ||| y) :: st)) : NE G K rm Q h a b pc ls (.int y :: .int x :: st) := by
  subst hp; exact N.step (fun T A t ht => XS.ior A C.hx rfl (hb C.by hd) rfl ht) k
theorem N.ixor (C : Cx G K own nm bytes maxL ret W) {x y : Int32} (hd : decode bytes pc = .ok (.ixor, 1)) (hp : pc + 1 = pc') (k : NE G K rm Q h a b pc' ls (.int (x ^^^ y) :: st)) : NE G K rm Q h a b pc ls (.int y :: .int x :: st) := by
  subst hp; exact N.step (fun T A t ht => XS.ixor A C.hx rfl (hb C.by hd) rfl ht) k
theorem N.idiv (C : Cx G K own nm bytes maxL ret W) {x y : Int32} (hd : decode bytes pc = .ok (.idiv, 1)) (hy : y ≠ 0) (hp : pc + 1 = pc') (k : NE G K rm Q h a b pc' ls (.int (x / y) :: st)) : NE G K rm Q h a b pc ls (.int y :: .int x :: st) := by
  subst hp; exact N.step (fun T A t ht => XS.idiv A C.hx rfl (hb C.by hd) rfl hy ht) k
theorem N.ineg (C : Cx G K own nm bytes maxL ret W) {x : Int32} (hd : decode bytes pc = .ok (.ineg, 1)) (hp : pc + 1 = pc') (k : NE G K rm Q h a b pc' ls (.int (-x) :: st)) : NE G K rm Q h a b pc ls (.int x :: st) := by
  subst hp; exact N.step (fun T A t ht => XS.ineg A C.hx rfl (hb C.by hd) rfl ht) k
theorem N.lload (C : Cx G K own nm bytes maxL ret W) {k : Nat} {v : Int64} (hd : decode bytes pc = .ok (.lload k, 2)) (hl : ls[k]? = some (.val (.long v))) (hp : pc + 2 = pc') (k : NE G K rm Q h a b pc' ls (.long v :: st)) : NE G K rm Q h a b pc ls (st) := by
  subst hp; exact N.step (fun T A t ht => XS.lload A C.hx rfl (hb C.by hd) hl ht) k
theorem N.lloadN (C : Cx G K own nm bytes maxL ret W) {k : Fin 4} {v : Int64} (hd : decode bytes pc = .ok (.lload_n k, 1)) (hl : ls[k.val]? = some (.val (.long v))) (hp : pc + 1 = pc') (k : NE G K rm Q h a b pc' ls (.long v :: st)) : NE G K rm Q h a b pc ls (st) := by
  subst hp; exact N.step (fun T A t ht => XS.lloadN A C.hx rfl (hb C.by hd) hl ht) k
theorem N.lstore (C : Cx G K own nm bytes maxL ret W) {k : Nat} {v : Int64} (hd : decode bytes pc = .ok (.lstore k, 2)) (hl : storeLocals ls k (.long v) = some ls') (hp : pc + 2 = pc') (k : NE G K rm Q h a b pc' ls' (st)) : NE G K rm Q h a b pc ls (.long v :: st) := by
  subst hp; exact N.step (fun T A t ht => XS.lstore A C.hx rfl (hb C.by hd) rfl hl ht) k
theorem N.lstoreN (C : Cx G K own nm bytes maxL ret W) {k : Fin 4} {v : Int64} (hd : decode bytes pc = .ok (.lstore_n k, 1)) (hl : storeLocals ls k.val (.long v) = some ls') (hp : pc + 1 = pc') (k : NE G K rm Q h a b pc' ls' (st)) : NE G K rm Q h a b pc ls (.long v :: st) := by
  subst hp; exact N.step (fun T A t ht => XS.lstoreN A C.hx rfl (hb C.by hd) rfl hl ht) k
theorem N.ladd (C : Cx G K own nm bytes maxL ret W) {x y : Int64} (hd : decode bytes pc = .ok (.ladd, 1)) (hp : pc + 1 = pc') (k : NE G K rm Q h a b pc' ls (.long (x + y) :: st)) : NE G K rm Q h a b pc ls (.long y :: .long x :: st) := by
  subst hp; exact N.step (fun T A t ht => XS.ladd A C.hx rfl (hb C.by hd) rfl ht) k
theorem N.lsub (C : Cx G K own nm bytes maxL ret W) {x y : Int64} (hd : decode bytes pc = .ok (.lsub, 1)) (hp : pc + 1 = pc') (k : NE G K rm Q h a b pc' ls (.long (x - y) :: st)) : NE G K rm Q h a b pc ls (.long y :: .long x :: st) := by
  subst hp; exact N.step (fun T A t ht => XS.lsub A C.hx rfl (hb C.by hd) rfl ht) k
theorem N.lmul (C : Cx G K own nm bytes maxL ret W) {x y : Int64} (hd : decode bytes pc = .ok (.lmul, 1)) (hp : pc + 1 = pc') (k : NE G K rm Q h a b pc' ls (.long (x * y) :: st)) : NE G K rm Q h a b pc ls (.long y :: .long x :: st) := by
  subst hp; exact N.step (fun T A t ht => XS.lmul A C.hx rfl (hb C.by hd) rfl ht) k
theorem N.land (C : Cx G K own nm bytes maxL ret W) {x y : Int64} (hd : decode bytes pc = .ok (.land, 1)) (hp : pc + 1 = pc') (k : NE G K rm Q h a b pc' ls (.long (x &&& y) :: st)) : NE G K rm Q h a b pc ls (.long y :: .long x :: st) := by
  subst hp; exact N.step (fun T A t ht => XS.land A C.hx rfl (hb C.by hd) rfl ht) k
theorem N.lor (C : Cx G K own nm bytes maxL ret W) {x y : Int64} (hd : decode bytes pc = .ok (.lor, 1)) (hp : pc + 1 = pc') (k : NE G K rm Q h a b pc' ls (.long (x ||| y) :: st)) : NE G K rm Q h a b pc ls (.long y :: .long x :: st) := by
  subst hp; exact N.step (fun T A t ht => XS.lor A C.hx rfl (hb C.by hd) rfl ht) k
theorem N.lxor (C : Cx G K own nm bytes maxL ret W) {x y : Int64} (hd : decode bytes pc = .ok (.lxor, 1)) (hp : pc + 1 = pc') (k : NE G K rm Q h a b pc' ls (.long (x ^^^ y) :: st)) : NE G K rm Q h a b pc ls (.long y :: .long x :: st) := by
  subst hp; exact N.step (fun T A t ht => XS.lxor A C.hx rfl (hb C.by hd) rfl ht) k
theorem N.ldiv (C : Cx G K own nm bytes maxL ret W) {x y : Int64} (hd : decode bytes pc = .ok (.ldiv, 1)) (hy : y ≠ 0) (hp : pc + 1 = pc') (k : NE G K rm Q h a b pc' ls (.long (x / y) :: st)) : NE G K rm Q h a b pc ls (.long y :: .long x :: st) := by
  subst hp; exact N.step (fun T A t ht => XS.ldiv A C.hx rfl (hb C.by hd) rfl hy ht) k
theorem N.lneg (C : Cx G K own nm bytes maxL ret W) {x : Int64} (hd : decode bytes pc = .ok (.lneg, 1)) (hp : pc + 1 = pc') (k : NE G K rm Q h a b pc' ls (.long (-x) :: st)) : NE G K rm Q h a b pc ls (.long x :: st) := by
  subst hp; exact N.step (fun T A t ht => XS.lneg A C.hx rfl (hb C.by hd) rfl ht) k
theorem N.irem (C : Cx G K own nm bytes maxL ret W) {x y : Int32} (hd : decode bytes pc = .ok (.irem, 1)) (hy : y ≠ 0) (hp : pc + 1 = pc') (k : NE G K rm Q h a b pc' ls (.int (x % y) :: st)) : NE G K rm Q h a b pc ls (.int y :: .int x :: st) := by
  subst hp; exact N.step (fun T A t ht => XS.irem A C.hx rfl (hb C.by hd) rfl hy (by rw [irem_eq_mod]; exact ht)) k
theorem N.lrem (C : Cx G K own nm bytes maxL ret W) {x y : Int64} (hd : decode bytes pc = .ok (.lrem, 1)) (hy : y ≠ 0) (hp : pc + 1 = pc') (k : NE G K rm Q h a b pc' ls (.long (x % y) :: st)) : NE G K rm Q h a b pc ls (.long y :: .long x :: st) := by
  subst hp; exact N.step (fun T A t ht => XS.lrem A C.hx rfl (hb C.by hd) rfl hy (by rw [lrem_mod]; exact ht)) k
theorem N.aload (C : Cx G K own nm bytes maxL ret W) {k : Nat} {v : Value} (hd : decode bytes pc = .ok (.aload k, 2)) (hl : ls[k]? = some (.val v)) (hv : v.isRef = true) (hp : pc + 2 = pc') (k : NE G K rm Q h a b pc' ls (v :: st)) : NE G K rm Q h a b pc ls (st) := by
  subst hp; exact N.step (fun T A t ht => XS.aload A C.hx rfl (hb C.by hd) hl hv ht) k
theorem N.aloadN (C : Cx G K own nm bytes maxL ret W) {k : Fin 4} {v : Value} (hd : decode bytes pc = .ok (.aload_n k, 1)) (hl : ls[k.val]? = some (.val v)) (hv : v.isRef = true) (hp : pc + 1 = pc') (k : NE G K rm Q h a b pc' ls (v :: st)) : NE G K rm Q h a b pc ls (st) := by
  subst hp; exact N.step (fun T A t ht => XS.aloadN A C.hx rfl (hb C.by hd) hl hv ht) k
theorem N.astore (C : Cx G K own nm bytes maxL ret W) {k : Nat} {v : Value} (hd : decode bytes pc = .ok (.astore k, 2)) (hv : v.isRef = true) (hl : storeLocals ls k v = some ls') (hp : pc + 2 = pc') (k : NE G K rm Q h a b pc' ls' (st)) : NE G K rm Q h a b pc ls (v :: st) := by
  subst hp; exact N.step (fun T A t ht => XS.astore A C.hx rfl (hb C.by hd) rfl hv hl ht) k
theorem N.astoreN (C : Cx G K own nm bytes maxL ret W) {k : Fin 4} {v : Value} (hd : decode bytes pc = .ok (.astore_n k, 1)) (hv : v.isRef = true) (hl : storeLocals ls k.val v = some ls') (hp : pc + 1 = pc') (k : NE G K rm Q h a b pc' ls' (st)) : NE G K rm Q h a b pc ls (v :: st) := by
  subst hp; exact N.step (fun T A t ht => XS.astoreN A C.hx rfl (hb C.by hd) rfl hv hl ht) k
theorem N.iconst (C : Cx G K own nm bytes maxL ret W) {i : Int} {z : Int32} (hd : decode bytes pc = .ok (.iconst i, 1)) (hz : Int32.ofInt i = z) (hp : pc + 1 = pc') (k : NE G K rm Q h a b pc' ls (.int z :: st)) : NE G K rm Q h a b pc ls st := by
  subst hp hz; exact N.step (fun T A t ht => XS.iconst A C.hx rfl (hb C.by hd) ht) k
theorem N.bipush (C : Cx G K own nm bytes maxL ret W) {i : Int} {z : Int32} (hd : decode bytes pc = .ok (.bipush i, 2)) (hz : (Int8.ofInt i).toInt32 = z) (hp : pc + 2 = pc') (k : NE G K rm Q h a b pc' ls (.int z :: st)) : NE G K rm Q h a b pc ls st := by
  subst hp hz; exact N.step (fun T A t ht => XS.bipush A C.hx rfl (hb C.by hd) ht) k
theorem N.sipush (C : Cx G K own nm bytes maxL ret W) {i : Int} {z : Int32} (hd : decode bytes pc = .ok (.sipush i, 3)) (hz : (Int16.ofInt i).toInt32 = z) (hp : pc + 3 = pc') (k : NE G K rm Q h a b pc' ls (.int z :: st)) : NE G K rm Q h a b pc ls st := by
  subst hp hz; exact N.step (fun T A t ht => XS.sipush A C.hx rfl (hb C.by hd) ht) k
theorem N.lconst (C : Cx G K own nm bytes maxL ret W) {k : Fin 2} {z : Int64} (hd : decode bytes pc = .ok (.lconst k, 1)) (hz : Int64.ofNat k = z) (hp : pc + 1 = pc') (k : NE G K rm Q h a b pc' ls (.long z :: st)) : NE G K rm Q h a b pc ls st := by
  subst hp hz; exact N.step (fun T A t ht => XS.lconst A C.hx rfl (hb C.by hd) ht) k
theorem N.aconst_null (C : Cx G K own nm bytes maxL ret W)  (hd : decode bytes pc = .ok (.aconst_null, 1)) (hp : pc + 1 = pc') (k : NE G K rm Q h a b pc' ls (.null :: st)) : NE G K rm Q h a b pc ls (st) := by
  subst hp; exact N.step (fun T A t ht => XS.aconstNull A C.hx rfl (hb C.by hd)  ht) k
theorem N.dup (C : Cx G K own nm bytes maxL ret W) {v : Value} (hd : decode bytes pc = .ok (.dup, 1)) (hc : v.category = 1) (hp : pc + 1 = pc') (k : NE G K rm Q h a b pc' ls (v :: v :: st)) : NE G K rm Q h a b pc ls (v :: st) := by
  subst hp; exact N.step (fun T A t ht => XS.dup A C.hx rfl (hb C.by hd) rfl hc ht) k
theorem N.pop (C : Cx G K own nm bytes maxL ret W) {v : Value} (hd : decode bytes pc = .ok (.pop, 1)) (hc : v.category = 1) (hp : pc + 1 = pc') (k : NE G K rm Q h a b pc' ls (st)) : NE G K rm Q h a b pc ls (v :: st) := by
  subst hp; exact N.step (fun T A t ht => XS.pop A C.hx rfl (hb C.by hd) rfl hc ht) k
theorem N.dup_x1 (C : Cx G K own nm bytes maxL ret W) {v w : Value} (hd : decode bytes pc = .ok (.dup_x1, 1)) (hc : v.category = 1) (hc' : w.category = 1) (hp : pc + 1 = pc') (k : NE G K rm Q h a b pc' ls (v :: w :: v :: st)) : NE G K rm Q h a b pc ls (v :: w :: st) := by
  subst hp; exact N.step (fun T A t ht => XS.dupX1 A C.hx rfl (hb C.by hd) rfl hc hc' ht) k
theorem N.dup2 (C : Cx G K own nm bytes maxL ret W) {v w : Value} (hd : decode bytes pc = .ok (.dup2, 1)) (hc : v.category = 1) (hc' : w.category = 1) (hp : pc + 1 = pc') (k : NE G K rm Q h a b pc' ls (v :: w :: v :: w :: st)) : NE G K rm Q h a b pc ls (v :: w :: st) := by
  subst hp; exact N.step (fun T A t ht => XT.dup2 A C.hx rfl (hb C.by hd) rfl hc hc' ht) k
theorem N.dup2L (C : Cx G K own nm bytes maxL ret W) {x : Int64} (hd : decode bytes pc = .ok (.dup2, 1)) (hp : pc + 1 = pc') (k : NE G K rm Q h a b pc' ls (.long x :: .long x :: st)) : NE G K rm Q h a b pc ls (.long x :: st) := by
  subst hp; exact N.step (fun T A t ht => XT.dup2L A C.hx rfl (hb C.by hd) rfl ht) k
theorem N.i2l (C : Cx G K own nm bytes maxL ret W) {x : Int32} (hd : decode bytes pc = .ok (.i2l, 1)) (hp : pc + 1 = pc') (k : NE G K rm Q h a b pc' ls (.long (x.toInt64) :: st)) : NE G K rm Q h a b pc ls (.int x :: st) := by
  subst hp; exact N.step (fun T A t ht => XS.i2l A C.hx rfl (hb C.by hd) rfl ht) k
theorem N.l2i (C : Cx G K own nm bytes maxL ret W) {x : Int64} (hd : decode bytes pc = .ok (.l2i, 1)) (hp : pc + 1 = pc') (k : NE G K rm Q h a b pc' ls (.int (x.toInt32) :: st)) : NE G K rm Q h a b pc ls (.long x :: st) := by
  subst hp; exact N.step (fun T A t ht => XS.l2i A C.hx rfl (hb C.by hd) rfl ht) k
theorem N.i2b (C : Cx G K own nm bytes maxL ret W) {x : Int32} (hd : decode bytes pc = .ok (.i2b, 1)) (hp : pc + 1 = pc') (k : NE G K rm Q h a b pc' ls (.int (x.toInt8.toInt32) :: st)) : NE G K rm Q h a b pc ls (.int x :: st) := by
  subst hp; exact N.step (fun T A t ht => XS.i2b A C.hx rfl (hb C.by hd) rfl ht) k
theorem N.i2s (C : Cx G K own nm bytes maxL ret W) {x : Int32} (hd : decode bytes pc = .ok (.i2s, 1)) (hp : pc + 1 = pc') (k : NE G K rm Q h a b pc' ls (.int (x.toInt16.toInt32) :: st)) : NE G K rm Q h a b pc ls (.int x :: st) := by
  subst hp; exact N.step (fun T A t ht => XS.i2s A C.hx rfl (hb C.by hd) rfl ht) k
theorem N.i2c (C : Cx G K own nm bytes maxL ret W) {x : Int32} (hd : decode bytes pc = .ok (.i2c, 1)) (hp : pc + 1 = pc') (k : NE G K rm Q h a b pc' ls (.int (x.toUInt32.toUInt16.toUInt32.toInt32) :: st)) : NE G K rm Q h a b pc ls (.int x :: st) := by
  subst hp; exact N.step (fun T A t ht => XS.i2c A C.hx rfl (hb C.by hd) rfl ht) k
theorem N.ishl (C : Cx G K own nm bytes maxL ret W) {x y : Int32} (hd : decode bytes pc = .ok (.ishl, 1)) (hp : pc + 1 = pc') (k : NE G K rm Q h a b pc' ls (.int (x <<< (y &&& 31)) :: st)) : NE G K rm Q h a b pc ls (.int y :: .int x :: st) := by
  subst hp; exact N.step (fun T A t ht => XS.ishl A C.hx rfl (hb C.by hd) rfl ht) k
theorem N.ishr (C : Cx G K own nm bytes maxL ret W) {x y : Int32} (hd : decode bytes pc = .ok (.ishr, 1)) (hp : pc + 1 = pc') (k : NE G K rm Q h a b pc' ls (.int (x >>> (y &&& 31)) :: st)) : NE G K rm Q h a b pc ls (.int y :: .int x :: st) := by
  subst hp; exact N.step (fun T A t ht => XS.ishr A C.hx rfl (hb C.by hd) rfl ht) k
theorem N.iushr (C : Cx G K own nm bytes maxL ret W) {x y : Int32} (hd : decode bytes pc = .ok (.iushr, 1)) (hp : pc + 1 = pc') (k : NE G K rm Q h a b pc' ls (.int ((x.toUInt32 >>> (y &&& 31).toUInt32).toInt32) :: st)) : NE G K rm Q h a b pc ls (.int y :: .int x :: st) := by
  subst hp; exact N.step (fun T A t ht => XS.iushr A C.hx rfl (hb C.by hd) rfl ht) k
theorem N.lshl (C : Cx G K own nm bytes maxL ret W) {x : Int64} {y : Int32} (hd : decode bytes pc = .ok (.lshl, 1)) (hp : pc + 1 = pc') (k : NE G K rm Q h a b pc' ls (.long (x <<< (y &&& 0x3f).toInt64) :: st)) : NE G K rm Q h a b pc ls (.int y :: .long x :: st) := by
  subst hp; exact N.step (fun T A t ht => XS.lshl A C.hx rfl (hb C.by hd) rfl ht) k
theorem N.lshr (C : Cx G K own nm bytes maxL ret W) {x : Int64} {y : Int32} (hd : decode bytes pc = .ok (.lshr, 1)) (hp : pc + 1 = pc') (k : NE G K rm Q h a b pc' ls (.long (x >>> (y &&& 0x3f).toInt64) :: st)) : NE G K rm Q h a b pc ls (.int y :: .long x :: st) := by
  subst hp; exact N.step (fun T A t ht => XS.lshr A C.hx rfl (hb C.by hd) rfl ht) k
theorem N.lushr (C : Cx G K own nm bytes maxL ret W) {x : Int64} {y : Int32} (hd : decode bytes pc = .ok (.lushr, 1)) (hp : pc + 1 = pc') (k : NE G K rm Q h a b pc' ls (.long ((x.toUInt64 >>> (y &&& 0x3f).toInt64.toUInt64).toInt64) :: st)) : NE G K rm Q h a b pc ls (.int y :: .long x :: st) := by
  subst hp; exact N.step (fun T A t ht => XS.lushr A C.hx rfl (hb C.by hd) rfl ht) k
theorem N.dload (C : Cx G K own nm bytes maxL ret W) {k : Nat} {v : UInt64} (hd : decode bytes pc = .ok (.dload k, 2)) (hl : ls[k]? = some (.val (.double v))) (hp : pc + 2 = pc') (k : NE G K rm Q h a b pc' ls (.double v :: st)) : NE G K rm Q h a b pc ls (st) := by
  subst hp; exact N.step (fun T A t ht => XS.dload A C.hx rfl (hb C.by hd) hl ht) k
theorem N.dloadN (C : Cx G K own nm bytes maxL ret W) {k : Fin 4} {v : UInt64} (hd : decode bytes pc = .ok (.dload_n k, 1)) (hl : ls[k.val]? = some (.val (.double v))) (hp : pc + 1 = pc') (k : NE G K rm Q h a b pc' ls (.double v :: st)) : NE G K rm Q h a b pc ls (st) := by
  subst hp; exact N.step (fun T A t ht => XS.dloadN A C.hx rfl (hb C.by hd) hl ht) k
theorem N.dstore (C : Cx G K own nm bytes maxL ret W) {k : Nat} {v : UInt64} (hd : decode bytes pc = .ok (.dstore k, 2)) (hl : storeLocals ls k (.double v) = some ls') (hp : pc + 2 = pc') (k : NE G K rm Q h a b pc' ls' (st)) : NE G K rm Q h a b pc ls (.double v :: st) := by
  subst hp; exact N.step (fun T A t ht => XS.dstore A C.hx rfl (hb C.by hd) rfl hl ht) k
theorem N.dstoreN (C : Cx G K own nm bytes maxL ret W) {k : Fin 4} {v : UInt64} (hd : decode bytes pc = .ok (.dstore_n k, 1)) (hl : storeLocals ls k.val (.double v) = some ls') (hp : pc + 1 = pc') (k : NE G K rm Q h a b pc' ls' (st)) : NE G K rm Q h a b pc ls (.double v :: st) := by
  subst hp; exact N.step (fun T A t ht => XS.dstoreN A C.hx rfl (hb C.by hd) rfl hl ht) k
theorem N.i2d (C : Cx G K own nm bytes maxL ret W) {x : Int32} (hd : decode bytes pc = .ok (.i2d, 1)) (hp : pc + 1 = pc') (k : NE G K rm Q h a b pc' ls (.double (FP.i2d x) :: st)) : NE G K rm Q h a b pc ls (.int x :: st) := by
  subst hp; exact N.step (fun T A t ht => XS.i2dS A C.hx rfl (hb C.by hd) rfl rfl ht) k
theorem N.dcmp (C : Cx G K own nm bytes maxL ret W) {o : CmpOp} {x y : UInt64} (hd : decode bytes pc = .ok (.dcmp o, 1)) (hp : pc + 1 = pc') (k : NE G K rm Q h a b pc' ls (.int (cmpValue (FP.dcmp x y) o) :: st)) : NE G K rm Q h a b pc ls (.double y :: .double x :: st) := by
  subst hp; exact N.step (fun T A t ht => XS.dcmpS A C.hx rfl (hb C.by hd) rfl rfl ht) k
theorem N.dup2_x1L (C : Cx G K own nm bytes maxL ret W) {x : Int64} {y : Addr} (hd : decode bytes pc = .ok (.dup2_x1, 1)) (hp : pc + 1 = pc') (k : NE G K rm Q h a b pc' ls (.long x :: .ref y :: .long x :: st)) : NE G K rm Q h a b pc ls (.long x :: .ref y :: st) := by
  subst hp
  refine N.step (fun T A t ht => ?_) k
  have hx := C.hx
  have hd' := hb C.by hd
  jvm_step A [A.top, hx, hd', Value.category]
  exact ht
theorem N.lcmp (C : Cx G K own nm bytes maxL ret W) {x y : Int64} (hd : decode bytes pc = .ok (.lcmp, 1)) (hp : pc + 1 = pc') (k : NE G K rm Q h a b pc' ls (.int (lcmpW x y) :: st)) : NE G K rm Q h a b pc ls (.long y :: .long x :: st) := by
  subst hp; exact N.step (fun T A t ht => XS.lcmp A C.hx rfl (hb C.by hd) rfl ht) k
theorem N.iinc (C : Cx G K own nm bytes maxL ret W) {k : Nat} {cst : Int} {x z : Int32} (hd : decode bytes pc = .ok (.iinc k cst, 3)) (hl : ls[k]? = some (.val (.int x))) (hz : Int32.ofInt cst = z) (hl' : storeLocals ls k (.int (x + z)) = some ls') (hp : pc + 3 = pc') (k : NE G K rm Q h a b pc' ls' st) : NE G K rm Q h a b pc ls st := by
  subst hp hz; exact N.step (fun T A t ht => XS.iinc A C.hx rfl (hb C.by hd) hl hl' ht) k
theorem N.goto (C : Cx G K own nm bytes maxL ret W) {o : Int} (hd : decode bytes pc = .ok (.goto o, 3)) (hp : (pc : Int) + o = (pc' : Nat)) (k : NE G K rm Q h a b pc' ls st) : NE G K rm Q h a b pc ls st :=
  N.step (fun T A t ht => XS.goto A C.hx rfl (pc0 := pc) rfl (hb C.by hd) (by omega) (by omega) ht) k
theorem N.icmp (C : Cx G K own nm bytes maxL ret W) {cd : ClassFile.Cond} {o : Int} {x y : Int32} {pt pf : Nat} (hd : decode bytes pc = .ok (.if_icmp cd o, 3)) (ht : (pc : Int) + o = (pt : Nat)) (hf : pc + 3 = pf) (kt : cmpP cd x y → NE G K rm Q h a b pt ls st) (kf : cmpN cd x y → NE G K rm Q h a b pf ls st) : NE G K rm Q h a b pc ls (.int y :: .int x :: st) := by
  subst hf
  rcases cmp_or cd x y with ⟨h1, h2⟩ | ⟨h1, h2⟩
  · exact N.step (fun T A t k => XS.icmpYes A C.hx rfl (pc0 := pc) rfl (hb C.by hd) rfl h1 (by omega) (by omega) k) (kt h2)
  · exact N.step (fun T A t k => XS.icmpNo A C.hx rfl (hb C.by hd) rfl h1 k) (kf h2)
theorem N.ifc (C : Cx G K own nm bytes maxL ret W) {cd : ClassFile.Cond} {o : Int} {x : Int32} {pt pf : Nat} (hd : decode bytes pc = .ok (.ifCond cd o, 3)) (ht : (pc : Int) + o = (pt : Nat)) (hf : pc + 3 = pf) (kt : cmpP cd x 0 → NE G K rm Q h a b pt ls st) (kf : cmpN cd x 0 → NE G K rm Q h a b pf ls st) : NE G K rm Q h a b pc ls (.int x :: st) := by
  subst hf
  rcases cmp_or cd x 0 with ⟨h1, h2⟩ | ⟨h1, h2⟩
  · exact N.step (fun T A t k => XS.ifYes A C.hx rfl (pc0 := pc) rfl (hb C.by hd) rfl ((if0 _ _).trans h1) (by omega) (by omega) k) (kt h2)
  · exact N.step (fun T A t k => XS.ifNo A C.hx rfl (hb C.by hd) rfl ((if0 _ _).trans h1) k) (kf h2)
/-- behind lcmp -/
theorem N.lif (C : Cx G K own nm bytes maxL ret W) {cd : ClassFile.Cond} {o : Int} {x y : Int64} {pt pf : Nat} (hd : decode bytes pc = .ok (.ifCond cd o, 3)) (ht : (pc : Int) + o = (pt : Nat)) (hf : pc + 3 = pf) (kt : cmpPL cd x y → NE G K rm Q h a b pt ls st) (kf : cmpNL cd x y → NE G K rm Q h a b pf ls st) : NE G K rm Q h a b pc ls (.int (lcmpW x y) :: st) := by
  subst hf
  rcases cmp_orL cd x y with ⟨h1, h2⟩ | ⟨h1, h2⟩
  · exact N.step (fun T A t k => XS.ifYes A C.hx rfl (pc0 := pc) rfl (hb C.by hd) rfl h1 (by omega) (by omega) k) (kt h2)
  · exact N.step (fun T A t k => XS.ifNo A C.hx rfl (hb C.by hd) rfl h1 k) (kf h2)
theorem N.ifnull0 (C : Cx G K own nm bytes maxL ret W) {o : Int} (hd : decode bytes pc = .ok (.ifnull o, 3)) (ht : (pc : Int) + o = (pc' : Nat)) (k : NE G K rm Q h a b pc' ls st) : NE G K rm Q h a b pc ls (.null :: st) :=
  N.step (fun T A t k => XS.ifnullYes A C.hx rfl (pc0 := pc) rfl (hb C.by hd) rfl (by omega) (by omega) k) k
theorem N.ifnull1 (C : Cx G K own nm bytes maxL ret W) {o : Int} {x : Addr} (hd : decode bytes pc = .ok (.ifnull o, 3)) (hp : pc + 3 = pc') (k : NE G K rm Q h a b pc' ls st) : NE G K rm Q h a b pc ls (.ref x :: st) := by
  subst hp; exact N.step (fun T A t k => XS.ifnullNo A C.hx rfl (hb C.by hd) rfl k) k
theorem N.ifnonnull1 (C : Cx G K own nm bytes maxL ret W) {o : Int} {x : Addr} (hd : decode bytes pc = .ok (.ifnonnull o, 3)) (ht : (pc : Int) + o = (pc' : Nat)) (k : NE G K rm Q h a b pc' ls st) : NE G K rm Q h a b pc ls (.ref x :: st) :=
  N.step (fun T A t k => XS.ifnonnullYes A C.hx rfl (pc0 := pc) rfl (hb C.by hd) rfl (by omega) (by omega) k) k
theorem N.ifnonnull0 (C : Cx G K own nm bytes maxL ret W) {o : Int} (hd : decode bytes pc = .ok (.ifnonnull o, 3)) (hp : pc + 3 = pc') (k : NE G K rm Q h a b pc' ls st) : NE G K rm Q h a b pc ls (.null :: st) := by
  subst hp; exact N.step (fun T A t k => XS.ifnonnullNo A C.hx rfl (hb C.by hd) rfl k) k
theorem N.acmp (C : Cx G K own nm bytes maxL ret W) {cd : ACond} {o : Int} {v w : Value} (same : Bool) (hd : decode bytes pc = .ok (.if_acmp cd o, 3)) (h1 : v.isRef = true) (h2 : w.isRef = true) (hq : decide (v = w) = same) (ho : 0 ≤ (pc : Int) + o) (hp : pc' = if acV cd same = true then ((pc : Int) + o).toNat else pc + 3) (k : NE G K rm Q h a b pc' ls st) : NE G K rm Q h a b pc ls (w :: v :: st) :=
  N.stX (fun T locs X e t ht => Jvm.RoadKit.acmp (g := mkF K.m pc ls (w :: v :: st)) X C.hx rfl h1 h2 rfl (hb C.by hd) rfl hq ho hp ht) k
theorem N.ldcI (C : Cx G K own nm bytes maxL ret W) {i : Nat} {v : Int32} (hd : decode bytes pc = .ok (.ldc i, 2)) (w : (Jvm.Cond.constant own i v).before G.a0 G.Z = true) (hp : pc + 2 = pc') (k : NE G K rm Q h a b pc' ls (.int v :: st)) : NE G K rm Q h a b pc ls st := by
  subst hp; exact N.stX (fun T locs X e t ht => X.ldcInt C.hx C.ow (mvT C.hZ w) (g := mkF K.m pc ls st) rfl (hb C.by hd) t ht) k
theorem N.ldcwI (C : Cx G K own nm bytes maxL ret W) {i : Nat} {v : Int32} (hd : decode bytes pc = .ok (.ldc_w i, 3)) (w : (Jvm.Cond.constant own i v).before G.a0 G.Z = true) (hp : pc + 3 = pc') (k : NE G K rm Q h a b pc' ls (.int v :: st)) : NE G K rm Q h a b pc ls st := by
  subst hp; exact N.stX (fun T locs X e t ht => X.ldcwInt C.hx C.ow (mvT C.hZ w) (g := mkF K.m pc ls st) rfl (hb C.by hd) t ht) k
theorem N.ldcL (C : Cx G K own nm bytes maxL ret W) {i : Nat} {v : Int64} (hd : decode bytes pc = .ok (.ldc2_w i, 3)) (w : (Jvm.Cond.constantLong own i v).before G.a0 G.Z = true) (hp : pc + 3 = pc') (k : NE G K rm Q h a b pc' ls (.long v :: st)) : NE G K rm Q h a b pc ls st := by
  subst hp; exact N.stX (fun T locs X e t ht => X.ldc2Long C.hx C.ow (mvT C.hZ w) (g := mkF K.m pc ls st) rfl (hb C.by hd) t ht) k
theorem N.getF (C : Cx G K own nm bytes maxL ret W) {O n d : String} {i : Nat} {x : Addr} {v : Value} (hd : decode bytes pc = .ok (.getfield i, 3)) (w : (Jvm.Cond.fieldLink own i O n d).before G.a0 G.Z = true) (F : Fld G.Z h x O n d v) (hp : pc + 3 = pc') (k : NE G K rm Q h a b pc' ls (v :: st)) : NE G K rm Q h a b pc ls (.ref x :: st) := fun T locs X e N0 => by
  subst hp
  obtain ⟨T', X', e', s'⟩ := Jvm.RoadKit.getF X C.hx C.hZ C.ow (host := "") (Or.inl w) Via.refl e F (g := mkF K.m pc ls (.ref x :: st)) rfl rfl (hb C.by hd)
  obtain ⟨s₂, o, hs, r⟩ := k T' locs X' e' N0
  exact ⟨s₂, o, s' _ hs, r⟩
theorem N.getFN (C : Cx G K own nm bytes maxL ret W) {O n d host : String} {i : Nat} {x : Addr} {v : Value} (hd : decode bytes pc = .ok (.getfield i, 3)) (w : (Jvm.Cond.fieldLinkNest own i O n d host).before G.a0 G.Z = true) (F : Fld G.Z h x O n d v) (hp : pc + 3 = pc') (k : NE G K rm Q h a b pc' ls (v :: st)) : NE G K rm Q h a b pc ls (.ref x :: st) := fun T locs X e N0 => by
  subst hp
  obtain ⟨T', X', e', s'⟩ := Jvm.RoadKit.getF X C.hx C.hZ C.ow (Or.inr w) Via.refl e F (g := mkF K.m pc ls (.ref x :: st)) rfl rfl (hb C.by hd)
  obtain ⟨s₂, o, hs, r⟩ := k T' locs X' e' N0
  exact ⟨s₂, o, s' _ hs, r⟩
theorem N.putF (C : Cx G K own nm bytes maxL ret W) {O n d Cn : String} {i kk : Nat} {ty : FieldType} {x : Addr} {v old : Value} (hd : decode bytes pc = .ok (.putfield i, 3)) (w : (Jvm.Cond.fieldLink own i O n d).before G.a0 G.Z = true) (F : Fld G.Z h x O n d old) (E : Exa G.Z h x Cn)
    (L : (Jvm.Cond.lays Cn O n d).before G.a0 G.Z = true ∨ ((Jvm.Cond.laysFinal Cn O n d).before G.a0 G.Z = true ∧ own = O ∧ nm = "<init>")) (wi : (Jvm.Cond.instantiable Cn kk).before G.a0 G.Z = true) (hty : parseFieldDescriptor d = some ty) (hn : narrow ty v = v) (hf : fits ty v = true) (hx : G.n0 ≤ x) (hp : pc + 3 = pc')
    (k : ∀ h', Wr h h' x (Jvm.RoadKit.slotOf G.Z O n d) v → NE G K rm Q h' a b pc' ls st) : NE G K rm Q h a b pc ls (v :: .ref x :: st) := fun T locs X e N0 => by
  subst hp
  obtain ⟨T', h', X', e', W', s'⟩ := Jvm.RoadKit.putF X C.hx C.hZ C.ow (host := "") (Or.inl w) Via.refl e F E (L.imp id fun q => ⟨q.1, q.2.1, C.name.trans q.2.2⟩) wi hty hn hf (g := mkF K.m pc ls (v :: .ref x :: st)) rfl rfl (hb C.by hd)
  obtain ⟨s₂, o, hs, r⟩ := k h' W' T' _ X' e' (Fr.snoc X' N0 hx)
  exact ⟨s₂, o, s' _ hs, r⟩
theorem N.putFN (C : Cx G K own nm bytes maxL ret W) {O n d Cn : String} {i kk : Nat} {ty : FieldType} {x : Addr} {v v' old : Value} (hd : decode bytes pc = .ok (.putfield i, 3)) (w : (Jvm.Cond.fieldLink own i O n d).before G.a0 G.Z = true) (F : Fld G.Z h x O n d old) (E : Exa G.Z h x Cn)
    (L : (Jvm.Cond.lays Cn O n d).before G.a0 G.Z = true ∨ ((Jvm.Cond.laysFinal Cn O n d).before G.a0 G.Z = true ∧ own = O ∧ nm = "<init>")) (wi : (Jvm.Cond.instantiable Cn kk).before G.a0 G.Z = true) (hty : parseFieldDescriptor d = some ty) (hn : narrow ty v = v') (hf : fits ty v' = true) (hx : G.n0 ≤ x) (hp : pc + 3 = pc')
    (k : ∀ h', Wr h h' x (Jvm.RoadKit.slotOf G.Z O n d) v' → NE G K rm Q h' a b pc' ls st) : NE G K rm Q h a b pc ls (v :: .ref x :: st) := fun T locs X e N0 => by
  subst hp
  obtain ⟨T', h', X', e', W', s'⟩ := Jvm.RoadKit.putFN X C.hx C.hZ C.ow w Via.refl e F E (L.imp id fun q => ⟨q.1, q.2.1, C.name.trans q.2.2⟩) wi hty hn hf (g := mkF K.m pc ls (v :: .ref x :: st)) rfl rfl (hb C.by hd)
  obtain ⟨s₂, o, hs, r⟩ := k h' W' T' _ X' e' (Fr.snoc X' N0 hx)
  exact ⟨s₂, o, s' _ hs, r⟩
theorem N.getS (C : Cx G K own nm bytes maxL ret W) {O n d : String} {i : Nat} {v : Value} (hd : decode bytes pc = .ok (.getstatic i, 3)) (w : (Jvm.Cond.fieldLink own i O n d).before G.a0 G.Z = true) (F : Sta G.Z h O n d v) (hp : pc + 3 = pc') (k : NE G K rm Q h a b pc' ls (v :: st)) : NE G K rm Q h a b pc ls st := fun T locs X e N0 => by
  subst hp
  obtain ⟨T', X', e', s'⟩ := Jvm.RoadKit.getS X C.hx C.hZ (host := "") C.ow w Via.refl e F (g := mkF K.m pc ls st) rfl (hb C.by hd)
  obtain ⟨s₂, o, hs, r⟩ := k T' locs X' e' N0
  exact ⟨s₂, o, s' _ hs, r⟩
theorem N.newO (C : Cx G K own nm bytes maxL ret W) {Cn : String} {i n : Nat} (hd : decode bytes pc = .ok (.new i, 3)) (w : (Jvm.Cond.classLink own i Cn).before G.a0 G.Z = true) (wi : (Jvm.Cond.instantiable Cn n).before G.a0 G.Z = true) (wz : (Jvm.Cond.initialized Cn).before G.a0 G.Z = true) (hc : a + 1 ≤ rm.cells) (hl : b + n ≤ rm.slots) (hp : pc + 3 = pc')
    (k : ∀ (h' : Heap) (x : Addr), x = h.size → Ext h h' → Exa G.Z h' x Cn → (∀ {O f d : String} {ty : FieldType}, Laid G.Z G.a0 Cn O f d → parseFieldDescriptor d = some ty → Fld G.Z h' x O f d (defaultValue ty)) → NE G K rm Q h' (a + 1) (b + n) pc' ls (.ref x :: st)) : NE G K rm Q h a b pc ls st := fun T locs X e N0 => by
  subst hp
  obtain ⟨T', h', X', e', E', A', D', -, s'⟩ := Jvm.RoadKit.newO X C.hx C.hZ C.ow w wi wz e (g := mkF K.m pc ls st) rfl (hb C.by hd) hc hl
  obtain ⟨s₂, o, hs, r⟩ := k h' _ rfl E' A' D' T' locs X' e' N0
  exact ⟨s₂, o, s' _ hs, r⟩
theorem N.newP (C : Cx G K own nm bytes maxL ret W) {aty : ArrayType} {n : Int32} (cap : Nat) (hd : decode bytes pc = .ok (.newarray aty, 2)) (w : (Jvm.Cond.arrayClass (newarray.typeOf aty)).before G.a0 G.Z = true) (hn : 0 ≤ n.toInt) (hcap : n.toInt ≤ (cap : Int)) (hb8 : cap * 8 ≤ 536870912) (hc : a + 1 ≤ rm.cells) (hl : b + cap ≤ rm.slots) (hp : pc + 2 = pc')
    (k : ∀ (h' : Heap) (x : Addr), x = h.size → Ext h h' → Av G.Z h' x (newarray.typeOf aty) (List.replicate n.toInt.toNat (defaultValue (newarray.typeOf aty))) → NE G K rm Q h' (a + 1) (b + cap) pc' ls (.ref x :: st)) : NE G K rm Q h a b pc ls (.int n :: st) := fun T locs X e N0 => by
  subst hp
  have hneg : ¬ n < 0 := fun q => by
    have := Int32.lt_iff_toInt_lt.mp q
    have e0 : (0 : Int32).toInt = 0 := by decide
    omega
  obtain ⟨T', h', cA, X', e', E', A', s'⟩ := Jvm.RoadKit.newP X C.hx C.hZ w e (g := mkF K.m pc ls (.int n :: st)) rfl (hb C.by hd) rfl hneg (cap := cap) (by show n.toInt.toNat ≤ cap; omega) hb8 hc hl
  obtain ⟨s₂, o, hs, r⟩ := k h' _ rfl E' (Av.new A') T' locs X' e' N0
  exact ⟨s₂, o, s' _ hs, r⟩
theorem N.initO (C : Cx G K own nm bytes maxL ret W) {i : Nat} {x : Addr} (hd : decode bytes pc = .ok (.invokespecial i, 3)) (w1 : (Jvm.Cond.methodLink own i Lib.objectInit).before G.a0 G.Z = true) (w2 : (Jvm.Cond.instanceMethod Lib.objectInit).before G.a0 G.Z = true) (w3 : (Jvm.Cond.code Lib.objectInit ⟨#[0xb1]⟩ 1 none).before G.a0 G.Z = true) (hsz : ls.size = maxL) (hf : 1 ≤ rm.frames) (hl : (st.map fun v => v.category).sum + 12 ≤ rm.locals) (hp : pc + 3 = pc')
    (k : NE G K rm Q h a b pc' ls st) : NE G K rm Q h a b pc ls (.ref x :: st) := fun T locs X e N0 => by
  subst hp
  obtain ⟨T', X', e', s'⟩ := Jvm.RoadKit.initO X C.hx C.hZ C.ow w1 w2 w3 e (g := mkF K.m pc ls (.ref x :: st)) rfl (by rw [C.ml]; exact hsz) rfl (hb C.by hd) hf (W := (st.map fun v => v.category).sum) (by show 2 * 0 + _ ≤ _; omega) hl
  obtain ⟨s₂, o, hs, r⟩ := k T' locs X' e' N0
  exact ⟨s₂, o, s' _ hs, r⟩
theorem N.alen (C : Cx G K own nm bytes maxL ret W) {x : Addr} {ty : FieldType} {vs : List Value} {n : Int32} (hd : decode bytes pc = .ok (.arraylength, 1)) (A : Av G.Z h x ty vs) (hn : n.toInt = (vs.length : Nat)) (hp : pc + 1 = pc') (k : NE G K rm Q h a b pc' ls (.int n :: st)) : NE G K rm Q h a b pc ls (.ref x :: st) := by
  subst hp
  obtain ⟨c, A, rfl⟩ := A
  have hz : c.slots.size.toInt32 = n := by
    have h1 := n.toInt_lt
    apply Int32.toInt_inj.mp
    rw [hn]
    simp only [Array.length_toList] at hn ⊢
    show (Int32.ofNat c.slots.size).toInt = _
    rw [Int32.toInt_ofNat']
    have e32 : (Int32.size : Int) = 4294967296 := rfl
    exact Int.bmod_eq_of_le (by omega) (by omega)
  exact N.stX (fun T locs X e t ht => X.arraylength C.hx (by rw [e]; exact A.1) (State.isArrayOf_alike C.hZ.alike A.2.1) (g := mkF K.m pc ls (.ref x :: st)) rfl rfl (hb C.by hd) t (by rw [hz]; exact ht)) k

theorem N.iaload (C : Cx G K own nm bytes maxL ret W) {x : Addr} {vs : List Value} {j : Int32} {i : Nat} {v : Value} (hd : decode bytes pc = .ok (.iaload, 1)) (A : Av G.Z h x .int vs) (hj : j.toInt = (i : Nat)) (hv : vs[i]? = some v) (hp : pc + 1 = pc') (k : NE G K rm Q h a b pc' ls (v :: st)) : NE G K rm Q h a b pc ls (.int j :: .ref x :: st) := by
  subst hp
  obtain ⟨c, A, rfl⟩ := A
  have hi : i < c.slots.size := by have := (List.getElem?_eq_some_iff.mp hv).1; simpa using this
  have hv' : c.slots[j.toNatClampNeg]? = some v := by rw [(ix hj).2, ← Array.getElem?_toList]; exact hv
  exact N.stX (fun T locs X e t ht => X.iaload C.hx (by rw [e]; exact A.1) (State.isArrayOf_alike C.hZ.alike A.2.1) A.2.2 (ixin hj hi) hv' (g := mkF K.m pc ls (.int j :: .ref x :: st)) rfl rfl (hb C.by hd) t ht) k
theorem N.laload (C : Cx G K own nm bytes maxL ret W) {x : Addr} {vs : List Value} {j : Int32} {i : Nat} {v : Value} (hd : decode bytes pc = .ok (.laload, 1)) (A : Av G.Z h x .long vs) (hj : j.toInt = (i : Nat)) (hv : vs[i]? = some v) (hp : pc + 1 = pc') (k : NE G K rm Q h a b pc' ls (v :: st)) : NE G K rm Q h a b pc ls (.int j :: .ref x :: st) := by
  subst hp
  obtain ⟨c, A, rfl⟩ := A
  have hi : i < c.slots.size := by have := (List.getElem?_eq_some_iff.mp hv).1; simpa using this
  have hv' : c.slots[j.toNatClampNeg]? = some v := by rw [(ix hj).2, ← Array.getElem?_toList]; exact hv
  exact N.stX (fun T locs X e t ht => X.laload C.hx (by rw [e]; exact A.1) (State.isArrayOf_alike C.hZ.alike A.2.1) A.2.2 (ixin hj hi) hv' (g := mkF K.m pc ls (.int j :: .ref x :: st)) rfl rfl (hb C.by hd) t ht) k
theorem N.caload (C : Cx G K own nm bytes maxL ret W) {x : Addr} {vs : List Value} {j : Int32} {i : Nat} {v : Value} (hd : decode bytes pc = .ok (.caload, 1)) (A : Av G.Z h x .char vs) (hj : j.toInt = (i : Nat)) (hv : vs[i]? = some v) (hp : pc + 1 = pc') (k : NE G K rm Q h a b pc' ls (v :: st)) : NE G K rm Q h a b pc ls (.int j :: .ref x :: st) := by
  subst hp
  obtain ⟨c, A, rfl⟩ := A
  have hi : i < c.slots.size := by have := (List.getElem?_eq_some_iff.mp hv).1; simpa using this
  have hv' : c.slots[j.toNatClampNeg]? = some v := by rw [(ix hj).2, ← Array.getElem?_toList]; exact hv
  exact N.stX (fun T locs X e t ht => X.caload C.hx (by rw [e]; exact A.1) (State.isArrayOf_alike C.hZ.alike A.2.1) A.2.2 (ixin hj hi) hv' (g := mkF K.m pc ls (.int j :: .ref x :: st)) rfl rfl (hb C.by hd) t ht) k
theorem N.baload (C : Cx G K own nm bytes maxL ret W) {x : Addr} {vs : List Value} {j : Int32} {i : Nat} {v : Value} (hd : decode bytes pc = .ok (.baload, 1)) (A : Av G.Z h x .byte vs) (hj : j.toInt = (i : Nat)) (hv : vs[i]? = some v) (hp : pc + 1 = pc') (k : NE G K rm Q h a b pc' ls (v :: st)) : NE G K rm Q h a b pc ls (.int j :: .ref x :: st) := by
  subst hp
  obtain ⟨c, A, rfl⟩ := A
  have hi : i < c.slots.size := by have := (List.getElem?_eq_some_iff.mp hv).1; simpa using this
  have hv' : c.slots[j.toNatClampNeg]? = some v := by rw [(ix hj).2, ← Array.getElem?_toList]; exact hv
  exact N.stX (fun T locs X e t ht => X.baloadBytes C.hx (by rw [e]; exact A.1) (State.isArrayOf_alike C.hZ.alike A.2.1) A.2.2 (ixin hj hi) hv' (g := mkF K.m pc ls (.int j :: .ref x :: st)) rfl rfl (hb C.by hd) t ht) k
theorem N.zaload (C : Cx G K own nm bytes maxL ret W) {x : Addr} {vs : List Value} {j : Int32} {i : Nat} {v : Value} (hd : decode bytes pc = .ok (.baload, 1)) (A : Av G.Z h x .boolean vs) (hj : j.toInt = (i : Nat)) (hv : vs[i]? = some v) (hp : pc + 1 = pc') (k : NE G K rm Q h a b pc' ls (v :: st)) : NE G K rm Q h a b pc ls (.int j :: .ref x :: st) := by
  subst hp
  obtain ⟨c, A, rfl⟩ := A
  have hi : i < c.slots.size := by have := (List.getElem?_eq_some_iff.mp hv).1; simpa using this
  have hv' : c.slots[j.toNatClampNeg]? = some v := by rw [(ix hj).2, ← Array.getElem?_toList]; exact hv
  exact N.stX (fun T locs X e t ht => X.baloadBooleans C.hx (by rw [e]; exact A.1) (State.isArrayOf_alike C.hZ.alike A.2.1) A.2.2 (ixin hj hi) hv' (g := mkF K.m pc ls (.int j :: .ref x :: st)) rfl rfl (hb C.by hd) t ht) k
theorem N.daload (C : Cx G K own nm bytes maxL ret W) {x : Addr} {vs : List Value} {j : Int32} {i : Nat} {v : Value} (hd : decode bytes pc = .ok (.daload, 1)) (A : Av G.Z h x .double vs) (hj : j.toInt = (i : Nat)) (hv : vs[i]? = some v) (hp : pc + 1 = pc') (k : NE G K rm Q h a b pc' ls (v :: st)) : NE G K rm Q h a b pc ls (.int j :: .ref x :: st) := by
  subst hp
  obtain ⟨c, A, rfl⟩ := A
  have hi : i < c.slots.size := by have := (List.getElem?_eq_some_iff.mp hv).1; simpa using this
  have hv' : c.slots[j.toNatClampNeg]? = some v := by rw [(ix hj).2, ← Array.getElem?_toList]; exact hv
  exact N.stX (fun T locs X e t ht => X.daload C.hx (by rw [e]; exact A.1) (State.isArrayOf_alike C.hZ.alike A.2.1) A.2.2 (ixin hj hi) hv' (g := mkF K.m pc ls (.int j :: .ref x :: st)) rfl rfl (hb C.by hd) t ht) k
theorem N.iastore (C : Cx G K own nm bytes maxL ret W) {x : Addr} {vs : List Value} {j : Int32} {i : Nat} {v : Int32} (hd : decode bytes pc = .ok (.iastore, 1)) (A : Av G.Z h x .int vs) (hj : j.toInt = (i : Nat)) (hi : i < vs.length) (hx : G.n0 ≤ x) (hp : pc + 1 = pc') (k : ∀ h', Wr h h' x i (.int v) → Av G.Z h' x .int (vs.set i (.int v)) → NE G K rm Q h' a b pc' ls st) : NE G K rm Q h a b pc ls (.int v :: .int j :: .ref x :: st) := fun T locs X e N0 => by
  subst hp
  have A0 := A
  obtain ⟨c, A, rfl⟩ := A
  obtain ⟨T', h', X', e', W', s'⟩ := Jvm.RoadKit.stI X C.hx C.hZ e A (j := j) (ixin hj (by simpa using hi)) (g := mkF K.m pc ls (.int v :: .int j :: .ref x :: st)) rfl rfl (hb C.by hd)
  have F' := Fr.snoc X' N0 hx
  rw [(ix hj).2] at W'
  obtain ⟨s₂, o, hs, r⟩ := k h' W' (A0.same W') T' _ X' e' F'
  exact ⟨s₂, o, s' _ hs, r⟩
theorem N.lastore (C : Cx G K own nm bytes maxL ret W) {x : Addr} {vs : List Value} {j : Int32} {i : Nat} {v : Int64} (hd : decode bytes pc = .ok (.lastore, 1)) (A : Av G.Z h x .long vs) (hj : j.toInt = (i : Nat)) (hi : i < vs.length) (hx : G.n0 ≤ x) (hp : pc + 1 = pc') (k : ∀ h', Wr h h' x i (.long v) → Av G.Z h' x .long (vs.set i (.long v)) → NE G K rm Q h' a b pc' ls st) : NE G K rm Q h a b pc ls (.long v :: .int j :: .ref x :: st) := fun T locs X e N0 => by
  subst hp
  have A0 := A
  obtain ⟨c, A, rfl⟩ := A
  obtain ⟨T', h', X', e', W', s'⟩ := Jvm.RoadKit.stJ X C.hx C.hZ e A (j := j) (ixin hj (by simpa using hi)) (g := mkF K.m pc ls (.long v :: .int j :: .ref x :: st)) rfl rfl (hb C.by hd)
  have F' := Fr.snoc X' N0 hx
  rw [(ix hj).2] at W'
  obtain ⟨s₂, o, hs, r⟩ := k h' W' (A0.same W') T' _ X' e' F'
  exact ⟨s₂, o, s' _ hs, r⟩
theorem N.castore (C : Cx G K own nm bytes maxL ret W) {x : Addr} {vs : List Value} {j : Int32} {i : Nat} {v : Int32} (hd : decode bytes pc = .ok (.castore, 1)) (A : Av G.Z h x .char vs) (hj : j.toInt = (i : Nat)) (hi : i < vs.length) (hx : G.n0 ≤ x) (hp : pc + 1 = pc') (k : ∀ h', Wr h h' x i (.int (nar .char v)) → Av G.Z h' x .char (vs.set i (.int (nar .char v))) → NE G K rm Q h' a b pc' ls st) : NE G K rm Q h a b pc ls (.int v :: .int j :: .ref x :: st) := fun T locs X e N0 => by
  subst hp
  have A0 := A
  obtain ⟨c, A, rfl⟩ := A
  obtain ⟨T', h', X', e', W', s'⟩ := Jvm.RoadKit.stC X C.hx C.hZ e A (j := j) (ixin hj (by simpa using hi)) (g := mkF K.m pc ls (.int v :: .int j :: .ref x :: st)) rfl rfl (hb C.by hd)
  have F' := Fr.snoc X' N0 hx
  rw [(ix hj).2] at W'
  obtain ⟨s₂, o, hs, r⟩ := k h' W' (A0.same W') T' _ X' e' F'
  exact ⟨s₂, o, s' _ hs, r⟩
theorem N.bastore (C : Cx G K own nm bytes maxL ret W) {x : Addr} {vs : List Value} {j : Int32} {i : Nat} {v : Int32} (hd : decode bytes pc = .ok (.bastore, 1)) (A : Av G.Z h x .byte vs) (hj : j.toInt = (i : Nat)) (hi : i < vs.length) (hx : G.n0 ≤ x) (hp : pc + 1 = pc') (k : ∀ h', Wr h h' x i (.int (nar .byte v)) → Av G.Z h' x .byte (vs.set i (.int (nar .byte v))) → NE G K rm Q h' a b pc' ls st) : NE G K rm Q h a b pc ls (.int v :: .int j :: .ref x :: st) := fun T locs X e N0 => by
  subst hp
  have A0 := A
  obtain ⟨c, A, rfl⟩ := A
  obtain ⟨T', h', X', e', W', s'⟩ := Jvm.RoadKit.stB X C.hx C.hZ e A (j := j) (ixin hj (by simpa using hi)) (g := mkF K.m pc ls (.int v :: .int j :: .ref x :: st)) rfl rfl (hb C.by hd)
  have F' := Fr.snoc X' N0 hx
  rw [(ix hj).2] at W'
  obtain ⟨s₂, o, hs, r⟩ := k h' W' (A0.same W') T' _ X' e' F'
  exact ⟨s₂, o, s' _ hs, r⟩
theorem N.dastore (C : Cx G K own nm bytes maxL ret W) {x : Addr} {vs : List Value} {j : Int32} {i : Nat} {v : UInt64} (hd : decode bytes pc = .ok (.dastore, 1)) (A : Av G.Z h x .double vs) (hj : j.toInt = (i : Nat)) (hi : i < vs.length) (hx : G.n0 ≤ x) (hp : pc + 1 = pc') (k : ∀ h', Wr h h' x i (.double v) → Av G.Z h' x .double (vs.set i (.double v)) → NE G K rm Q h' a b pc' ls st) : NE G K rm Q h a b pc ls (.double v :: .int j :: .ref x :: st) := fun T locs X e N0 => by
  subst hp
  have A0 := A
  obtain ⟨c, A, rfl⟩ := A
  obtain ⟨T', h', X', e', W', s'⟩ := Jvm.RoadKit.stD X C.hx C.hZ e A (j := j) (ixin hj (by simpa using hi)) (g := mkF K.m pc ls (.double v :: .int j :: .ref x :: st)) rfl rfl (hb C.by hd)
  have F' := Fr.snoc X' N0 hx
  rw [(ix hj).2] at W'
  obtain ⟨s₂, o, hs, r⟩ := k h' W' (A0.same W') T' _ X' e' F'
  exact ⟨s₂, o, s' _ hs, r⟩
theorem N.zastore (C : Cx G K own nm bytes maxL ret W) {x : Addr} {vs : List Value} {j : Int32} {i : Nat} {v : Int32} (hd : decode bytes pc = .ok (.bastore, 1)) (A : Av G.Z h x .boolean vs) (hj : j.toInt = (i : Nat)) (hi : i < vs.length) (hx : G.n0 ≤ x) (hp : pc + 1 = pc') (k : ∀ h', Wr h h' x i (.int (nar .boolean v)) → Av G.Z h' x .boolean (vs.set i (.int (nar .boolean v))) → NE G K rm Q h' a b pc' ls st) : NE G K rm Q h a b pc ls (.int v :: .int j :: .ref x :: st) := fun T locs X e N0 => by
  subst hp
  have A0 := A
  obtain ⟨c, A, rfl⟩ := A
  obtain ⟨T', h', X', e', W', s'⟩ := Jvm.RoadKit.stZ X C.hx C.hZ e A (j := j) (ixin hj (by simpa using hi)) (g := mkF K.m pc ls (.int v :: .int j :: .ref x :: st)) rfl rfl (hb C.by hd)
  have F' := Fr.snoc X' N0 hx
  rw [(ix hj).2] at W'
  obtain ⟨s₂, o, hs, r⟩ := k h' W' (A0.same W') T' _ X' e' F'
  exact ⟨s₂, o, s' _ hs, r⟩

/-! returns -/
theorem N.ret0 (C : Cx G K own nm bytes maxL ret W) (hr : ret = none) (hd : decode bytes pc = .ok (.return_, 1)) (ha : a ≤ rm.cells) (hb' : b ≤ rm.slots) (hq : Qv none h) : N G K rm Qv h a b pc ls [] := fun T locs X e N0 => by
  obtain ⟨fs, hr', hrun, hended, hW, hsame⟩ := X.leave (v := none) (fun _ => rfl) (hlocks := C.lk)
  exact ⟨_, _, X.returnOut C.hx (C.rt.trans hr) (hb C.by hd) hr', hrun, hended, _, _, rfl, ⟨by show Qv none T.heap; rw [e]; exact hq, N0⟩, ⟨_, rfl⟩, hW, hsame.mono ha hb'⟩
theorem N.retV (C : Cx G K own nm bytes maxL ret W) {w : Value} {t : FieldType} {i : Instr} (hr : ret = some t) (hn : narrow t w = w)
    (hi : (i = .ireturn ∧ (t = .int ∨ t = .boolean ∨ t = .byte ∨ t = .char ∨ t = .short) ∧ ∃ z, w = .int z) ∨ (i = .lreturn ∧ t = .long ∧ ∃ z, w = .long z) ∨ (i = .dreturn ∧ t = .double ∧ ∃ z, w = .double z) ∨ (i = .freturn ∧ t = .float ∧ ∃ z, w = .float z) ∨ (i = .areturn ∧ t.isReference = true ∧ w.isRef = true))
    (hd : decode bytes pc = .ok (i, 1)) (ha : a ≤ rm.cells) (hb' : b ≤ rm.slots) (hq : Qv (some w) h) : N G K rm Qv h a b pc ls (w :: st) := fun T locs X e N0 => by
  obtain ⟨fs, hr', hrun, hended, hW, hsame⟩ := X.leave (v := some w) (fun q => by rw [C.rt, hr] at q; cases q) (hlocks := C.lk)
  exact ⟨_, _, retOut X C.hx (C.rt.trans hr) hn hi (hb C.by hd) hr', hrun, hended, _, _, rfl, ⟨by show Qv (some w) T.heap; rw [e]; exact hq, N0⟩, ⟨_, rfl⟩, hW, hsame.mono ha hb'⟩
theorem N.retI (C : Cx G K own nm bytes maxL (some .int) W) {z : Int32} (hd : decode bytes pc = .ok (.ireturn, 1)) (ha : a ≤ rm.cells) (hb' : b ≤ rm.slots) (hq : Qv (some (.int z)) h) : N G K rm Qv h a b pc ls (.int z :: st) :=
  N.retV C rfl rfl (Or.inl ⟨rfl, Or.inl rfl, z, rfl⟩) hd ha hb' hq
theorem N.retL (C : Cx G K own nm bytes maxL (some .long) W) {z : Int64} (hd : decode bytes pc = .ok (.lreturn, 1)) (ha : a ≤ rm.cells) (hb' : b ≤ rm.slots) (hq : Qv (some (.long z)) h) : N G K rm Qv h a b pc ls (.long z :: st) :=
  N.retV C rfl rfl (Or.inr (Or.inl ⟨rfl, rfl, z, rfl⟩)) hd ha hb' hq
theorem N.retA (C : Cx G K own nm bytes maxL (some t) W) {w : Value} (ht : t.isReference = true) (hw : w.isRef = true) (hd : decode bytes pc = .ok (.areturn, 1)) (ha : a ≤ rm.cells) (hb' : b ≤ rm.slots) (hq : Qv (some w) h) : N G K rm Qv h a b pc ls (w :: st) :=
  N.retV C rfl (by rcases ref_cases hw with rfl | ⟨z, rfl⟩ <;> cases t <;> first | rfl | (cases ht)) (Or.inr (Or.inr (Or.inr (Or.inr ⟨rfl, ht, hw⟩)))) hd ha hb' hq
theorem N.retN (C : Cx G K own nm bytes maxL (some t) W) {z z' : Int32} (ht : t = .boolean ∨ t = .byte ∨ t = .char ∨ t = .short) (hz : nar t z = z') (hd : decode bytes pc = .ok (.ireturn, 1)) (ha : a ≤ rm.cells) (hb' : b ≤ rm.slots) (hq : Qv (some (.int z')) h) : N G K rm Qv h a b pc ls (.int z :: st) := fun T locs X e N0 => by
  subst hz
  obtain ⟨fs, hr', hrun, hended, hW, hsame⟩ := X.leave (v := some (.int (nar t z))) (fun q => by rw [C.rt] at q; cases q) (hlocks := C.lk)
  exact ⟨_, _, Jvm.RoadKit.retN X C.hx C.rt ht (hb C.by hd) hr', hrun, hended, _, _, rfl, ⟨by show Qv (some (.int (nar t z))) T.heap; rw [e]; exact hq, N0⟩, ⟨_, rfl⟩, hW, hsame.mono ha hb'⟩
/-! calls by the callee's contract -/
section Calls
variable {y : MethodName} {bytes' : ByteArray} {maxL' : Nat} {ret' : Option FieldType} {rm' : Room} {as : Array Value} {R' : Option Value → Heap → Prop} {stk rest : List Value}
theorem N.callS (C : Cx G K own nm bytes maxL ret W) {i : Nat} (argsL : List Value) (hd : decode bytes pc = .ok (.invokestatic i, 3)) (w1 : (Jvm.Cond.methodLink own i y).before G.a0 G.Z = true) (w2 : (Jvm.Cond.static y).before G.a0 G.Z = true) (w3 : (Jvm.Cond.initialized y.cls).before G.a0 G.Z = true) (w4 : (Jvm.Cond.code y bytes' maxL' ret').before G.a0 G.Z = true)
    (hy : y.cls ≠ "java/lang/invoke/MethodHandle" ∧ y.cls ≠ "java/lang/invoke/VarHandle") (M : Con G y bytes' maxL' ret' rm' argsL.toArray h R') (hlen : ∀ sig, parseMethodDescriptor y.desc = some sig → argsL.length = sig.parameters.length) (hsz : ls.size = maxL)
    (hf : rm'.frames + 1 ≤ rm.frames) (hl : (rest.map fun v => v.category).sum + (maxL' + 11) + rm'.locals ≤ rm.locals) (hc : a + rm'.cells ≤ rm.cells) (hs : b + rm'.slots ≤ rm.slots) (hst : stk = argsL.reverse ++ rest) (hp : pc + 3 = pc')
    (k : ∀ v h', R' v h' → NE G K rm Q h' (a + rm'.cells) (b + rm'.slots) pc' ls (v.toList ++ rest)) : NE G K rm Q h a b pc ls stk := fun T locs X e N0 => by
  subst hp
  obtain ⟨v, _, ⟨T', L', k', n'⟩, -, X', ⟨Lc, ⟨hQ, N1⟩, l', y', z'⟩, s'⟩ := Jvm.LawKit.callS X C.hx (y := y) C.ow (mvT C.hZ w1) (mvT C.hZ w2) (mvT C.hZ w3) (mvT C.hZ w4) hy (backOf (W := (rest.map fun v => v.category).sum) (Q := fun v h L => R' v h ∧ Fr G.n0 L) (M []) C.hZ w4 w3 hf hl) (g := mkF K.m pc ls stk) rfl (by rw [C.ml]; exact hsz) (argsL := argsL) (rest := rest) hlen hst (by show 2 * 0 + _ ≤ _; omega) (hb C.by hd) (fun _ _ => ⟨rfl, e, hc, hs⟩)
  dsimp only [Pt.U, Pt.locs, Pt.cells, Pt.slots] at X' l' y' z' s' hQ
  subst l' y' z'
  obtain ⟨s₂, o, hs', r⟩ := k v T'.heap hQ T' _ X' rfl (N0.app N1)
  exact ⟨s₂, o, s' _ hs', r⟩
theorem N.callI (C : Cx G K own nm bytes maxL ret W) {i : Nat} (x : Addr) (argsL : List Value) (hd : decode bytes pc = .ok (.invokespecial i, 3)) (hy1 : y.name = "<init>") (w1 : (Jvm.Cond.methodLink own i y).before G.a0 G.Z = true) (w2 : (Jvm.Cond.instanceMethod y).before G.a0 G.Z = true) (w3 : (Jvm.Cond.initialized y.cls).before G.a0 G.Z = true) (w4 : (Jvm.Cond.code y bytes' maxL' none).before G.a0 G.Z = true)
    (hy : y.cls ≠ "java/lang/invoke/MethodHandle" ∧ y.cls ≠ "java/lang/invoke/VarHandle") (M : Con G y bytes' maxL' none rm' (.ref x :: argsL).toArray h R') (hlen : ∀ sig, parseMethodDescriptor y.desc = some sig → argsL.length = sig.parameters.length) (hsz : ls.size = maxL)
    (hf : rm'.frames + 1 ≤ rm.frames) (hl : (rest.map fun v => v.category).sum + (maxL' + 11) + rm'.locals ≤ rm.locals) (hc : a + rm'.cells ≤ rm.cells) (hs : b + rm'.slots ≤ rm.slots) (hst : stk = argsL.reverse ++ .ref x :: rest) (hp : pc + 3 = pc')
    (k : ∀ v h', R' v h' → NE G K rm Q h' (a + rm'.cells) (b + rm'.slots) pc' ls (v.toList ++ rest)) : NE G K rm Q h a b pc ls stk := fun T locs X e N0 => by
  subst hp
  obtain ⟨v, _, ⟨T', L', k', n'⟩, -, X', ⟨Lc, ⟨hQ, N1⟩, l', y', z'⟩, s'⟩ := X.specialBack C.hx (y := y) hy1 C.ow (mvT C.hZ w1) (mvT C.hZ w2) (mvT C.hZ w4) hy (backOf (W := (rest.map fun v => v.category).sum) (Q := fun v h L => R' v h ∧ Fr G.n0 L) (M []) C.hZ w4 w3 hf hl) (g := mkF K.m pc ls stk) rfl (by rw [C.ml]; exact hsz) (Steps.refl _) (a := x) (argsL := argsL) (rest := rest) hlen hst (by show 2 * 0 + _ ≤ _; omega) (hb C.by hd) (fun _ _ => ⟨rfl, e, hc, hs⟩)
  dsimp only [Pt.U, Pt.locs, Pt.cells, Pt.slots] at X' l' y' z' s' hQ
  subst l' y' z'
  obtain ⟨s₂, o, hs', r⟩ := k v T'.heap hQ T' _ X' rfl (N0.app N1)
  exact ⟨s₂, o, s'.trans hs', r⟩
/-- an instance method of a class that selects itself -/
theorem N.callV (C : Cx G K own nm bytes maxL ret W) {i : Nat} (x : Addr) (argsL : List Value) (hd : decode bytes pc = .ok (.invokevirtual i, 3)) (w1 : (Jvm.Cond.methodLink own i y).before G.a0 G.Z = true) (wd : (Jvm.Cond.declares y).before G.a0 G.Z = true) (ws : (Jvm.Cond.selects y.cls y y).before G.a0 G.Z = true) (w2 : (Jvm.Cond.instanceMethod y).before G.a0 G.Z = true) (w3 : (Jvm.Cond.initialized y.cls).before G.a0 G.Z = true) (w4 : (Jvm.Cond.code y bytes' maxL' ret').before G.a0 G.Z = true)
    (hy : y.cls ≠ "java/lang/invoke/MethodHandle" ∧ y.cls ≠ "java/lang/invoke/VarHandle") (E : Exa G.Z h x y.cls) (M : Con G y bytes' maxL' ret' rm' (.ref x :: argsL).toArray h R') (hlen : ∀ sig, parseMethodDescriptor y.desc = some sig → argsL.length = sig.parameters.length) (hsz : ls.size = maxL)
    (hf : rm'.frames + 1 ≤ rm.frames) (hl : (rest.map fun v => v.category).sum + (maxL' + 11) + rm'.locals ≤ rm.locals) (hc : a + rm'.cells ≤ rm.cells) (hs : b + rm'.slots ≤ rm.slots) (hst : stk = argsL.reverse ++ .ref x :: rest) (hp : pc + 3 = pc')
    (k : ∀ v h', R' v h' → NE G K rm Q h' (a + rm'.cells) (b + rm'.slots) pc' ls (v.toList ++ rest)) : NE G K rm Q h a b pc ls stk := fun T locs X e N0 => by
  subst hp
  obtain ⟨cq, kq, qa, qb, qc⟩ := isOf C.hZ e E
  obtain ⟨v, _, ⟨T', L', k', n'⟩, -, X', ⟨Lc, ⟨hQ, N1⟩, l', y', z'⟩, s'⟩ := X.virtualBack C.hx (y := y) (z := y) C.ow (mvT C.hZ w1) (mvT C.hZ wd) (notFace_of_selects (args := #[]) (mvT C.hZ ws)) (mvT C.hZ ws) (mvT C.hZ w2) hy (backOf (W := (rest.map fun v => v.category).sum) (Q := fun v h L => R' v h ∧ Fr G.n0 L) (M []) C.hZ w4 w3 hf hl) qa qc (g := mkF K.m pc ls stk) rfl (by rw [C.ml]; exact hsz) (Steps.refl _) (argsL := argsL) (rest := rest) hlen hst (by show 2 * 0 + _ ≤ _; omega) (hb C.by hd) (fun _ _ => ⟨rfl, e, hc, hs⟩)
  dsimp only [Pt.U, Pt.locs, Pt.cells, Pt.slots] at X' l' y' z' s' hQ
  subst l' y' z'
  obtain ⟨s₂, o, hs', r⟩ := k v T'.heap hQ T' _ X' rfl (N0.app N1)
  exact ⟨s₂, o, s'.trans hs', r⟩
/-- a private method -/
theorem N.callP (C : Cx G K own nm bytes maxL ret W) {i : Nat} (x : Addr) (argsL : List Value) (hd : decode bytes pc = .ok (.invokevirtual i, 3)) (w1 : (Jvm.Cond.methodLink own i y).before G.a0 G.Z = true) (wp : (Jvm.Cond.privateMethod y).before G.a0 G.Z = true) (ws : (Jvm.Cond.selects y.cls y y).before G.a0 G.Z = true) (w2 : (Jvm.Cond.instanceMethod y).before G.a0 G.Z = true) (w3 : (Jvm.Cond.initialized y.cls).before G.a0 G.Z = true) (w4 : (Jvm.Cond.code y bytes' maxL' ret').before G.a0 G.Z = true)
    (hy : y.cls ≠ "java/lang/invoke/MethodHandle" ∧ y.cls ≠ "java/lang/invoke/VarHandle") (E : Exa G.Z h x y.cls) (M : Con G y bytes' maxL' ret' rm' (.ref x :: argsL).toArray h R') (hlen : ∀ sig, parseMethodDescriptor y.desc = some sig → argsL.length = sig.parameters.length) (hsz : ls.size = maxL)
    (hf : rm'.frames + 1 ≤ rm.frames) (hl : (rest.map fun v => v.category).sum + (maxL' + 11) + rm'.locals ≤ rm.locals) (hc : a + rm'.cells ≤ rm.cells) (hs : b + rm'.slots ≤ rm.slots) (hst : stk = argsL.reverse ++ .ref x :: rest) (hp : pc + 3 = pc')
    (k : ∀ v h', R' v h' → NE G K rm Q h' (a + rm'.cells) (b + rm'.slots) pc' ls (v.toList ++ rest)) : NE G K rm Q h a b pc ls stk := fun T locs X e N0 => by
  subst hp
  obtain ⟨cq, qa, qb⟩ := E.cell
  obtain ⟨v, _, ⟨T', L', k', n'⟩, -, X', ⟨Lc, ⟨hQ, N1⟩, l', y', z'⟩, s'⟩ := X.privateBack C.hx (y := y) C.ow (mvT C.hZ w1) (mvT C.hZ w2) (mvT C.hZ ws) (Cond.privateMethod_at (mvP C.hZ wp (args := #[]))) (mvT C.hZ w4) hy (backOf (W := (rest.map fun v => v.category).sum) (Q := fun v h L => R' v h ∧ Fr G.n0 L) (M []) C.hZ w4 w3 hf hl) (g := mkF K.m pc ls stk) rfl (by rw [C.ml]; exact hsz) (Steps.refl _) (a := x) (by rw [e]; exact qa) qb (argsL := argsL) (rest := rest) hlen hst (by show 2 * 0 + _ ≤ _; omega) (hb C.by hd) (fun _ _ => ⟨rfl, e, hc, hs⟩)
  dsimp only [Pt.U, Pt.locs, Pt.cells, Pt.slots] at X' l' y' z' s' hQ
  subst l' y' z'
  obtain ⟨s₂, o, hs', r⟩ := k v T'.heap hQ T' _ X' rfl (N0.app N1)
  exact ⟨s₂, o, s'.trans hs', r⟩
/-! a callee with an exception table whose walk throws nothing -/
def ConW (G : Gx) (y : MethodName) (bytes : ByteArray) (maxL : Nat) (ret : Option FieldType) (hs : List (Nat × Nat × Nat × Nat)) (rm : Room) (as : Array Value) (h : Heap) (Q : Option Value → Heap → Prop) : Prop :=
  ∀ ws : List Jvm.Cond, MetFree G.l y (head1 (Jvm.Cond.codeWith y bytes maxL ret hs :: ws) rm) (fun a U => a = as ∧ G.Z.Warmed39 U.vm ∧ U.heap = h) (fun _ _ _ _ _ => True) (fun _ U o U' => ∃ v L, o = .returned v ∧ (Q v U'.heap ∧ Fr G.n0 L) ∧ FrameEnd U o U' L rm.cells rm.slots)
theorem ConW.of {G : Gx} {y : MethodName} {bytes : ByteArray} {maxL : Nat} {ret : Option FieldType} {hs : List (Nat × Nat × Nat × Nat)} {rm : Room} {as : Array Value} {h : Heap} {Q : Option Value → Heap → Prop} {W : List Jvm.Cond} {ls : Array Slot} (hpl : plainFor y = true) (hW : ∀ d ∈ W, d.before G.a0 G.Z = true)
    (he : ∀ m, entryFrame m as maxL = mkF m 0 ls []) (body : ∀ K : Kx, Cx G K y.cls y.name bytes maxL ret W → N G K rm Q h 0 0 0 ls []) : ConW G y bytes maxL ret hs rm as h Q := fun ws => by
  refine MetFree.of_bodySF hpl hisWith ?_
  intro p e s m args below meth c s₁ Bd hml hP hK
  obtain ⟨rfl, hZ, hh⟩ := hP
  have X0 : Stand p G.l e rm s m args below meth c s₁ [] 0 0 := Stand.of_body Bd
  obtain ⟨s₂, o, h1, h2, h3, h4⟩ := body (p, e, s, m, args, below, meth, c) ⟨Bd.exec, hZ, Bd.bytes, hml, findClass_of_methodNamed Bd.named, (name_of_methodNamed Bd.named Bd.method).1, Bd.returns, BodyLoose.notSynchronized Bd, hW⟩ s₁ [] X0 (by rw [← hh, Bd.state]; rfl) (Fr.nil _)
  exact ⟨s₂, o, castTop (he m) h1, h2, h3, h4⟩
theorem declOf {y : MethodName} {s : State} {args : Array Value} {bytes' : ByteArray} {maxL' : Nat} {ret' : Option FieldType} {hs : List (Nat × Nat × Nat × Nat)} (w2 : (Jvm.Cond.instanceMethod y).before args s = true) (w4 : (Jvm.Cond.codeWith y bytes' maxL' ret' hs).before args s = true) : (Jvm.Cond.declares y).before args s = true := by
  obtain ⟨mk, methM, hnamed, hmethM, hst, -⟩ := Cond.instanceMethod_spec w2
  obtain ⟨m', meth', c', hn', hm', -, -, -, -, -, -, hsig⟩ := Cond.codeWith_spec w4
  cases hnamed.symm.trans hn'
  cases hmethM.symm.trans hm'
  simp [Cond.before, Cond.holds, Cond.value, hnamed, hmethM, hst, hsig]
theorem N.callPW (C : Cx G K own nm bytes maxL ret W) {i : Nat} {hs : List (Nat × Nat × Nat × Nat)} (x : Addr) (argsL : List Value) (hd : decode bytes pc = .ok (.invokevirtual i, 3)) (w1 : (Jvm.Cond.methodLink own i y).before G.a0 G.Z = true) (ws : (Jvm.Cond.selects y.cls y y).before G.a0 G.Z = true) (w2 : (Jvm.Cond.instanceMethod y).before G.a0 G.Z = true) (w3 : (Jvm.Cond.initialized y.cls).before G.a0 G.Z = true) (w4 : (Jvm.Cond.codeWith y bytes' maxL' ret' hs).before G.a0 G.Z = true)
    (hy : y.cls ≠ "java/lang/invoke/MethodHandle" ∧ y.cls ≠ "java/lang/invoke/VarHandle") (E : Exa G.Z h x y.cls) (M : ConW G y bytes' maxL' ret' hs rm' (.ref x :: argsL).toArray h R') (hlen : ∀ sig, parseMethodDescriptor y.desc = some sig → argsL.length = sig.parameters.length) (hsz : ls.size = maxL)
    (hf : rm'.frames + 1 ≤ rm.frames) (hl : (rest.map fun v => v.category).sum + (maxL' + 11) + rm'.locals ≤ rm.locals) (hc : a + rm'.cells ≤ rm.cells) (hs' : b + rm'.slots ≤ rm.slots) (hst : stk = argsL.reverse ++ .ref x :: rest) (hp : pc + 3 = pc')
    (k : ∀ v h', R' v h' → NE G K rm Q h' (a + rm'.cells) (b + rm'.slots) pc' ls (v.toList ++ rest)) : NE G K rm Q h a b pc ls stk := fun T locs X e N0 => by
  subst hp
  obtain ⟨cq, kq, qa, qb, qc⟩ := isOf C.hZ e E
  obtain ⟨v, _, ⟨T', L', k', n'⟩, -, X', ⟨Lc, ⟨hQ, N1⟩, l', y', z'⟩, s'⟩ := X.virtualBack C.hx (y := y) (z := y) C.ow (mvT C.hZ w1) (mvT C.hZ (declOf w2 w4)) (notFace_of_selects (args := #[]) (mvT C.hZ ws)) (mvT C.hZ ws) (mvT C.hZ w2) hy (backOfWith (W := (rest.map fun v => v.category).sum) (Q := fun v h L => R' v h ∧ Fr G.n0 L) (M []) C.hZ w4 w3 hf hl) qa qc (g := mkF K.m pc ls stk) rfl (by rw [C.ml]; exact hsz) (Steps.refl _) (argsL := argsL) (rest := rest) hlen hst (by show 2 * 0 + _ ≤ _; omega) (hb C.by hd) (fun _ _ => ⟨rfl, e, hc, hs'⟩)
  dsimp only [Pt.U, Pt.locs, Pt.cells, Pt.slots] at X' l' y' z' s' hQ
  subst l' y' z'
  obtain ⟨s₂, o, hs', r⟩ := k v T'.heap hQ T' _ X' rfl (N0.app N1)
  exact ⟨s₂, o, s'.trans hs', r⟩

theorem N.checkcast (C : Cx G K own nm bytes maxL ret W) {i : Nat} {KK : String} {x : Addr} (hd : decode bytes pc = .ok (.checkcast i, 3)) (w : (Jvm.Cond.classLink own i KK).before G.a0 G.Z = true) (F : Ins G.Z h x KK true) (hp : pc + 3 = pc') (k : NE G K rm Q h a b pc' ls (.ref x :: st)) : NE G K rm Q h a b pc ls (.ref x :: st) := fun T locs X e N0 => by
  subst hp
  obtain ⟨T', X', e', s'⟩ := castY X C.hx C.hZ C.ow w e F (g := mkF K.m pc ls (.ref x :: st)) rfl rfl (hb C.by hd)
  obtain ⟨s₂, o, hs', r⟩ := k T' _ X' e' N0
  exact ⟨s₂, o, s' _ hs', r⟩
theorem N.instanceof (C : Cx G K own nm bytes maxL ret W) {i : Nat} {KK : String} {x : Addr} (hd : decode bytes pc = .ok (.instanceof i, 3)) (w : (Jvm.Cond.classLink own i KK).before G.a0 G.Z = true) (F : Ins G.Z h x KK true) (hp : pc + 3 = pc') (k : NE G K rm Q h a b pc' ls (.int 1 :: st)) : NE G K rm Q h a b pc ls (.ref x :: st) := fun T locs X e N0 => by
  subst hp
  obtain ⟨T', X', e', s'⟩ := instY X C.hx C.hZ C.ow w e F (g := mkF K.m pc ls (.ref x :: st)) rfl rfl (hb C.by hd)
  obtain ⟨s₂, o, hs', r⟩ := k T' _ X' e' N0
  exact ⟨s₂, o, s' _ hs', r⟩
/-! a body that may intern -/
section Str
variable {EL : List (String × Nat)} {U : State} {ms : List Addr}
def EndS (G : Gx) (EL : List (String × Nat)) (U : State) (rm : Room) (Q : Option Value → Heap → Prop) : State → Outcome → Prop := fun s₂ o => ∃ v L, o = .returned v ∧ (Q v s₂.heap ∧ Fr G.n0 L) ∧ CHr G.Z EL U.vm U.heap s₂.vm s₂.heap ∧ ReturnedEndW U o s₂ L rm.cells rm.slots
abbrev NS (G : Gx) (K : Kx) (EL : List (String × Nat)) (U : State) (rm : Room) (Q : Option Value → Heap → Prop) (h : Heap) (cells slots pc : Nat) (ls : Array Slot) (st : List Value) : Prop := NE G K rm (EndS G EL U rm Q) h cells slots pc ls st
/-- where the tables at hand stand to the true start U; ms: what this walk may write -/
def SX (G : Gx) (K : Kx) (EL : List (String × Nat)) (U : State) (h : Heap) (ms : List Addr) : Prop :=
  K.s = U.setVm K.s.vm ∧ (∃ k0, U.Since K.s.vm k0 ∧ k0 ≤ h.size) ∧ EW G.Z G.a0 EL ∧ CHr G.Z EL U.vm U.heap K.s.vm h ∧ ∀ x ∈ ms, x < h.size ∧ Safe G.Z EL K.s.vm h x
theorem SX.ext {h' : Heap} (S : SX G K EL U h ms) (E : Ext h h') : SX G K EL U h' ms := by
  obtain ⟨s1, ⟨k0, s2, s3⟩, s4, s5, s6⟩ := S
  exact ⟨s1, ⟨k0, s2, Nat.le_trans s3 E.1⟩, s4, s5.trans (CHr.ext E s5.1), fun x hx => ⟨Nat.lt_of_lt_of_le (s6 x hx).1 E.1, (s6 x hx).2.ext E s5.1⟩⟩
theorem SX.born {h' : Heap} {x : Addr} (S : SX G K EL U h ms) (E : Ext h h') (hx : x = h.size) (hl : x < h'.size) : SX G K EL U h' (x :: ms) := by
  have S' := S.ext E
  obtain ⟨s1, ⟨k0, s2, s3⟩, s4, s5, s6⟩ := S'
  refine ⟨s1, ⟨k0, s2, s3⟩, s4, s5, fun y hy => ?_⟩
  rcases List.mem_cons.mp hy with rfl | hy
  · exact ⟨hl, Safe.ext E S.2.2.2.1.1 (Safe.new (Nat.le_of_eq hx.symm))⟩
  · exact s6 y hy
theorem SX.wr {h' : Heap} {x : Addr} {sl : Nat} {v : Value} (S : SX G K EL U h ms) (W : Wr h h' x sl v) (hx : x ∈ ms) : SX G K EL U h' ms := by
  obtain ⟨s1, ⟨k0, s2, s3⟩, s4, s5, s6⟩ := S
  have hz : h'.size = h.size := Wr.size W
  exact ⟨s1, ⟨k0, s2, by rw [hz]; exact s3⟩, s4, s5.trans (CHr.wr W (s6 x hx).2 s5.1), fun y hy => ⟨by rw [hz]; exact (s6 y hy).1, Safe.wr W (s6 x hx).2 s5.1 (s6 y hy).2⟩⟩
theorem SX.keep {h' : Heap} {ws : List Addr} (S : SX G K EL U h ms) (E : Keep h h' ws) (hx : ∀ x ∈ ws, x ∈ ms) : SX G K EL U h' ms := by
  obtain ⟨s1, ⟨k0, s2, s3⟩, s4, s5, s6⟩ := S
  have hs : ∀ x ∈ ws, Safe G.Z EL K.s.vm h x := fun x q => (s6 x (hx x q)).2
  exact ⟨s1, ⟨k0, s2, Nat.le_trans s3 E.1⟩, s4, s5.trans (CHr.keep E hs s5.1), fun y hy => ⟨Nat.lt_of_lt_of_le (s6 y hy).1 E.1, Safe.keep E hs s5.1 (s6 y hy).2⟩⟩
theorem SX.drop {ms' : List Addr} (S : SX G K EL U h ms) (hs : ∀ x ∈ ms', x ∈ ms) : SX G K EL U h ms' := ⟨S.1, S.2.1, S.2.2.1, S.2.2.2.1, fun x hx => S.2.2.2.2 x (hs x hx)⟩
def ConS (G : Gx) (EL : List (String × Nat)) (ms : List Addr) (y : MethodName) (bytes : ByteArray) (maxL : Nat) (ret : Option FieldType) (rm : Room) (as : Array Value) (h : Heap) (Q : Option Value → Heap → Prop) : Prop :=
  ∀ ws : List Jvm.Cond, MetFree G.l y (head1 (Jvm.Cond.code y bytes maxL ret :: ws) rm) (fun a U => a = as ∧ G.Z.Warmed39 U.vm ∧ U.heap = h ∧ CHv G.Z EL U.vm h ∧ ∀ x ∈ ms, x < h.size ∧ Safe G.Z EL U.vm h x) (fun _ _ _ _ _ => True)
    (fun _ U o U' => ∃ v L, o = .returned v ∧ (Q v U'.heap ∧ Fr G.n0 L) ∧ CHr G.Z EL U.vm U.heap U'.vm U'.heap ∧ ReturnedEndW U o U' L rm.cells rm.slots)
theorem ConS.of {y : MethodName} {as : Array Value} {Q : Option Value → Heap → Prop} {ls : Array Slot} (hpl : plainFor y = true) (hW : ∀ d ∈ W, d.before G.a0 G.Z = true) (hEL : EW G.Z G.a0 EL)
    (he : ∀ m, entryFrame m as maxL = mkF m 0 ls []) (body : ∀ (K : Kx) (U : State), Cx G K y.cls y.name bytes maxL ret W → SX G K EL U h ms → NS G K EL U rm Q h 0 0 0 ls []) : ConS G EL ms y bytes maxL ret rm as h Q := fun ws => by
  refine MetFree.of_bodySF hpl hisR ?_
  intro p e s m args below meth c s₁ Bd hml hP hK
  obtain ⟨rfl, hZ, hh, hC, hM⟩ := hP
  have X0 : Stand p G.l e rm s m args below meth c s₁ [] 0 0 := Stand.of_body Bd
  obtain ⟨s₂, o, h1, h2, h3, h4⟩ := body (p, e, s, m, args, below, meth, c) s ⟨Bd.exec, hZ, Bd.bytes, hml, findClass_of_methodNamed Bd.named, (name_of_methodNamed Bd.named Bd.method).1, Bd.returns, BodyLoose.notSynchronized Bd, hW⟩ ⟨rfl, ⟨0, (State.WarmedH.refl s).since 0, Nat.zero_le _⟩, hEL, by subst hh; exact CHr.refl hC, hM⟩ s₁ [] X0 (by rw [← hh, Bd.state]; rfl) (Fr.nil _)
  exact ⟨s₂, o, castTop (he m) h1, h2, h3, h4⟩
theorem SX.at (C : Cx G K own nm bytes maxL ret W) (S : SX G K EL U h ms) {T : State} {locs : List Loc} (X : Stand K.p G.l K.e rm K.s K.m K.args K.below K.meth K.c T locs a b) : CHr G.Z EL U.vm U.heap T.vm h ∧ ∀ x ∈ ms, x < h.size ∧ Safe G.Z EL T.vm h x := by
  have X' : Stand K.p G.l K.e rm (K.s.setVm K.s.vm) K.m K.args K.below K.meth K.c T locs a b := X
  have A := CHv.at X' C.hZ S.2.2.1 S.2.2.2.1.1
  exact ⟨S.2.2.2.1.trans A, fun x hx => ⟨(S.2.2.2.2 x hx).1, A.safe (S.2.2.2.2 x hx).1 (S.2.2.2.2 x hx).2⟩⟩
theorem N.leaveS (C : Cx G K own nm bytes maxL ret W) (S : SX G K EL U h ms) {T : State} {locs : List Loc} (X : Stand K.p G.l K.e rm K.s K.m K.args K.below K.meth K.c T locs a b) (e : T.heap = h) (N0 : Fr G.n0 locs) (ha : a ≤ rm.cells) (hb' : b ≤ rm.slots) {v : Option Value} (hv : K.meth.sig.returnType = none → v = none) (hq : Qv v h) :
    ∃ fs, (∀ (f : JFrame) (acts : List Action), f.method = K.m → f.locked = none → f.entered = [] → (doReturn K.e (T.setTop f) acts v).1 = T.setFrames fs) ∧ (T.setFrames fs).status = .running ∧ Ended (T.setFrames fs) K.below (.returned v) ∧ EndS G EL U rm Qv (T.setFrames fs) (.returned v) := by
  have A := (S.at C X).1
  obtain ⟨p, e', s, m, args, below, meth, c⟩ := K
  obtain ⟨s1, ⟨k0, s2, s3⟩, s4, s5, s6⟩ := S
  dsimp only [Kx.p, Kx.e, Kx.s, Kx.m, Kx.args, Kx.below, Kx.meth, Kx.c] at *
  generalize s.vm = vm0 at *
  subst s1
  obtain ⟨fs, hr', hrun, hended, hE⟩ := X.leaveW s2 (by rw [e]; exact s3) (v := v) hv (hlocks := C.lk)
  refine ⟨fs, hr', hrun, hended, v, locs, rfl, ⟨by show Qv v T.heap; rw [e]; exact hq, N0⟩, by show CHr G.Z EL U.vm U.heap T.vm T.heap; rw [e]; exact A, hE.1, hE.2.1, hE.2.2.1, hE.2.2.2.mono ha hb'⟩
theorem N.ret0S (C : Cx G K own nm bytes maxL ret W) (S : SX G K EL U h ms) (hr : ret = none) (hd : decode bytes pc = .ok (.return_, 1)) (ha : a ≤ rm.cells) (hb' : b ≤ rm.slots) (hq : Qv none h) : NS G K EL U rm Qv h a b pc ls [] := fun T locs X e N0 => by
  obtain ⟨fs, hr', hrun, hended, hE⟩ := N.leaveS C S X e N0 ha hb' (v := none) (fun _ => rfl) hq
  exact ⟨_, _, X.returnOut C.hx (C.rt.trans hr) (hb C.by hd) hr', hrun, hended, hE⟩
theorem N.retVS (C : Cx G K own nm bytes maxL ret W) (S : SX G K EL U h ms) {w : Value} {t : FieldType} {i : Instr} (hr : ret = some t) (hn : narrow t w = w)
    (hi : (i = .ireturn ∧ (t = .int ∨ t = .boolean ∨ t = .byte ∨ t = .char ∨ t = .short) ∧ ∃ z, w = .int z) ∨ (i = .lreturn ∧ t = .long ∧ ∃ z, w = .long z) ∨ (i = .dreturn ∧ t = .double ∧ ∃ z, w = .double z) ∨ (i = .freturn ∧ t = .float ∧ ∃ z, w = .float z) ∨ (i = .areturn ∧ t.isReference = true ∧ w.isRef = true))
    (hd : decode bytes pc = .ok (i, 1)) (ha : a ≤ rm.cells) (hb' : b ≤ rm.slots) (hq : Qv (some w) h) : NS G K EL U rm Qv h a b pc ls (w :: st) := fun T locs X e N0 => by
  obtain ⟨fs, hr', hrun, hended, hE⟩ := N.leaveS C S X e N0 ha hb' (v := some w) (fun q => by rw [C.rt, hr] at q; cases q) hq
  exact ⟨_, _, retOut X C.hx (C.rt.trans hr) hn hi (hb C.by hd) hr', hrun, hended, hE⟩
theorem N.retIS (C : Cx G K own nm bytes maxL (some .int) W) (S : SX G K EL U h ms) {z : Int32} (hd : decode bytes pc = .ok (.ireturn, 1)) (ha : a ≤ rm.cells) (hb' : b ≤ rm.slots) (hq : Qv (some (.int z)) h) : NS G K EL U rm Qv h a b pc ls (.int z :: st) :=
  N.retVS C S rfl rfl (Or.inl ⟨rfl, Or.inl rfl, z, rfl⟩) hd ha hb' hq
theorem N.retAS (C : Cx G K own nm bytes maxL (some t) W) (S : SX G K EL U h ms) {w : Value} (ht : t.isReference = true) (hw : w.isRef = true) (hd : decode bytes pc = .ok (.areturn, 1)) (ha : a ≤ rm.cells) (hb' : b ≤ rm.slots) (hq : Qv (some w) h) : NS G K EL U rm Qv h a b pc ls (w :: st) :=
  N.retVS C S rfl (by rcases ref_cases hw with rfl | ⟨z, rfl⟩ <;> cases t <;> first | rfl | (cases ht)) (Or.inr (Or.inr (Or.inr (Or.inr ⟨rfl, ht, hw⟩)))) hd ha hb' hq
theorem N.retNS (C : Cx G K own nm bytes maxL (some t) W) (S : SX G K EL U h ms) {z z' : Int32} (ht : t = .boolean ∨ t = .byte ∨ t = .char ∨ t = .short) (hz : nar t z = z') (hd : decode bytes pc = .ok (.ireturn, 1)) (ha : a ≤ rm.cells) (hb' : b ≤ rm.slots) (hq : Qv (some (.int z')) h) : NS G K EL U rm Qv h a b pc ls (.int z :: st) := fun T locs X e N0 => by
  subst hz
  obtain ⟨fs, hr', hrun, hended, hE⟩ := N.leaveS C S X e N0 ha hb' (v := some (.int (nar t z))) (fun q => by rw [C.rt] at q; cases q) hq
  exact ⟨_, _, Jvm.RoadKit.retN X C.hx C.rt ht (hb C.by hd) hr', hrun, hended, hE⟩
/-- ldc of a String constant of EL, read -/
theorem N.ldcS (C : Cx G K own nm bytes maxL ret W) (S : SX G K EL U h ms) {i : Nat} {text : String} {vs : List Value} (n : Nat) (hd : decode bytes pc = .ok (.ldc i, 2)) (w : (Jvm.Cond.stringLink own i text).before G.a0 G.Z = true) (wS : ∀ d ∈ Bundle.stringAtoms, d.before G.a0 G.Z = true) (hmem : (own, i) ∈ EL)
    (ht : (∀ c ∈ text.toList, c.toNat < 256) ∧ text.toList.map (fun c => Value.int (Jvm.Lit.byteI c.toNat.toUInt16)) = vs) {z : Int32} (hz : ¬ z < 0) (hl : z.toNatClampNeg = vs.length) (hn : 4 * text.toList.length ≤ n) (hbig : n ≤ 536870912) (hc : a + 2 ≤ rm.cells) (hs : b + (n + 4) ≤ rm.slots) (hp : pc + 2 = pc')
    (k : ∀ (K : Kx) (h' : Heap) (x y : Addr), Cx G K own nm bytes maxL ret W → SX G K EL U h' ms → Ext h h' → Exa G.Z h' x "java/lang/String" → Fld G.Z h' x "java/lang/String" "coder" "B" (.int 0) → Fld G.Z h' x "java/lang/String" "value" "[B" (.ref y) → Av G.Z h' y .byte vs → (∀ q ∈ ms, q ≠ x ∧ q ≠ y) → NE G K rm Q h' (a + 2) (b + (n + 4)) pc' ls (.ref x :: st)) : NE G K rm Q h a b pc ls st := fun T locs X e N0 => by
  subst hp
  obtain ⟨p, e', s, m, args, below, meth, c⟩ := K
  obtain ⟨s1, ⟨k0, s2, s3⟩, s4, s5, s6⟩ := S
  have hZ := C.hZ
  have how := C.ow
  have hbb := C.by
  have hxx := C.hx
  dsimp only [Kx.p, Kx.e, Kx.s, Kx.m, Kx.args, Kx.below, Kx.meth, Kx.c] at *
  generalize hv : s.vm = vm0 at *
  subst s1
  obtain ⟨x, T', h', k1, y, kk, X', eh', E, hS', hk', hW, how', EX, FC, FV, AV, -, -, hC', -, hne, st'⟩ := ldcCH X hxx hZ how w wS e s2 s3 s4 hmem s5.1 ht hz hl (g := mkF m pc ls st) rfl (hb hbb hd) hn hbig hc hs
  have hA : Av G.Z h' y .byte vs := by
    obtain ⟨cl, A, -, h2, h3, h4, -⟩ := AV
    refine ⟨cl, A, List.ext_getElem? fun j => ?_⟩
    by_cases q : j < vs.length
    · have := h4 j (by omega)
      simpa [List.getElem?_eq_getElem q] using this
    · rw [List.getElem?_eq_none (by simp; omega), List.getElem?_eq_none (by omega)]
  obtain ⟨s₂, o, hs', r⟩ := k (p, e', U.setVm T'.vm, m, args, below, meth, c) h' x y ⟨hxx, hW, hbb, C.ml, how', C.name, C.rt, C.lk, C.2.2.2.2.2.2.2.2⟩ ⟨rfl, ⟨k1, hS', hk'⟩, s4, s5.trans hC', fun q hq => ⟨Nat.lt_of_lt_of_le (s6 q hq).1 E.1, hC'.safe (s6 q hq).1 (s6 q hq).2⟩⟩ E EX FC FV hA (fun q hq => hne q (hC'.safe (s6 q hq).1 (s6 q hq).2)) T' locs X' eh' N0
  exact ⟨s₂, o, st' _ hs', r⟩
section CallsS
variable {y : MethodName} {bytes' : ByteArray} {maxL' : Nat} {ret' : Option FieldType} {rm' : Room} {as : Array Value} {R' : Option Value → Heap → Prop} {stk rest : List Value} {mc : List Addr}
theorem backS {p : Program} {e : Env} {R : Room} {below : List Frame} {s : State} {vm0 : Vm} {args : Array Value} {len W : Nat} (M : ConS G EL mc y bytes' maxL' ret' rm' as h R')
    (hZ : G.Z.Warmed39 vm0) (wc : (Jvm.Cond.code y bytes' maxL' ret').before G.a0 G.Z = true) (wz : (Jvm.Cond.initialized y.cls).before G.a0 G.Z = true) (hf : rm'.frames + 1 ≤ R.frames) (hl : W + (maxL' + 11) + rm'.locals ≤ R.locals) (hEL : EW G.Z G.a0 EL) (H : CHv G.Z EL vm0 h) (hS : ∀ x ∈ mc, x < h.size ∧ Safe G.Z EL vm0 h x) :
    BackS G.l R p e below (s.setVm vm0) args y len W (fun A a => a = as ∧ A.U.heap = h ∧ A.cells + rm'.cells ≤ R.cells ∧ A.slots + rm'.slots ≤ R.slots)
      (fun A _ v B => ∃ L, (R' v B.U.heap ∧ Fr G.n0 L) ∧ B.locs = A.locs ++ L ∧ B.cells = A.cells + rm'.cells ∧ B.slots = A.slots + rm'.slots ∧ CHr G.Z EL vm0 h B.U.vm B.U.heap) :=
  BackS.of_freeW (bytes := bytes') (maxL := maxL') (ret := ret') (E := fun _ first o t L k n => k = rm'.cells ∧ n = rm'.slots ∧ (∃ v, o = .returned v ∧ (R' v t.heap ∧ Fr G.n0 L)) ∧ CHr G.Z EL first.vm first.heap t.vm t.heap) (M []) hf hl
    (fun m meth c A a Y hp => have hU : G.Z.Warmed39 A.U.vm := wtrans (s := s.setVm vm0) hZ Y.warmed
      ⟨by show (Cond.and _ .tt).before a A.U = true; rw [Cond.before_and, mv hU wc]; rfl, mv hU wc, mv hU wz, hp.2.2.1, hp.2.2.2⟩)
    (fun m meth c A a g mk Y hp => have B := CHv.at Y hZ hEL H
      ⟨hp.1, wtrans (s := s.setVm vm0) hZ Y.warmed, hp.2.1, B.1, fun x hx => ⟨(hS x hx).1, B.safe (hS x hx).1 (hS x hx).2⟩⟩) (fun _ _ _ _ _ _ _ _ _ => trivial)
    (fun _ _ _ _ ⟨v, L, h1, h2, h3, h4⟩ => ⟨L, _, _, h4, rfl, rfl, ⟨v, h1, h2⟩, h3⟩)
    (fun m meth c A a g mk v t L k n Y hp _ _ ⟨e1, e2, ⟨v', e3, e4⟩, e5⟩ => by
      cases e3; subst e1 e2
      refine ⟨L, e4, rfl, rfl, rfl, (CHv.at Y hZ hEL H).trans ?_⟩
      rw [← hp.2.1]; exact e5)
/-- what stands behind such a call -/
theorem SX.back {vm0 vm1 : Vm} {p : Program} {e : Env} {m : MethodId} {args : Array Value} {below : List Frame} {meth : Method} {c : Code} {h' : Heap} (C : Cx G (p, e, U.setVm vm0, m, args, below, meth, c) own nm bytes maxL ret W) (S : SX G (p, e, U.setVm vm0, m, args, below, meth, c) EL U h ms) (h2 : (U.setVm vm0).Since vm1 h'.size) (hg : h.size ≤ h'.size) (hC : CHr G.Z EL vm0 h vm1 h') :
    Cx G (p, e, U.setVm vm1, m, args, below, meth, c) own nm bytes maxL ret W ∧ SX G (p, e, U.setVm vm1, m, args, below, meth, c) EL U h' ms := by
  obtain ⟨s1, ⟨k0, s2, s3⟩, s4, s5, s6⟩ := S
  refine ⟨⟨C.hx, State.Warmed39.trans C.hZ h2.1, C.by, C.ml, (h2.1.alike.findClass _ _).trans C.ow, C.name, C.rt, C.lk, C.2.2.2.2.2.2.2.2⟩, rfl, ⟨h'.size, s2.trans h2 (Nat.le_trans s3 hg), Nat.le_refl _⟩, s4, s5.trans hC, fun q hq => ⟨Nat.lt_of_lt_of_le (s6 q hq).1 hg, hC.safe (s6 q hq).1 (s6 q hq).2⟩⟩
theorem N.callSS (C : Cx G K own nm bytes maxL ret W) (S : SX G K EL U h ms) {i : Nat} (argsL : List Value) (hd : decode bytes pc = .ok (.invokestatic i, 3)) (w1 : (Jvm.Cond.methodLink own i y).before G.a0 G.Z = true) (w2 : (Jvm.Cond.static y).before G.a0 G.Z = true) (w3 : (Jvm.Cond.initialized y.cls).before G.a0 G.Z = true) (w4 : (Jvm.Cond.code y bytes' maxL' ret').before G.a0 G.Z = true)
    (hy : y.cls ≠ "java/lang/invoke/MethodHandle" ∧ y.cls ≠ "java/lang/invoke/VarHandle") (hm : ∀ x ∈ mc, x ∈ ms) (M : ConS G EL mc y bytes' maxL' ret' rm' argsL.toArray h R') (hlen : ∀ sig, parseMethodDescriptor y.desc = some sig → argsL.length = sig.parameters.length) (hsz : ls.size = maxL)
    (hf : rm'.frames + 1 ≤ rm.frames) (hl : (rest.map fun v => v.category).sum + (maxL' + 11) + rm'.locals ≤ rm.locals) (hc : a + rm'.cells ≤ rm.cells) (hs : b + rm'.slots ≤ rm.slots) (hst : stk = argsL.reverse ++ rest) (hp : pc + 3 = pc')
    (k : ∀ (K : Kx) v h', Cx G K own nm bytes maxL ret W → SX G K EL U h' ms → R' v h' → NE G K rm Q h' (a + rm'.cells) (b + rm'.slots) pc' ls (v.toList ++ rest)) : NE G K rm Q h a b pc ls stk := fun T locs X e N0 => by
  subst hp
  obtain ⟨p, e', s, m, args, below, meth, c⟩ := K
  obtain ⟨vm0, hv⟩ : ∃ v, s = U.setVm v := ⟨_, S.1⟩
  subst hv
  obtain ⟨v, _, ⟨T', L', k', n'⟩, -, X', hS', hg', ⟨Lc, ⟨hQ, N1⟩, l', y', z', hC'⟩, s'⟩ := Jvm.RoadKit.callSS X C.hx (y := y) C.ow (mvT C.hZ w1) (mvT C.hZ w2) (mvT C.hZ w3) (mvT C.hZ w4) hy (backS (W := (rest.map fun v => v.category).sum) M C.hZ w4 w3 hf hl S.2.2.1 S.2.2.2.1.1 (fun x hx => S.2.2.2.2 x (hm x hx))) (g := mkF m pc ls stk) rfl (by rw [← C.ml] at hsz; exact hsz) (argsL := argsL) (rest := rest) hlen hst (by show 2 * 0 + _ ≤ _; omega) (hb C.by hd) (fun _ _ => ⟨rfl, e, hc, hs⟩)
  dsimp only [Pt.U, Pt.locs, Pt.cells, Pt.slots] at X' l' y' z' s' hQ hS' hg' hC'
  subst l' y' z'
  obtain ⟨C', S'⟩ := SX.back C S hS' (by rw [← e]; exact hg') hC'
  obtain ⟨s₂, o, hs', r⟩ := k _ v T'.heap C' S' hQ T' _ X' rfl (N0.app N1)
  exact ⟨s₂, o, s'.trans hs', r⟩
theorem N.callIS (C : Cx G K own nm bytes maxL ret W) (S : SX G K EL U h ms) {i : Nat} (x : Addr) (argsL : List Value) (hd : decode bytes pc = .ok (.invokespecial i, 3)) (hy1 : y.name = "<init>") (w1 : (Jvm.Cond.methodLink own i y).before G.a0 G.Z = true) (w2 : (Jvm.Cond.instanceMethod y).before G.a0 G.Z = true) (w3 : (Jvm.Cond.initialized y.cls).before G.a0 G.Z = true) (w4 : (Jvm.Cond.code y bytes' maxL' none).before G.a0 G.Z = true)
    (hy : y.cls ≠ "java/lang/invoke/MethodHandle" ∧ y.cls ≠ "java/lang/invoke/VarHandle") (hm : ∀ x ∈ mc, x ∈ ms) (M : ConS G EL mc y bytes' maxL' none rm' (.ref x :: argsL).toArray h R') (hlen : ∀ sig, parseMethodDescriptor y.desc = some sig → argsL.length = sig.parameters.length) (hsz : ls.size = maxL)
    (hf : rm'.frames + 1 ≤ rm.frames) (hl : (rest.map fun v => v.category).sum + (maxL' + 11) + rm'.locals ≤ rm.locals) (hc : a + rm'.cells ≤ rm.cells) (hs : b + rm'.slots ≤ rm.slots) (hst : stk = argsL.reverse ++ .ref x :: rest) (hp : pc + 3 = pc')
    (k : ∀ (K : Kx) v h', Cx G K own nm bytes maxL ret W → SX G K EL U h' ms → R' v h' → NE G K rm Q h' (a + rm'.cells) (b + rm'.slots) pc' ls (v.toList ++ rest)) : NE G K rm Q h a b pc ls stk := fun T locs X e N0 => by
  subst hp
  obtain ⟨p, e', s, m, args, below, meth, c⟩ := K
  obtain ⟨vm0, hv⟩ : ∃ v, s = U.setVm v := ⟨_, S.1⟩
  subst hv
  obtain ⟨v, _, ⟨T', L', k', n'⟩, -, X', hS', hg', ⟨Lc, ⟨hQ, N1⟩, l', y', z', hC'⟩, s'⟩ := X.specialBackS C.hx (y := y) hy1 C.ow (mvT C.hZ w1) (mvT C.hZ w2) (mvT C.hZ w4) hy (backS (W := (rest.map fun v => v.category).sum) M C.hZ w4 w3 hf hl S.2.2.1 S.2.2.2.1.1 (fun x hx => S.2.2.2.2 x (hm x hx))) (g := mkF m pc ls stk) rfl (by rw [← C.ml] at hsz; exact hsz) (Steps.refl _) (a := x) (argsL := argsL) (rest := rest) hlen hst (by show 2 * 0 + _ ≤ _; omega) (hb C.by hd) (fun _ _ => ⟨rfl, e, hc, hs⟩)
  dsimp only [Pt.U, Pt.locs, Pt.cells, Pt.slots] at X' l' y' z' s' hQ hS' hg' hC'
  subst l' y' z'
  obtain ⟨C', S'⟩ := SX.back C S hS' (by rw [← e]; exact hg') hC'
  obtain ⟨s₂, o, hs', r⟩ := k _ v T'.heap C' S' hQ T' _ X' rfl (N0.app N1)
  exact ⟨s₂, o, s'.trans hs', r⟩
theorem N.callVS (C : Cx G K own nm bytes maxL ret W) (S : SX G K EL U h ms) {i : Nat} (x : Addr) (argsL : List Value) (hd : decode bytes pc = .ok (.invokevirtual i, 3)) (w1 : (Jvm.Cond.methodLink own i y).before G.a0 G.Z = true) (wd : (Jvm.Cond.declares y).before G.a0 G.Z = true) (ws : (Jvm.Cond.selects y.cls y y).before G.a0 G.Z = true) (w2 : (Jvm.Cond.instanceMethod y).before G.a0 G.Z = true) (w3 : (Jvm.Cond.initialized y.cls).before G.a0 G.Z = true) (w4 : (Jvm.Cond.code y bytes' maxL' ret').before G.a0 G.Z = true)
    (hy : y.cls ≠ "java/lang/invoke/MethodHandle" ∧ y.cls ≠ "java/lang/invoke/VarHandle") (E : Exa G.Z h x y.cls) (hm : ∀ x ∈ mc, x ∈ ms) (M : ConS G EL mc y bytes' maxL' ret' rm' (.ref x :: argsL).toArray h R') (hlen : ∀ sig, parseMethodDescriptor y.desc = some sig → argsL.length = sig.parameters.length) (hsz : ls.size = maxL)
    (hf : rm'.frames + 1 ≤ rm.frames) (hl : (rest.map fun v => v.category).sum + (maxL' + 11) + rm'.locals ≤ rm.locals) (hc : a + rm'.cells ≤ rm.cells) (hs : b + rm'.slots ≤ rm.slots) (hst : stk = argsL.reverse ++ .ref x :: rest) (hp : pc + 3 = pc')
    (k : ∀ (K : Kx) v h', Cx G K own nm bytes maxL ret W → SX G K EL U h' ms → R' v h' → NE G K rm Q h' (a + rm'.cells) (b + rm'.slots) pc' ls (v.toList ++ rest)) : NE G K rm Q h a b pc ls stk := fun T locs X e N0 => by
  subst hp
  obtain ⟨cq, kq, qa, qb, qc⟩ := isOf C.hZ e E
  obtain ⟨p, e', s, m, args, below, meth, c⟩ := K
  obtain ⟨vm0, hv⟩ : ∃ v, s = U.setVm v := ⟨_, S.1⟩
  subst hv
  obtain ⟨v, _, ⟨T', L', k', n'⟩, -, X', hS', hg', ⟨Lc, ⟨hQ, N1⟩, l', y', z', hC'⟩, s'⟩ := X.virtualBackS C.hx (y := y) (z := y) C.ow (mvT C.hZ w1) (mvT C.hZ wd) (notFace_of_selects (args := #[]) (mvT C.hZ ws)) (mvT C.hZ ws) (mvT C.hZ w2) hy (backS (W := (rest.map fun v => v.category).sum) M C.hZ w4 w3 hf hl S.2.2.1 S.2.2.2.1.1 (fun x hx => S.2.2.2.2 x (hm x hx))) qa qc (g := mkF m pc ls stk) rfl (by rw [← C.ml] at hsz; exact hsz) (Steps.refl _) (argsL := argsL) (rest := rest) hlen hst (by show 2 * 0 + _ ≤ _; omega) (hb C.by hd) (fun _ _ => ⟨rfl, e, hc, hs⟩)
  dsimp only [Pt.U, Pt.locs, Pt.cells, Pt.slots] at X' l' y' z' s' hQ hS' hg' hC'
  subst l' y' z'
  obtain ⟨C', S'⟩ := SX.back C S hS' (by rw [← e]; exact hg') hC'
  obtain ⟨s₂, o, hs', r⟩ := k _ v T'.heap C' S' hQ T' _ X' rfl (N0.app N1)
  exact ⟨s₂, o, s'.trans hs', r⟩
end CallsS
end Str
end Calls
end Rules
end Jvm.OwnKit

namespace Jvm.Pilot.@@N@@
open Jvm Jvm.ClassFile Sem Op Lib Jvm.Free Jvm.Stand Jvm.LawKit Jvm.RoadKit Bundle Jvm.OwnKit Jvm.Pilot.@@N@@.Jvm.D
def own_ok (cs : List Int32) : Prop := cs.length ≤ 3 ∧ ∀ (j : Nat) (c : Int32), cs[j]? = some c → 0 ≤ c.toInt ∧ c.toInt < 65536
def own_lo (cs : List Int32) : Bool := cs.all (fun c => decide (c.toInt ≤ 255))
def own_b8 (c : Int32) : Int32 := nar .byte c.toInt8.toInt32
def own_b0 (c : Int32) : Int32 := nar .byte ((c >>> ((0 : Int32) &&& 31)).toInt8.toInt32)
def own_b1 (c : Int32) : Int32 := nar .byte ((c >>> ((8 : Int32) &&& 31)).toInt8.toInt32)
def own_ub (cs : List Int32) (j : Nat) : Int32 := if j % 2 = 0 then own_b0 (cs.getD (j / 2) 0) else own_b1 (cs.getD (j / 2) 0)
def own_u16 (cs : List Int32) : List Int32 := (List.range (2 * cs.length)).map (own_ub cs)
def own_bytes (cs : List Int32) : List Int32 := if own_lo cs = true then cs.map own_b8 else own_u16 cs
def own_cod (cs : List Int32) : Int32 := if own_lo cs = true then 0 else 1
def own_mk (n c1 c2 c3 : Int32) : List Int32 := if n = 0 then [] else if n = 1 then [nar .char c1] else if n = 2 then [nar .char c1, nar .char c2] else [nar .char c1, nar .char c2, nar .char c3]
theorem own_pm {ps : List Int32} {i : Nat} {y : Int32} (h : ps[i]? = some y) : (ps.map Value.int)[i]? = some (.int y) := by rw [List.getElem?_map, h]; rfl
theorem own_at (cs : List Int32) {k : Nat} (h : k < cs.length) : ∃ c, cs[k]? = some c := ⟨cs[k], List.getElem?_eq_getElem h⟩
theorem own_inc {i : Int32} {k : Nat} (h : i.toInt = (k : Nat)) (hk : k < 100) : (i + (1 : Int32)).toInt = ((k + 1 : Nat) : Int) := by
  have h1 := c_iadd i 1
  have h3 := rng32 (i + 1)
  have e1 : (1 : Int32).toInt = 1 := by decide
  omega
theorem own_narc (x : Int32) : 0 ≤ (nar .char x).toInt ∧ (nar .char x).toInt < 65536 := (c_i2c x).2
theorem own_mk_ok (n c1 c2 c3 : Int32) : own_ok (own_mk n c1 c2 c3) := by
  have h1 := own_narc c1
  have h2 := own_narc c2
  have h3 := own_narc c3
  unfold own_mk
  split
  · exact ⟨by simp, fun j c h => by simp at h⟩
  split
  · refine ⟨by simp, fun j c h => ?_⟩
    have := List.mem_of_getElem? h
    simp at this; subst this; exact h1
  split
  · refine ⟨by simp, fun j c h => ?_⟩
    have := List.mem_of_getElem? h
    simp at this; rcases this with rfl | rfl <;> assumption
  · refine ⟨by simp, fun j c h => ?_⟩
    have := List.mem_of_getElem? h
    simp at this; rcases this with rfl | rfl | rfl <;> assumption
theorem own_mk_len {n c1 c2 c3 : Int32} (h0 : 0 ≤ n.toInt) (h3 : n.toInt ≤ 3) : n.toInt = ((own_mk n c1 c2 c3).length : Nat) := by
  unfold own_mk
  split
  · rename_i h; subst h; decide
  split
  · rename_i h; subst h; rfl
  split
  · rename_i h; subst h; rfl
  · rename_i a b c
    have := neI a; have := neI b; have := neI c
    have e0 : (0 : Int32).toInt = 0 := by decide
    have e1 : (1 : Int32).toInt = 1 := by decide
    have e2 : (2 : Int32).toInt = 2 := by decide
    simp; omega
theorem own_stp {n : Nat} {tb cs : List Int32} {k : Nat} {c : Int32} (hl : tb.length = n) (hk : k < n) (h : ∀ j : Nat, j < k → tb[j]? = cs[j]?) (hc : cs[k]? = some c) : ∀ j : Nat, j < k + 1 → (tb.set k c)[j]? = cs[j]? := fun j hj => by
  by_cases q : k = j
  · subst q; rw [List.getElem?_set_self (by omega), hc]
  · rw [List.getElem?_set_ne q]; exact h j (by omega)
theorem own_eqN {n : Nat} {cs tb : List Int32} (hc : cs.length = n) (hl : tb.length = n) (h : ∀ j : Nat, j < n → tb[j]? = cs[j]?) : tb = cs := by
  apply List.ext_getElem?
  intro i
  by_cases q : i < n
  · exact h i q
  · rw [List.getElem?_eq_none (by omega), List.getElem?_eq_none (by omega)]
theorem own_lo1 {cs : List Int32} (h : ∀ (j : Nat), j < cs.length → ∀ c, cs[j]? = some c → c.toInt ≤ 255) : own_lo cs = true := by
  unfold own_lo
  rw [List.all_eq_true]
  intro c hc
  obtain ⟨j, hj, e⟩ := List.getElem_of_mem hc
  exact decide_eq_true (h j hj c (by rw [List.getElem?_eq_getElem hj, e]))
theorem own_lo0 {cs : List Int32} {k : Nat} {c : Int32} (h : cs[k]? = some c) (hc : 255 < c.toInt) : own_lo cs = false := by
  unfold own_lo
  rw [List.all_eq_false]
  exact ⟨c, List.mem_of_getElem? h, by simp; omega⟩
theorem own_u16_len (cs : List Int32) : (own_u16 cs).length = 2 * cs.length := by simp [own_u16]
theorem own_u16_at {cs : List Int32} {k : Nat} {c : Int32} (h : cs[k]? = some c) : (own_u16 cs)[2 * k]? = some (own_b0 c) ∧ (own_u16 cs)[2 * k + 1]? = some (own_b1 c) := by
  have hk : k < cs.length := (List.getElem?_eq_some_iff.mp h).1
  have e : cs.getD k 0 = c := by simp [List.getD, h]
  have e1 : 2 * k / 2 = k := by omega
  have e2 : (2 * k + 1) / 2 = k := by omega
  have e3 : 2 * k % 2 = 0 := by omega
  have e4 : (2 * k + 1) % 2 ≠ 0 := by omega
  constructor
  · rw [own_u16, List.getElem?_map, List.getElem?_range (by omega)]; simp only [Option.map_some, own_ub, e3, e1, if_true, e]
  · rw [own_u16, List.getElem?_map, List.getElem?_range (by omega)]; simp only [Option.map_some, own_ub, e4, e2, if_false, e]
theorem own_s0 (c : Int32) : (c >>> ((0 : Int32) &&& 31)).toInt = c.toInt := by
  have h := c_ishr c 0 0 (by decide)
  have e : ((2 ^ 0 : Nat) : Int) = 1 := by decide
  rw [e] at h; omega
theorem own_s8 (c : Int32) : (c >>> ((8 : Int32) &&& 31)).toInt = c.toInt / 256 := by
  have h := c_ishr c 8 8 (by decide)
  have e : ((2 ^ 8 : Nat) : Int) = 256 := by decide
  rw [e] at h; exact h
theorem own_nb {x : Int32} : ((nar .byte x.toInt8.toInt32) &&& (255 : Int32)).toInt = x.toInt % 256 := by
  have h := c_mask (nar .byte x.toInt8.toInt32) 255 8 (by decide) (by decide)
  have e : ((2 ^ 8 : Nat) : Int) = 256 := by decide
  rw [e] at h
  have h1 := c_i2b x
  have h2 := c_i2b x.toInt8.toInt32
  have h3 : (nar .byte x.toInt8.toInt32).toInt = x.toInt8.toInt32.toInt8.toInt32.toInt := rfl
  omega
theorem own_rt {c : Int32} (h0 : 0 ≤ c.toInt) (h1 : c.toInt < 65536) : (nar .char (((((own_b0 c) &&& (255 : Int32)) <<< ((0 : Int32) &&& 31)) ||| (((own_b1 c) &&& (255 : Int32)) <<< ((8 : Int32) &&& 31))).toUInt32.toUInt16.toUInt32.toInt32)).toInt = c.toInt := by
  have a0 : ((own_b0 c) &&& (255 : Int32)).toInt = c.toInt % 256 := by unfold own_b0; rw [own_nb, own_s0]
  have a1 : ((own_b1 c) &&& (255 : Int32)).toInt = c.toInt / 256 := by unfold own_b1; rw [own_nb, own_s8]; omega
  generalize (own_b0 c) &&& (255 : Int32) = x at *
  generalize (own_b1 c) &&& (255 : Int32) = y at *
  have b0 := c_ishl x 0 0 (by decide)
  have b1 := c_ishl y 8 8 (by decide)
  have e0 : ((2 ^ 0 : Nat) : Int) = 1 := by decide
  have e8 : ((2 ^ 8 : Nat) : Int) = 256 := by decide
  rw [e0] at b0
  rw [e8] at b1
  have r0 := rng32 (x <<< ((0 : Int32) &&& 31))
  have r1 := rng32 (y <<< ((8 : Int32) &&& 31))
  generalize x <<< ((0 : Int32) &&& 31) = X at *
  generalize y <<< ((8 : Int32) &&& 31) = Y at *
  have q := c_or' X Y 8 (by decide) 256 (by decide) (by omega) (by omega) (by omega)
  have r2 := rng32 (X ||| Y)
  have q1 := c_i2c (X ||| Y)
  have q2 := c_i2c (X ||| Y).toUInt32.toUInt16.toUInt32.toInt32
  have q3 : (nar .char (X ||| Y).toUInt32.toUInt16.toUInt32.toInt32).toInt = (X ||| Y).toUInt32.toUInt16.toUInt32.toInt32.toUInt32.toUInt16.toUInt32.toInt32.toInt := rfl
  omega
theorem own_dbl {n : Int32} {k : Nat} (h : n.toInt = (k : Nat)) (hk : k < 100) : (n <<< ((1 : Int32) &&& 31)).toInt = ((2 * k : Nat) : Int) := by
  have b0 := c_ishl n 1 1 (by decide)
  have e0 : ((2 ^ 1 : Nat) : Int) = 2 := by decide
  rw [e0] at b0
  have r0 := rng32 (n <<< ((1 : Int32) &&& 31))
  omega
theorem own_cfa {n m : Int32} (h0 : 0 ≤ n.toInt) (hn : n.toInt ≤ 3) (hm : m.toInt = n.toInt ∨ (m.toInt = 2 * n.toInt ∧ 0 < n.toInt)) : nar .byte ((((n - m).toUInt32 >>> ((31 : Int32) &&& 31).toUInt32).toInt32).toInt8.toInt32) = if m.toInt = n.toInt then 0 else 1 := by
  have h1 := c_isub n m
  have h2 := rng32 (n - m)
  have h3 := c_iushr (n - m) 31 31 (by decide) (by decide)
  have e : ((2 ^ 31 : Nat) : Int) = 2147483648 := by decide
  rw [e] at h3
  generalize ((n - m).toUInt32 >>> ((31 : Int32) &&& 31).toUInt32).toInt32 = z at *
  have h4 := c_i2b z
  have h5 := c_i2b z.toInt8.toInt32
  have h6 : (nar .byte z.toInt8.toInt32).toInt = z.toInt8.toInt32.toInt8.toInt32.toInt := rfl
  have e0 : (0 : Int32).toInt = 0 := by decide
  have e1 : (1 : Int32).toInt = 1 := by decide
  apply Int32.toInt_inj.mp
  split <;> omega
theorem own_bytes_len (cs : List Int32) : (own_bytes cs).length = (if own_lo cs = true then cs.length else 2 * cs.length) := by
  unfold own_bytes
  split <;> simp [own_u16]
theorem own_len {cs : List Int32} {m : Int32} {k : Nat} (hm : m.toInt = ((own_bytes cs).length : Nat)) (hl : cs.length ≤ 3) : (m >>> (own_cod cs &&& 31)).toInt = (cs.length : Nat) := by
  rw [own_bytes_len] at hm
  unfold own_cod
  split at hm
  · rename_i q; rw [if_pos q, own_s0]; exact hm
  · rename_i q
    rw [if_neg q]
    have h := c_ishr m 1 1 (by decide)
    have e : ((2 ^ 1 : Nat) : Int) = 2 := by decide
    rw [e] at h; omega
theorem own_cod01 (cs : List Int32) : nar .byte (own_cod cs) = own_cod cs := by
  unfold own_cod
  split <;> decide
def own_EL : List (String × Nat) := consts_1
theorem own_ew {a0 : Array Value} {Z : State} (hw : ∀ d ∈ tables_1, d.before a0 Z = true) : EW Z a0 own_EL :=
  EW.cons (hw _ (List.mem_of_getElem? (i := 35) rfl)) (by decide) (EW.cons (hw _ (List.mem_of_getElem? (i := 18) rfl)) (by decide) EW.nil)
theorem own_SA {a0 : Array Value} {Z : State} (hw : ∀ d ∈ tables_1, d.before a0 Z = true) : ∀ d ∈ Bundle.stringAtoms, d.before a0 Z = true := fun d hd => by
  simp only [Bundle.stringAtoms, List.mem_cons, List.not_mem_nil, or_false] at hd
  rcases hd with rfl | rfl | rfl | rfl | rfl | rfl | rfl
  · exact hw _ (List.mem_of_getElem? (i := 2) rfl)
  · exact hw _ (List.mem_of_getElem? (i := 1) rfl)
  · exact hw _ (List.mem_of_getElem? (i := 19) rfl)
  · exact hw _ (List.mem_of_getElem? (i := 20) rfl)
  · exact hw _ (List.mem_of_getElem? (i := 21) rfl)
  · exact hw _ (List.mem_of_getElem? (i := 22) rfl)
  · exact hw _ (List.mem_of_getElem? (i := 23) rfl)
def Ss (G : Gx) (cp : Int32) (kT kO kL kN kB kF : Addr) : Prop := Sta G.Z G.Z.heap "java/lang/String" "COMPACT_STRINGS" "Z" (.int cp) ∧ Sta G.Z G.Z.heap "java/lang/StringUTF16" "$assertionsDisabled" "Z" (.int 1) ∧ Sta G.Z G.Z.heap "java/lang/StringUTF16" "HI_BYTE_SHIFT" "I" (.int 0) ∧ Sta G.Z G.Z.heap "java/lang/StringUTF16" "LO_BYTE_SHIFT" "I" (.int 8) ∧ Sta G.Z G.Z.heap "com/example/charterbook/charterbook/book/JsonValue$Kind" "TEXT" "Lcom/example/charterbook/charterbook/book/JsonValue$Kind;" (.ref kT) ∧ Sta G.Z G.Z.heap "com/example/charterbook/charterbook/book/JsonValue$Kind" "OBJECT" "Lcom/example/charterbook/charterbook/book/JsonValue$Kind;" (.ref kO) ∧ Sta G.Z G.Z.heap "com/example/charterbook/charterbook/book/JsonValue$Kind" "LIST" "Lcom/example/charterbook/charterbook/book/JsonValue$Kind;" (.ref kL) ∧ Sta G.Z G.Z.heap "com/example/charterbook/charterbook/book/JsonValue$Kind" "NUMBER" "Lcom/example/charterbook/charterbook/book/JsonValue$Kind;" (.ref kN) ∧ Sta G.Z G.Z.heap "com/example/charterbook/charterbook/book/JsonValue$Kind" "TRUE" "Lcom/example/charterbook/charterbook/book/JsonValue$Kind;" (.ref kB) ∧ Sta G.Z G.Z.heap "com/example/charterbook/charterbook/book/JsonValue$Kind" "FALSE" "Lcom/example/charterbook/charterbook/book/JsonValue$Kind;" (.ref kF) ∧ ¬ cp = 0 ∧ kT ≠ kO ∧ kT ≠ kL ∧ kT ≠ kN ∧ kT ≠ kB ∧ kT ≠ kF
theorem Ss.s0 {G : Gx} {cp : Int32} {kT kO kL kN kB kF : Addr} (H : Ss G cp kT kO kL kN kB kF) : Sta G.Z G.Z.heap "java/lang/String" "COMPACT_STRINGS" "Z" (.int cp) := H.1
theorem Ss.s1 {G : Gx} {cp : Int32} {kT kO kL kN kB kF : Addr} (H : Ss G cp kT kO kL kN kB kF) : Sta G.Z G.Z.heap "java/lang/StringUTF16" "$assertionsDisabled" "Z" (.int 1) := H.2.1
theorem Ss.s2 {G : Gx} {cp : Int32} {kT kO kL kN kB kF : Addr} (H : Ss G cp kT kO kL kN kB kF) : Sta G.Z G.Z.heap "java/lang/StringUTF16" "HI_BYTE_SHIFT" "I" (.int 0) := H.2.2.1
theorem Ss.s3 {G : Gx} {cp : Int32} {kT kO kL kN kB kF : Addr} (H : Ss G cp kT kO kL kN kB kF) : Sta G.Z G.Z.heap "java/lang/StringUTF16" "LO_BYTE_SHIFT" "I" (.int 8) := H.2.2.2.1
theorem Ss.s4 {G : Gx} {cp : Int32} {kT kO kL kN kB kF : Addr} (H : Ss G cp kT kO kL kN kB kF) : Sta G.Z G.Z.heap "com/example/charterbook/charterbook/book/JsonValue$Kind" "TEXT" "Lcom/example/charterbook/charterbook/book/JsonValue$Kind;" (.ref kT) := H.2.2.2.2.1
theorem Ss.s5 {G : Gx} {cp : Int32} {kT kO kL kN kB kF : Addr} (H : Ss G cp kT kO kL kN kB kF) : Sta G.Z G.Z.heap "com/example/charterbook/charterbook/book/JsonValue$Kind" "OBJECT" "Lcom/example/charterbook/charterbook/book/JsonValue$Kind;" (.ref kO) := H.2.2.2.2.2.1
theorem Ss.s6 {G : Gx} {cp : Int32} {kT kO kL kN kB kF : Addr} (H : Ss G cp kT kO kL kN kB kF) : Sta G.Z G.Z.heap "com/example/charterbook/charterbook/book/JsonValue$Kind" "LIST" "Lcom/example/charterbook/charterbook/book/JsonValue$Kind;" (.ref kL) := H.2.2.2.2.2.2.1
theorem Ss.s7 {G : Gx} {cp : Int32} {kT kO kL kN kB kF : Addr} (H : Ss G cp kT kO kL kN kB kF) : Sta G.Z G.Z.heap "com/example/charterbook/charterbook/book/JsonValue$Kind" "NUMBER" "Lcom/example/charterbook/charterbook/book/JsonValue$Kind;" (.ref kN) := H.2.2.2.2.2.2.2.1
theorem Ss.s8 {G : Gx} {cp : Int32} {kT kO kL kN kB kF : Addr} (H : Ss G cp kT kO kL kN kB kF) : Sta G.Z G.Z.heap "com/example/charterbook/charterbook/book/JsonValue$Kind" "TRUE" "Lcom/example/charterbook/charterbook/book/JsonValue$Kind;" (.ref kB) := H.2.2.2.2.2.2.2.2.1
theorem Ss.s9 {G : Gx} {cp : Int32} {kT kO kL kN kB kF : Addr} (H : Ss G cp kT kO kL kN kB kF) : Sta G.Z G.Z.heap "com/example/charterbook/charterbook/book/JsonValue$Kind" "FALSE" "Lcom/example/charterbook/charterbook/book/JsonValue$Kind;" (.ref kF) := H.2.2.2.2.2.2.2.2.2.1
theorem Ss.cp0 {G : Gx} {cp : Int32} {kT kO kL kN kB kF : Addr} (H : Ss G cp kT kO kL kN kB kF) : ¬ cp = 0 := H.2.2.2.2.2.2.2.2.2.2.1
theorem Ss.n1 {G : Gx} {cp : Int32} {kT kO kL kN kB kF : Addr} (H : Ss G cp kT kO kL kN kB kF) : kT ≠ kO := H.2.2.2.2.2.2.2.2.2.2.2.1
theorem Ss.n2 {G : Gx} {cp : Int32} {kT kO kL kN kB kF : Addr} (H : Ss G cp kT kO kL kN kB kF) : kT ≠ kL := H.2.2.2.2.2.2.2.2.2.2.2.2.1
theorem Ss.n3 {G : Gx} {cp : Int32} {kT kO kL kN kB kF : Addr} (H : Ss G cp kT kO kL kN kB kF) : kT ≠ kN := H.2.2.2.2.2.2.2.2.2.2.2.2.2.1
theorem Ss.n4 {G : Gx} {cp : Int32} {kT kO kL kN kB kF : Addr} (H : Ss G cp kT kO kL kN kB kF) : kT ≠ kB := H.2.2.2.2.2.2.2.2.2.2.2.2.2.2.1
theorem Ss.n5 {G : Gx} {cp : Int32} {kT kO kL kN kB kF : Addr} (H : Ss G cp kT kO kL kN kB kF) : kT ≠ kF := H.2.2.2.2.2.2.2.2.2.2.2.2.2.2.2
theorem own_d1 {i : Int32} {k : Nat} (h : i.toInt = (k : Nat)) (hk : k < 50) : ((i <<< ((1 : Int32) &&& 31)) + (1 : Int32)).toInt = ((2 * k + 1 : Nat) : Int) := own_inc (own_dbl h (by omega)) (by omega)
theorem own_stp2 {cs bb : List Int32} {k : Nat} {c : Int32} (hl : bb.length = 2 * cs.length) (hk : k < cs.length) (h : ∀ j : Nat, j < 2 * k → bb[j]? = (own_u16 cs)[j]?) (hc : cs[k]? = some c) : ∀ j : Nat, j < 2 * (k + 1) → ((bb.set (2 * k) (own_b0 c)).set (2 * k + 1) (own_b1 c))[j]? = (own_u16 cs)[j]? :=
  own_stp (n := 2 * cs.length) (k := 2 * k + 1) (by rw [List.length_set]; exact hl) (by omega) (own_stp hl (by omega) h (own_u16_at hc).1) (own_u16_at hc).2
theorem own_codL {cs : List Int32} {n m : Int32} (hn : n.toInt = (cs.length : Nat)) (h3 : cs.length ≤ 3) (h0 : 0 < cs.length) (hm : m.toInt = ((own_bytes cs).length : Nat)) : nar .byte ((((n - m).toUInt32 >>> ((31 : Int32) &&& 31).toUInt32).toInt32).toInt8.toInt32) = own_cod cs := by
  rw [own_bytes_len] at hm
  unfold own_cod
  split at hm
  · rename_i q; rw [own_cfa (by omega) (by omega) (Or.inl (by omega)), if_pos (by omega), if_pos q]
  · rename_i q; rw [own_cfa (by omega) (by omega) (Or.inr ⟨by omega, by omega⟩), if_neg (by omega), if_neg q]
theorem own_bl {cs : List Int32} (h3 : cs.length ≤ 3) : ∃ m : Int32, m.toInt = (((own_bytes cs).map Value.int).length : Nat) := by
  refine ⟨Int32.ofNat (own_bytes cs).length, ?_⟩
  rw [List.length_map, Int32.toInt_ofNat_of_lt]
  rw [own_bytes_len]
  split <;> omega
theorem own_b6 {cs : List Int32} (h : cs.length ≤ 3) : (own_bytes cs).length ≤ 6 := by
  rw [own_bytes_len]
  split <;> omega
theorem own_and3 (p : Int32) : 0 ≤ (p &&& (3 : Int32)).toInt ∧ (p &&& (3 : Int32)).toInt ≤ 3 := by
  have h := c_mask p 3 2 (by decide) (by decide)
  have e : ((2 ^ 2 : Nat) : Int) = 4 := by decide
  rw [e] at h; omega
theorem pn0 : plainName "com/example/charterbook/charterbook/book/JsonValueTextPinLaw" = true := by first | (simp [plainName, overriddenIn]; done) | decide +kernel
theorem pn1 : plainName "com/example/charterbook/charterbook/book/JsonValueTextPinLaw" = true := by first | (simp [plainName, overriddenIn]; done) | decide +kernel
theorem pn21 : plainName "java/lang/StringUTF16" = true := by first | (simp [plainName, overriddenIn]; done) | decide +kernel
theorem pn25 : plainName "java/lang/StringUTF16" = true := by first | (simp [plainName, overriddenIn]; done) | decide +kernel
theorem pn24 : plainName "java/lang/StringUTF16" = true := by first | (simp [plainName, overriddenIn]; done) | decide +kernel
theorem pn26 : plainName "java/lang/StringUTF16" = true := by first | (simp [plainName, overriddenIn]; done) | decide +kernel
theorem pn27 : plainName "java/lang/StringUTF16" = true := by first | (simp [plainName, overriddenIn]; done) | decide +kernel
theorem pn23 : plainName "java/lang/StringUTF16" = true := by first | (simp [plainName, overriddenIn]; done) | decide +kernel
theorem pn20 : plainName "java/lang/StringUTF16" = true := by first | (simp [plainName, overriddenIn]; done) | decide +kernel
theorem pn22 : plainName "java/lang/StringUTF16" = true := by first | (simp [plainName, overriddenIn]; done) | decide +kernel
theorem pn3 : plainName "java/lang/String" = true := by first | (simp [plainName, overriddenIn]; done) | decide +kernel
theorem pn2 : plainName "java/lang/String" = true := by first | (simp [plainName, overriddenIn]; done) | decide +kernel
theorem pn6 : plainName "java/util/Objects" = true := by first | (simp [plainName, overriddenIn]; done) | decide +kernel
theorem pn7 : plainName "com/example/charterbook/charterbook/book/JsonValue" = true := by first | (simp [plainName, overriddenIn]; done) | decide +kernel
theorem pn5 : plainName "com/example/charterbook/charterbook/book/JsonValue" = true := by first | (simp [plainName, overriddenIn]; done) | decide +kernel
theorem pn9 : plainName "com/example/charterbook/charterbook/book/JsonValue" = true := by first | (simp [plainName, overriddenIn]; done) | decide +kernel
theorem pn8 : plainName "com/example/charterbook/charterbook/book/JsonValue" = true := by first | (simp [plainName, overriddenIn]; done) | decide +kernel
theorem pn10 : plainName "com/example/charterbook/charterbook/book/JsonValue" = true := by first | (simp [plainName, overriddenIn]; done) | decide +kernel
theorem pn15 : plainName "com/example/charterbook/charterbook/book/JsonValue" = true := by first | (simp [plainName, overriddenIn]; done) | decide +kernel
theorem pn16 : plainName "com/example/charterbook/charterbook/book/JsonValue" = true := by first | (simp [plainName, overriddenIn]; done) | decide +kernel
theorem pn17 : plainName "com/example/charterbook/charterbook/book/JsonValue" = true := by first | (simp [plainName, overriddenIn]; done) | decide +kernel
theorem pn18 : plainName "com/example/charterbook/charterbook/book/JsonValue" = true := by first | (simp [plainName, overriddenIn]; done) | decide +kernel
theorem pn19 : plainName "com/example/charterbook/charterbook/book/JsonValue" = true := by first | (simp [plainName, overriddenIn]; done) | decide +kernel
theorem pn12 : plainName "java/lang/StringLatin1" = true := by first | (simp [plainName, overriddenIn]; done) | decide +kernel
theorem pn11 : plainName "java/lang/String" = true := by first | (simp [plainName, overriddenIn]; done) | decide +kernel
theorem pn14 : plainName "java/lang/String" = true := by first | (simp [plainName, overriddenIn]; done) | decide +kernel
theorem pn13 : plainName "java/lang/String" = true := by first | (simp [plainName, overriddenIn]; done) | decide +kernel
theorem pd__ICCC__C : parseMethodDescriptor "(ICCC)[C" = some ⟨[.int, .char, .char, .char], some (.array .char)⟩ := by decide +kernel
theorem pd___C_V : parseMethodDescriptor "([C)V" = some ⟨[(.array .char)], none⟩ := by decide +kernel
theorem pd__Ljava_lang_String__Lcom_example_charterbook_charterbook_book_JsonValue_ : parseMethodDescriptor "(Ljava/lang/String;)Lcom/example/charterbook/charterbook/book/JsonValue;" = some ⟨[(.object "java/lang/String")], some (.object "com/example/charterbook/charterbook/book/JsonValue")⟩ := by decide +kernel
theorem pd___Ljava_lang_String_ : parseMethodDescriptor "()Ljava/lang/String;" = some ⟨[], some (.object "java/lang/String")⟩ := by decide +kernel
theorem pd___Z : parseMethodDescriptor "()Z" = some ⟨[], some .boolean⟩ := by decide +kernel
theorem pd__Ljava_lang_Object__Z : parseMethodDescriptor "(Ljava/lang/Object;)Z" = some ⟨[(.object "java/lang/Object")], some .boolean⟩ := by decide +kernel
theorem pd___I : parseMethodDescriptor "()I" = some ⟨[], some .int⟩ := by decide +kernel
theorem pd__I_I : parseMethodDescriptor "(I)I" = some ⟨[.int], some .int⟩ := by decide +kernel
theorem pd___BII_V : parseMethodDescriptor "([BII)V" = some ⟨[(.array .byte), .int, .int], none⟩ := by decide +kernel
theorem pd__I__B : parseMethodDescriptor "(I)[B" = some ⟨[.int], some (.array .byte)⟩ := by decide +kernel
theorem pd___CI_BII_I : parseMethodDescriptor "([CI[BII)I" = some ⟨[(.array .char), .int, (.array .byte), .int, .int], some .int⟩ := by decide +kernel
theorem pd___CII__B : parseMethodDescriptor "([CII)[B" = some ⟨[(.array .char), .int, .int], some (.array .byte)⟩ := by decide +kernel
theorem pd___BI_C : parseMethodDescriptor "([BI)C" = some ⟨[(.array .byte), .int], some .char⟩ := by decide +kernel
theorem pd___BI_B : parseMethodDescriptor "([BI)B" = some ⟨[(.array .byte), .int], some .byte⟩ := by decide +kernel
theorem pd___CIILjava_lang_Void__V : parseMethodDescriptor "([CIILjava/lang/Void;)V" = some ⟨[(.array .char), .int, .int, (.object "java/lang/Void")], none⟩ := by decide +kernel
theorem pd__Ljava_lang_Object_Ljava_lang_String__Ljava_lang_Object_ : parseMethodDescriptor "(Ljava/lang/Object;Ljava/lang/String;)Ljava/lang/Object;" = some ⟨[(.object "java/lang/Object"), (.object "java/lang/String")], some (.object "java/lang/Object")⟩ := by decide +kernel
theorem pd__Lcom_example_charterbook_charterbook_book_JsonValue_Kind_Ljava_util_Map_Ljava_util_List_Ljava_lang_String_Ljava_math_BigDecimal_Z_V : parseMethodDescriptor "(Lcom/example/charterbook/charterbook/book/JsonValue$Kind;Ljava/util/Map;Ljava/util/List;Ljava/lang/String;Ljava/math/BigDecimal;Z)V" = some ⟨[(.object "com/example/charterbook/charterbook/book/JsonValue$Kind"), (.object "java/util/Map"), (.object "java/util/List"), (.object "java/lang/String"), (.object "java/math/BigDecimal"), .boolean], none⟩ := by decide +kernel
theorem pd__Lcom_example_charterbook_charterbook_book_JsonValue_Kind__V : parseMethodDescriptor "(Lcom/example/charterbook/charterbook/book/JsonValue$Kind;)V" = some ⟨[(.object "com/example/charterbook/charterbook/book/JsonValue$Kind")], none⟩ := by decide +kernel
theorem pd___B_B_Z : parseMethodDescriptor "([B[B)Z" = some ⟨[(.array .byte), (.array .byte)], some .boolean⟩ := by decide +kernel
theorem pd___B : parseMethodDescriptor "()B" = some ⟨[], some .byte⟩ := by decide +kernel

theorem d1_0 : decode method_3_code 0 = .ok (.iload_n 0, 1) := by decide +kernel
theorem d1_1 : decode method_3_code 1 = .ok (.ifCond .ne 7, 3) := by decide +kernel
theorem d1_4 : decode method_3_code 4 = .ok (.iconst 0, 1) := by decide +kernel
theorem d1_5 : decode method_3_code 5 = .ok (.newarray .char, 2) := by decide +kernel
theorem d1_7 : decode method_3_code 7 = .ok (.areturn, 1) := by decide +kernel
theorem d1_8 : decode method_3_code 8 = .ok (.iload_n 0, 1) := by decide +kernel
theorem d1_9 : decode method_3_code 9 = .ok (.iconst 1, 1) := by decide +kernel
theorem d1_10 : decode method_3_code 10 = .ok (.if_icmp .ne 11, 3) := by decide +kernel
theorem d1_13 : decode method_3_code 13 = .ok (.iconst 1, 1) := by decide +kernel
theorem d1_14 : decode method_3_code 14 = .ok (.newarray .char, 2) := by decide +kernel
theorem d1_16 : decode method_3_code 16 = .ok (.dup, 1) := by decide +kernel
theorem d1_17 : decode method_3_code 17 = .ok (.iconst 0, 1) := by decide +kernel
theorem d1_18 : decode method_3_code 18 = .ok (.iload_n 1, 1) := by decide +kernel
theorem d1_19 : decode method_3_code 19 = .ok (.castore, 1) := by decide +kernel
theorem d1_20 : decode method_3_code 20 = .ok (.areturn, 1) := by decide +kernel
theorem d1_21 : decode method_3_code 21 = .ok (.iload_n 0, 1) := by decide +kernel
theorem d1_22 : decode method_3_code 22 = .ok (.iconst 2, 1) := by decide +kernel
theorem d1_23 : decode method_3_code 23 = .ok (.if_icmp .ne 15, 3) := by decide +kernel
theorem d1_26 : decode method_3_code 26 = .ok (.iconst 2, 1) := by decide +kernel
theorem d1_27 : decode method_3_code 27 = .ok (.newarray .char, 2) := by decide +kernel
theorem d1_29 : decode method_3_code 29 = .ok (.dup, 1) := by decide +kernel
theorem d1_30 : decode method_3_code 30 = .ok (.iconst 0, 1) := by decide +kernel
theorem d1_31 : decode method_3_code 31 = .ok (.iload_n 1, 1) := by decide +kernel
theorem d1_32 : decode method_3_code 32 = .ok (.castore, 1) := by decide +kernel
theorem d1_33 : decode method_3_code 33 = .ok (.dup, 1) := by decide +kernel
theorem d1_34 : decode method_3_code 34 = .ok (.iconst 1, 1) := by decide +kernel
theorem d1_35 : decode method_3_code 35 = .ok (.iload_n 2, 1) := by decide +kernel
theorem d1_36 : decode method_3_code 36 = .ok (.castore, 1) := by decide +kernel
theorem d1_37 : decode method_3_code 37 = .ok (.areturn, 1) := by decide +kernel
theorem d1_38 : decode method_3_code 38 = .ok (.iconst 3, 1) := by decide +kernel
theorem d1_39 : decode method_3_code 39 = .ok (.newarray .char, 2) := by decide +kernel
theorem d1_41 : decode method_3_code 41 = .ok (.dup, 1) := by decide +kernel
theorem d1_42 : decode method_3_code 42 = .ok (.iconst 0, 1) := by decide +kernel
theorem d1_43 : decode method_3_code 43 = .ok (.iload_n 1, 1) := by decide +kernel
theorem d1_44 : decode method_3_code 44 = .ok (.castore, 1) := by decide +kernel
theorem d1_45 : decode method_3_code 45 = .ok (.dup, 1) := by decide +kernel
theorem d1_46 : decode method_3_code 46 = .ok (.iconst 1, 1) := by decide +kernel
theorem d1_47 : decode method_3_code 47 = .ok (.iload_n 2, 1) := by decide +kernel
theorem d1_48 : decode method_3_code 48 = .ok (.castore, 1) := by decide +kernel
theorem d1_49 : decode method_3_code 49 = .ok (.dup, 1) := by decide +kernel
theorem d1_50 : decode method_3_code 50 = .ok (.iconst 2, 1) := by decide +kernel
theorem d1_51 : decode method_3_code 51 = .ok (.iload_n 3, 1) := by decide +kernel
theorem d1_52 : decode method_3_code 52 = .ok (.castore, 1) := by decide +kernel
theorem d1_53 : decode method_3_code 53 = .ok (.areturn, 1) := by decide +kernel
theorem d21_0 : decode jdk_52_method_21_code 0 = .ok (.iconst 0, 1) := by decide +kernel
theorem d21_1 : decode jdk_52_method_21_code 1 = .ok (.istore 5, 2) := by decide +kernel
theorem d21_3 : decode jdk_52_method_21_code 3 = .ok (.iload 5, 2) := by decide +kernel
theorem d21_5 : decode jdk_52_method_21_code 5 = .ok (.iload 4, 2) := by decide +kernel
theorem d21_7 : decode jdk_52_method_21_code 7 = .ok (.if_icmp .ge 37, 3) := by decide +kernel
theorem d21_10 : decode jdk_52_method_21_code 10 = .ok (.aload_n 0, 1) := by decide +kernel
theorem d21_11 : decode jdk_52_method_21_code 11 = .ok (.iload_n 1, 1) := by decide +kernel
theorem d21_12 : decode jdk_52_method_21_code 12 = .ok (.caload, 1) := by decide +kernel
theorem d21_13 : decode jdk_52_method_21_code 13 = .ok (.istore 6, 2) := by decide +kernel
theorem d21_15 : decode jdk_52_method_21_code 15 = .ok (.iload 6, 2) := by decide +kernel
theorem d21_17 : decode jdk_52_method_21_code 17 = .ok (.sipush 255, 3) := by decide +kernel
theorem d21_20 : decode jdk_52_method_21_code 20 = .ok (.if_icmp .le 6, 3) := by decide +kernel
theorem d21_23 : decode jdk_52_method_21_code 23 = .ok (.iload 5, 2) := by decide +kernel
theorem d21_25 : decode jdk_52_method_21_code 25 = .ok (.ireturn, 1) := by decide +kernel
theorem d21_26 : decode jdk_52_method_21_code 26 = .ok (.aload_n 2, 1) := by decide +kernel
theorem d21_27 : decode jdk_52_method_21_code 27 = .ok (.iload_n 3, 1) := by decide +kernel
theorem d21_28 : decode jdk_52_method_21_code 28 = .ok (.iload 6, 2) := by decide +kernel
theorem d21_30 : decode jdk_52_method_21_code 30 = .ok (.i2b, 1) := by decide +kernel
theorem d21_31 : decode jdk_52_method_21_code 31 = .ok (.bastore, 1) := by decide +kernel
theorem d21_32 : decode jdk_52_method_21_code 32 = .ok (.iinc 1 1, 3) := by decide +kernel
theorem d21_35 : decode jdk_52_method_21_code 35 = .ok (.iinc 3 1, 3) := by decide +kernel
theorem d21_38 : decode jdk_52_method_21_code 38 = .ok (.iinc 5 1, 3) := by decide +kernel
theorem d21_41 : decode jdk_52_method_21_code 41 = .ok (.goto (-38), 3) := by decide +kernel
theorem d21_44 : decode jdk_52_method_21_code 44 = .ok (.iload 4, 2) := by decide +kernel
theorem d21_46 : decode jdk_52_method_21_code 46 = .ok (.ireturn, 1) := by decide +kernel
theorem d25_0 : decode jdk_52_method_3_code 0 = .ok (.iload_n 0, 1) := by decide +kernel
theorem d25_1 : decode jdk_52_method_3_code 1 = .ok (.ifCond .ge 11, 3) := by decide +kernel
theorem d25_12 : decode jdk_52_method_3_code 12 = .ok (.iload_n 0, 1) := by decide +kernel
theorem d25_13 : decode jdk_52_method_3_code 13 = .ok (.ldc 20, 2) := by decide +kernel
theorem d25_15 : decode jdk_52_method_3_code 15 = .ok (.if_icmp .lt 40, 3) := by decide +kernel
theorem d25_55 : decode jdk_52_method_3_code 55 = .ok (.iload_n 0, 1) := by decide +kernel
theorem d25_56 : decode jdk_52_method_3_code 56 = .ok (.iconst 1, 1) := by decide +kernel
theorem d25_57 : decode jdk_52_method_3_code 57 = .ok (.ishl, 1) := by decide +kernel
theorem d25_58 : decode jdk_52_method_3_code 58 = .ok (.ireturn, 1) := by decide +kernel
theorem d24_0 : decode jdk_52_method_2_code 0 = .ok (.iload_n 0, 1) := by decide +kernel
theorem d24_1 : decode jdk_52_method_2_code 1 = .ok (.invokestatic 11, 3) := by decide +kernel
theorem d24_4 : decode jdk_52_method_2_code 4 = .ok (.newarray .byte, 2) := by decide +kernel
theorem d24_6 : decode jdk_52_method_2_code 6 = .ok (.areturn, 1) := by decide +kernel
theorem d26_0 : decode jdk_52_method_4_code 0 = .ok (.getstatic 44, 3) := by decide +kernel
theorem d26_3 : decode jdk_52_method_4_code 3 = .ok (.ifCond .ne 25, 3) := by decide +kernel
theorem d26_28 : decode jdk_52_method_4_code 28 = .ok (.iload_n 1, 1) := by decide +kernel
theorem d26_29 : decode jdk_52_method_4_code 29 = .ok (.iconst 1, 1) := by decide +kernel
theorem d26_30 : decode jdk_52_method_4_code 30 = .ok (.ishl, 1) := by decide +kernel
theorem d26_31 : decode jdk_52_method_4_code 31 = .ok (.istore_n 1, 1) := by decide +kernel
theorem d26_32 : decode jdk_52_method_4_code 32 = .ok (.aload_n 0, 1) := by decide +kernel
theorem d26_33 : decode jdk_52_method_4_code 33 = .ok (.iload_n 1, 1) := by decide +kernel
theorem d26_34 : decode jdk_52_method_4_code 34 = .ok (.iinc 1 1, 3) := by decide +kernel
theorem d26_37 : decode jdk_52_method_4_code 37 = .ok (.iload_n 2, 1) := by decide +kernel
theorem d26_38 : decode jdk_52_method_4_code 38 = .ok (.getstatic 59, 3) := by decide +kernel
theorem d26_41 : decode jdk_52_method_4_code 41 = .ok (.ishr, 1) := by decide +kernel
theorem d26_42 : decode jdk_52_method_4_code 42 = .ok (.i2b, 1) := by decide +kernel
theorem d26_43 : decode jdk_52_method_4_code 43 = .ok (.bastore, 1) := by decide +kernel
theorem d26_44 : decode jdk_52_method_4_code 44 = .ok (.aload_n 0, 1) := by decide +kernel
theorem d26_45 : decode jdk_52_method_4_code 45 = .ok (.iload_n 1, 1) := by decide +kernel
theorem d26_46 : decode jdk_52_method_4_code 46 = .ok (.iload_n 2, 1) := by decide +kernel
theorem d26_47 : decode jdk_52_method_4_code 47 = .ok (.getstatic 63, 3) := by decide +kernel
theorem d26_50 : decode jdk_52_method_4_code 50 = .ok (.ishr, 1) := by decide +kernel
theorem d26_51 : decode jdk_52_method_4_code 51 = .ok (.i2b, 1) := by decide +kernel
theorem d26_52 : decode jdk_52_method_4_code 52 = .ok (.bastore, 1) := by decide +kernel
theorem d26_53 : decode jdk_52_method_4_code 53 = .ok (.return_, 1) := by decide +kernel
theorem d27_0 : decode jdk_52_method_5_code 0 = .ok (.getstatic 44, 3) := by decide +kernel
theorem d27_3 : decode jdk_52_method_5_code 3 = .ok (.ifCond .ne 25, 3) := by decide +kernel
theorem d27_28 : decode jdk_52_method_5_code 28 = .ok (.iload_n 1, 1) := by decide +kernel
theorem d27_29 : decode jdk_52_method_5_code 29 = .ok (.iconst 1, 1) := by decide +kernel
theorem d27_30 : decode jdk_52_method_5_code 30 = .ok (.ishl, 1) := by decide +kernel
theorem d27_31 : decode jdk_52_method_5_code 31 = .ok (.istore_n 1, 1) := by decide +kernel
theorem d27_32 : decode jdk_52_method_5_code 32 = .ok (.aload_n 0, 1) := by decide +kernel
theorem d27_33 : decode jdk_52_method_5_code 33 = .ok (.iload_n 1, 1) := by decide +kernel
theorem d27_34 : decode jdk_52_method_5_code 34 = .ok (.iinc 1 1, 3) := by decide +kernel
theorem d27_37 : decode jdk_52_method_5_code 37 = .ok (.baload, 1) := by decide +kernel
theorem d27_38 : decode jdk_52_method_5_code 38 = .ok (.sipush 255, 3) := by decide +kernel
theorem d27_41 : decode jdk_52_method_5_code 41 = .ok (.iand, 1) := by decide +kernel
theorem d27_42 : decode jdk_52_method_5_code 42 = .ok (.getstatic 59, 3) := by decide +kernel
theorem d27_45 : decode jdk_52_method_5_code 45 = .ok (.ishl, 1) := by decide +kernel
theorem d27_46 : decode jdk_52_method_5_code 46 = .ok (.aload_n 0, 1) := by decide +kernel
theorem d27_47 : decode jdk_52_method_5_code 47 = .ok (.iload_n 1, 1) := by decide +kernel
theorem d27_48 : decode jdk_52_method_5_code 48 = .ok (.baload, 1) := by decide +kernel
theorem d27_49 : decode jdk_52_method_5_code 49 = .ok (.sipush 255, 3) := by decide +kernel
theorem d27_52 : decode jdk_52_method_5_code 52 = .ok (.iand, 1) := by decide +kernel
theorem d27_53 : decode jdk_52_method_5_code 53 = .ok (.getstatic 63, 3) := by decide +kernel
theorem d27_56 : decode jdk_52_method_5_code 56 = .ok (.ishl, 1) := by decide +kernel
theorem d27_57 : decode jdk_52_method_5_code 57 = .ok (.ior, 1) := by decide +kernel
theorem d27_58 : decode jdk_52_method_5_code 58 = .ok (.i2c, 1) := by decide +kernel
theorem d27_59 : decode jdk_52_method_5_code 59 = .ok (.ireturn, 1) := by decide +kernel
theorem d23_0 : decode jdk_52_method_14_code 0 = .ok (.iload_n 2, 1) := by decide +kernel
theorem d23_1 : decode jdk_52_method_14_code 1 = .ok (.invokestatic 107, 3) := by decide +kernel
theorem d23_4 : decode jdk_52_method_14_code 4 = .ok (.astore_n 3, 1) := by decide +kernel
theorem d23_5 : decode jdk_52_method_14_code 5 = .ok (.iconst 0, 1) := by decide +kernel
theorem d23_6 : decode jdk_52_method_14_code 6 = .ok (.istore 4, 2) := by decide +kernel
theorem d23_8 : decode jdk_52_method_14_code 8 = .ok (.iload 4, 2) := by decide +kernel
theorem d23_10 : decode jdk_52_method_14_code 10 = .ok (.iload_n 2, 1) := by decide +kernel
theorem d23_11 : decode jdk_52_method_14_code 11 = .ok (.if_icmp .ge 21, 3) := by decide +kernel
theorem d23_14 : decode jdk_52_method_14_code 14 = .ok (.aload_n 3, 1) := by decide +kernel
theorem d23_15 : decode jdk_52_method_14_code 15 = .ok (.iload 4, 2) := by decide +kernel
theorem d23_17 : decode jdk_52_method_14_code 17 = .ok (.aload_n 0, 1) := by decide +kernel
theorem d23_18 : decode jdk_52_method_14_code 18 = .ok (.iload_n 1, 1) := by decide +kernel
theorem d23_19 : decode jdk_52_method_14_code 19 = .ok (.caload, 1) := by decide +kernel
theorem d23_20 : decode jdk_52_method_14_code 20 = .ok (.invokestatic 111, 3) := by decide +kernel
theorem d23_23 : decode jdk_52_method_14_code 23 = .ok (.iinc 1 1, 3) := by decide +kernel
theorem d23_26 : decode jdk_52_method_14_code 26 = .ok (.iinc 4 1, 3) := by decide +kernel
theorem d23_29 : decode jdk_52_method_14_code 29 = .ok (.goto (-21), 3) := by decide +kernel
theorem d23_32 : decode jdk_52_method_14_code 32 = .ok (.aload_n 3, 1) := by decide +kernel
theorem d23_33 : decode jdk_52_method_14_code 33 = .ok (.areturn, 1) := by decide +kernel
theorem d20_0 : decode jdk_52_method_16_code 0 = .ok (.iload_n 2, 1) := by decide +kernel
theorem d20_1 : decode jdk_52_method_16_code 1 = .ok (.newarray .byte, 2) := by decide +kernel
theorem d20_3 : decode jdk_52_method_16_code 3 = .ok (.astore_n 3, 1) := by decide +kernel
theorem d20_4 : decode jdk_52_method_16_code 4 = .ok (.aload_n 0, 1) := by decide +kernel
theorem d20_5 : decode jdk_52_method_16_code 5 = .ok (.iload_n 1, 1) := by decide +kernel
theorem d20_6 : decode jdk_52_method_16_code 6 = .ok (.aload_n 3, 1) := by decide +kernel
theorem d20_7 : decode jdk_52_method_16_code 7 = .ok (.iconst 0, 1) := by decide +kernel
theorem d20_8 : decode jdk_52_method_16_code 8 = .ok (.iload_n 2, 1) := by decide +kernel
theorem d20_9 : decode jdk_52_method_16_code 9 = .ok (.invokestatic 115, 3) := by decide +kernel
theorem d20_12 : decode jdk_52_method_16_code 12 = .ok (.istore 4, 2) := by decide +kernel
theorem d20_14 : decode jdk_52_method_16_code 14 = .ok (.iload 4, 2) := by decide +kernel
theorem d20_16 : decode jdk_52_method_16_code 16 = .ok (.iload_n 2, 1) := by decide +kernel
theorem d20_17 : decode jdk_52_method_16_code 17 = .ok (.if_icmp .eq 40, 3) := by decide +kernel
theorem d20_20 : decode jdk_52_method_16_code 20 = .ok (.aload_n 0, 1) := by decide +kernel
theorem d20_21 : decode jdk_52_method_16_code 21 = .ok (.iload_n 1, 1) := by decide +kernel
theorem d20_22 : decode jdk_52_method_16_code 22 = .ok (.iload_n 2, 1) := by decide +kernel
theorem d20_23 : decode jdk_52_method_16_code 23 = .ok (.invokestatic 119, 3) := by decide +kernel
theorem d20_26 : decode jdk_52_method_16_code 26 = .ok (.astore 5, 2) := by decide +kernel
theorem d20_28 : decode jdk_52_method_16_code 28 = .ok (.aload 5, 2) := by decide +kernel
theorem d20_30 : decode jdk_52_method_16_code 30 = .ok (.iload 4, 2) := by decide +kernel
theorem d20_32 : decode jdk_52_method_16_code 32 = .ok (.invokestatic 71, 3) := by decide +kernel
theorem d20_35 : decode jdk_52_method_16_code 35 = .ok (.sipush 255, 3) := by decide +kernel
theorem d20_38 : decode jdk_52_method_16_code 38 = .ok (.if_icmp .gt 16, 3) := by decide +kernel
theorem d20_54 : decode jdk_52_method_16_code 54 = .ok (.aload 5, 2) := by decide +kernel
theorem d20_56 : decode jdk_52_method_16_code 56 = .ok (.areturn, 1) := by decide +kernel
theorem d20_57 : decode jdk_52_method_16_code 57 = .ok (.aload_n 3, 1) := by decide +kernel
theorem d20_58 : decode jdk_52_method_16_code 58 = .ok (.areturn, 1) := by decide +kernel
theorem d22_0 : decode jdk_52_method_15_code 0 = .ok (.iload_n 1, 1) := by decide +kernel
theorem d22_1 : decode jdk_52_method_15_code 1 = .ok (.aload_n 0, 1) := by decide +kernel
theorem d22_2 : decode jdk_52_method_15_code 2 = .ok (.arraylength, 1) := by decide +kernel
theorem d22_3 : decode jdk_52_method_15_code 3 = .ok (.isub, 1) := by decide +kernel
theorem d22_4 : decode jdk_52_method_15_code 4 = .ok (.bipush 31, 2) := by decide +kernel
theorem d22_6 : decode jdk_52_method_15_code 6 = .ok (.iushr, 1) := by decide +kernel
theorem d22_7 : decode jdk_52_method_15_code 7 = .ok (.i2b, 1) := by decide +kernel
theorem d22_8 : decode jdk_52_method_15_code 8 = .ok (.ireturn, 1) := by decide +kernel
theorem d3_0 : decode jdk_42_method_149_code 0 = .ok (.aload_n 0, 1) := by decide +kernel
theorem d3_1 : decode jdk_42_method_149_code 1 = .ok (.invokespecial 1, 3) := by decide +kernel
theorem d3_4 : decode jdk_42_method_149_code 4 = .ok (.iload_n 3, 1) := by decide +kernel
theorem d3_5 : decode jdk_42_method_149_code 5 = .ok (.ifCond .ne 22, 3) := by decide +kernel
theorem d3_8 : decode jdk_42_method_149_code 8 = .ok (.aload_n 0, 1) := by decide +kernel
theorem d3_9 : decode jdk_42_method_149_code 9 = .ok (.ldc 7, 2) := by decide +kernel
theorem d3_11 : decode jdk_42_method_149_code 11 = .ok (.getfield 9, 3) := by decide +kernel
theorem d3_14 : decode jdk_42_method_149_code 14 = .ok (.putfield 9, 3) := by decide +kernel
theorem d3_17 : decode jdk_42_method_149_code 17 = .ok (.aload_n 0, 1) := by decide +kernel
theorem d3_18 : decode jdk_42_method_149_code 18 = .ok (.ldc 7, 2) := by decide +kernel
theorem d3_20 : decode jdk_42_method_149_code 20 = .ok (.getfield 15, 3) := by decide +kernel
theorem d3_23 : decode jdk_42_method_149_code 23 = .ok (.putfield 15, 3) := by decide +kernel
theorem d3_26 : decode jdk_42_method_149_code 26 = .ok (.return_, 1) := by decide +kernel
theorem d3_27 : decode jdk_42_method_149_code 27 = .ok (.getstatic 38, 3) := by decide +kernel
theorem d3_30 : decode jdk_42_method_149_code 30 = .ok (.ifCond .eq 28, 3) := by decide +kernel
theorem d3_33 : decode jdk_42_method_149_code 33 = .ok (.aload_n 1, 1) := by decide +kernel
theorem d3_34 : decode jdk_42_method_149_code 34 = .ok (.iload_n 2, 1) := by decide +kernel
theorem d3_35 : decode jdk_42_method_149_code 35 = .ok (.iload_n 3, 1) := by decide +kernel
theorem d3_36 : decode jdk_42_method_149_code 36 = .ok (.invokestatic 177, 3) := by decide +kernel
theorem d3_39 : decode jdk_42_method_149_code 39 = .ok (.astore 5, 2) := by decide +kernel
theorem d3_41 : decode jdk_42_method_149_code 41 = .ok (.aload_n 0, 1) := by decide +kernel
theorem d3_42 : decode jdk_42_method_149_code 42 = .ok (.aload 5, 2) := by decide +kernel
theorem d3_44 : decode jdk_42_method_149_code 44 = .ok (.iload_n 3, 1) := by decide +kernel
theorem d3_45 : decode jdk_42_method_149_code 45 = .ok (.invokestatic 47, 3) := by decide +kernel
theorem d3_48 : decode jdk_42_method_149_code 48 = .ok (.putfield 15, 3) := by decide +kernel
theorem d3_51 : decode jdk_42_method_149_code 51 = .ok (.aload_n 0, 1) := by decide +kernel
theorem d3_52 : decode jdk_42_method_149_code 52 = .ok (.aload 5, 2) := by decide +kernel
theorem d3_54 : decode jdk_42_method_149_code 54 = .ok (.putfield 9, 3) := by decide +kernel
theorem d3_57 : decode jdk_42_method_149_code 57 = .ok (.return_, 1) := by decide +kernel
theorem d2_0 : decode jdk_42_method_3_code 0 = .ok (.aload_n 0, 1) := by decide +kernel
theorem d2_1 : decode jdk_42_method_3_code 1 = .ok (.aload_n 1, 1) := by decide +kernel
theorem d2_2 : decode jdk_42_method_3_code 2 = .ok (.iconst 0, 1) := by decide +kernel
theorem d2_3 : decode jdk_42_method_3_code 3 = .ok (.aload_n 1, 1) := by decide +kernel
theorem d2_4 : decode jdk_42_method_3_code 4 = .ok (.arraylength, 1) := by decide +kernel
theorem d2_5 : decode jdk_42_method_3_code 5 = .ok (.aconst_null, 1) := by decide +kernel
theorem d2_6 : decode jdk_42_method_3_code 6 = .ok (.invokespecial 27, 3) := by decide +kernel
theorem d2_9 : decode jdk_42_method_3_code 9 = .ok (.return_, 1) := by decide +kernel
theorem d6_0 : decode jdk_31_method_11_code 0 = .ok (.aload_n 0, 1) := by decide +kernel
theorem d6_1 : decode jdk_31_method_11_code 1 = .ok (.ifnonnull 12, 3) := by decide +kernel
theorem d6_13 : decode jdk_31_method_11_code 13 = .ok (.aload_n 0, 1) := by decide +kernel
theorem d6_14 : decode jdk_31_method_11_code 14 = .ok (.areturn, 1) := by decide +kernel
theorem d7_0 : decode prog_21_method_1_code 0 = .ok (.aload_n 0, 1) := by decide +kernel
theorem d7_1 : decode prog_21_method_1_code 1 = .ok (.invokespecial 1, 3) := by decide +kernel
theorem d7_4 : decode prog_21_method_1_code 4 = .ok (.aload_n 0, 1) := by decide +kernel
theorem d7_5 : decode prog_21_method_1_code 5 = .ok (.aload_n 1, 1) := by decide +kernel
theorem d7_6 : decode prog_21_method_1_code 6 = .ok (.putfield 7, 3) := by decide +kernel
theorem d7_9 : decode prog_21_method_1_code 9 = .ok (.aload_n 0, 1) := by decide +kernel
theorem d7_10 : decode prog_21_method_1_code 10 = .ok (.aload_n 2, 1) := by decide +kernel
theorem d7_11 : decode prog_21_method_1_code 11 = .ok (.putfield 13, 3) := by decide +kernel
theorem d7_14 : decode prog_21_method_1_code 14 = .ok (.aload_n 0, 1) := by decide +kernel
theorem d7_15 : decode prog_21_method_1_code 15 = .ok (.aload_n 3, 1) := by decide +kernel
theorem d7_16 : decode prog_21_method_1_code 16 = .ok (.putfield 17, 3) := by decide +kernel
theorem d7_19 : decode prog_21_method_1_code 19 = .ok (.aload_n 0, 1) := by decide +kernel
theorem d7_20 : decode prog_21_method_1_code 20 = .ok (.aload 4, 2) := by decide +kernel
theorem d7_22 : decode prog_21_method_1_code 22 = .ok (.putfield 21, 3) := by decide +kernel
theorem d7_25 : decode prog_21_method_1_code 25 = .ok (.aload_n 0, 1) := by decide +kernel
theorem d7_26 : decode prog_21_method_1_code 26 = .ok (.aload 5, 2) := by decide +kernel
theorem d7_28 : decode prog_21_method_1_code 28 = .ok (.putfield 25, 3) := by decide +kernel
theorem d7_31 : decode prog_21_method_1_code 31 = .ok (.aload_n 0, 1) := by decide +kernel
theorem d7_32 : decode prog_21_method_1_code 32 = .ok (.iload 6, 2) := by decide +kernel
theorem d7_34 : decode prog_21_method_1_code 34 = .ok (.putfield 29, 3) := by decide +kernel
theorem d7_37 : decode prog_21_method_1_code 37 = .ok (.return_, 1) := by decide +kernel
theorem d5_0 : decode prog_21_method_4_code 0 = .ok (.new 8, 3) := by decide +kernel
theorem d5_3 : decode prog_21_method_4_code 3 = .ok (.dup, 1) := by decide +kernel
theorem d5_4 : decode prog_21_method_4_code 4 = .ok (.getstatic 50, 3) := by decide +kernel
theorem d5_7 : decode prog_21_method_4_code 7 = .ok (.aconst_null, 1) := by decide +kernel
theorem d5_8 : decode prog_21_method_4_code 8 = .ok (.aconst_null, 1) := by decide +kernel
theorem d5_9 : decode prog_21_method_4_code 9 = .ok (.aload_n 0, 1) := by decide +kernel
theorem d5_10 : decode prog_21_method_4_code 10 = .ok (.ldc 53, 2) := by decide +kernel
theorem d5_12 : decode prog_21_method_4_code 12 = .ok (.invokestatic 55, 3) := by decide +kernel
theorem d5_15 : decode prog_21_method_4_code 15 = .ok (.checkcast 61, 3) := by decide +kernel
theorem d5_18 : decode prog_21_method_4_code 18 = .ok (.aconst_null, 1) := by decide +kernel
theorem d5_19 : decode prog_21_method_4_code 19 = .ok (.iconst 0, 1) := by decide +kernel
theorem d5_20 : decode prog_21_method_4_code 20 = .ok (.invokespecial 41, 3) := by decide +kernel
theorem d5_23 : decode prog_21_method_4_code 23 = .ok (.areturn, 1) := by decide +kernel
theorem d9_0 : decode prog_21_method_31_code 0 = .ok (.aload_n 0, 1) := by decide +kernel
theorem d9_1 : decode prog_21_method_31_code 1 = .ok (.getfield 7, 3) := by decide +kernel
theorem d9_4 : decode prog_21_method_31_code 4 = .ok (.aload_n 1, 1) := by decide +kernel
theorem d9_5 : decode prog_21_method_31_code 5 = .ok (.if_acmp .eq 27, 3) := by decide +kernel
theorem d9_32 : decode prog_21_method_31_code 32 = .ok (.return_, 1) := by decide +kernel
theorem d8_0 : decode prog_21_method_20_code 0 = .ok (.aload_n 0, 1) := by decide +kernel
theorem d8_1 : decode prog_21_method_20_code 1 = .ok (.getstatic 50, 3) := by decide +kernel
theorem d8_4 : decode prog_21_method_20_code 4 = .ok (.invokevirtual 83, 3) := by decide +kernel
theorem d8_7 : decode prog_21_method_20_code 7 = .ok (.aload_n 0, 1) := by decide +kernel
theorem d8_8 : decode prog_21_method_20_code 8 = .ok (.getfield 21, 3) := by decide +kernel
theorem d8_11 : decode prog_21_method_20_code 11 = .ok (.areturn, 1) := by decide +kernel
theorem d10_0 : decode prog_21_method_11_code 0 = .ok (.aload_n 0, 1) := by decide +kernel
theorem d10_1 : decode prog_21_method_11_code 1 = .ok (.getfield 7, 3) := by decide +kernel
theorem d10_4 : decode prog_21_method_11_code 4 = .ok (.getstatic 50, 3) := by decide +kernel
theorem d10_7 : decode prog_21_method_11_code 7 = .ok (.if_acmp .ne 7, 3) := by decide +kernel
theorem d10_10 : decode prog_21_method_11_code 10 = .ok (.iconst 1, 1) := by decide +kernel
theorem d10_11 : decode prog_21_method_11_code 11 = .ok (.goto 4, 3) := by decide +kernel
theorem d10_15 : decode prog_21_method_11_code 15 = .ok (.ireturn, 1) := by decide +kernel
theorem d15_0 : decode prog_21_method_9_code 0 = .ok (.aload_n 0, 1) := by decide +kernel
theorem d15_1 : decode prog_21_method_9_code 1 = .ok (.getfield 7, 3) := by decide +kernel
theorem d15_4 : decode prog_21_method_9_code 4 = .ok (.getstatic 33, 3) := by decide +kernel
theorem d15_7 : decode prog_21_method_9_code 7 = .ok (.if_acmp .ne 7, 3) := by decide +kernel
theorem d15_14 : decode prog_21_method_9_code 14 = .ok (.iconst 0, 1) := by decide +kernel
theorem d15_15 : decode prog_21_method_9_code 15 = .ok (.ireturn, 1) := by decide +kernel
theorem d16_0 : decode prog_21_method_10_code 0 = .ok (.aload_n 0, 1) := by decide +kernel
theorem d16_1 : decode prog_21_method_10_code 1 = .ok (.getfield 7, 3) := by decide +kernel
theorem d16_4 : decode prog_21_method_10_code 4 = .ok (.getstatic 44, 3) := by decide +kernel
theorem d16_7 : decode prog_21_method_10_code 7 = .ok (.if_acmp .ne 7, 3) := by decide +kernel
theorem d16_14 : decode prog_21_method_10_code 14 = .ok (.iconst 0, 1) := by decide +kernel
theorem d16_15 : decode prog_21_method_10_code 15 = .ok (.ireturn, 1) := by decide +kernel
theorem d17_0 : decode prog_21_method_12_code 0 = .ok (.aload_n 0, 1) := by decide +kernel
theorem d17_1 : decode prog_21_method_12_code 1 = .ok (.getfield 7, 3) := by decide +kernel
theorem d17_4 : decode prog_21_method_12_code 4 = .ok (.getstatic 80, 3) := by decide +kernel
theorem d17_7 : decode prog_21_method_12_code 7 = .ok (.if_acmp .ne 7, 3) := by decide +kernel
theorem d17_14 : decode prog_21_method_12_code 14 = .ok (.iconst 0, 1) := by decide +kernel
theorem d17_15 : decode prog_21_method_12_code 15 = .ok (.ireturn, 1) := by decide +kernel
theorem d18_0 : decode prog_21_method_13_code 0 = .ok (.aload_n 0, 1) := by decide +kernel
theorem d18_1 : decode prog_21_method_13_code 1 = .ok (.getfield 7, 3) := by decide +kernel
theorem d18_4 : decode prog_21_method_13_code 4 = .ok (.getstatic 80, 3) := by decide +kernel
theorem d18_7 : decode prog_21_method_13_code 7 = .ok (.if_acmp .ne 14, 3) := by decide +kernel
theorem d18_21 : decode prog_21_method_13_code 21 = .ok (.iconst 0, 1) := by decide +kernel
theorem d18_22 : decode prog_21_method_13_code 22 = .ok (.ireturn, 1) := by decide +kernel
theorem d19_0 : decode prog_21_method_14_code 0 = .ok (.aload_n 0, 1) := by decide +kernel
theorem d19_1 : decode prog_21_method_14_code 1 = .ok (.getfield 7, 3) := by decide +kernel
theorem d19_4 : decode prog_21_method_14_code 4 = .ok (.getstatic 111, 3) := by decide +kernel
theorem d19_7 : decode prog_21_method_14_code 7 = .ok (.if_acmp .eq 13, 3) := by decide +kernel
theorem d19_10 : decode prog_21_method_14_code 10 = .ok (.aload_n 0, 1) := by decide +kernel
theorem d19_11 : decode prog_21_method_14_code 11 = .ok (.getfield 7, 3) := by decide +kernel
theorem d19_14 : decode prog_21_method_14_code 14 = .ok (.getstatic 114, 3) := by decide +kernel
theorem d19_17 : decode prog_21_method_14_code 17 = .ok (.if_acmp .ne 7, 3) := by decide +kernel
theorem d19_24 : decode prog_21_method_14_code 24 = .ok (.iconst 0, 1) := by decide +kernel
theorem d19_25 : decode prog_21_method_14_code 25 = .ok (.ireturn, 1) := by decide +kernel
theorem d12_0 : decode jdk_43_method_13_code 0 = .ok (.aload_n 0, 1) := by decide +kernel
theorem d12_1 : decode jdk_43_method_13_code 1 = .ok (.arraylength, 1) := by decide +kernel
theorem d12_2 : decode jdk_43_method_13_code 2 = .ok (.aload_n 1, 1) := by decide +kernel
theorem d12_3 : decode jdk_43_method_13_code 3 = .ok (.arraylength, 1) := by decide +kernel
theorem d12_4 : decode jdk_43_method_13_code 4 = .ok (.if_icmp .ne 30, 3) := by decide +kernel
theorem d12_7 : decode jdk_43_method_13_code 7 = .ok (.iconst 0, 1) := by decide +kernel
theorem d12_8 : decode jdk_43_method_13_code 8 = .ok (.istore_n 2, 1) := by decide +kernel
theorem d12_9 : decode jdk_43_method_13_code 9 = .ok (.iload_n 2, 1) := by decide +kernel
theorem d12_10 : decode jdk_43_method_13_code 10 = .ok (.aload_n 0, 1) := by decide +kernel
theorem d12_11 : decode jdk_43_method_13_code 11 = .ok (.arraylength, 1) := by decide +kernel
theorem d12_12 : decode jdk_43_method_13_code 12 = .ok (.if_icmp .ge 20, 3) := by decide +kernel
theorem d12_15 : decode jdk_43_method_13_code 15 = .ok (.aload_n 0, 1) := by decide +kernel
theorem d12_16 : decode jdk_43_method_13_code 16 = .ok (.iload_n 2, 1) := by decide +kernel
theorem d12_17 : decode jdk_43_method_13_code 17 = .ok (.baload, 1) := by decide +kernel
theorem d12_18 : decode jdk_43_method_13_code 18 = .ok (.aload_n 1, 1) := by decide +kernel
theorem d12_19 : decode jdk_43_method_13_code 19 = .ok (.iload_n 2, 1) := by decide +kernel
theorem d12_20 : decode jdk_43_method_13_code 20 = .ok (.baload, 1) := by decide +kernel
theorem d12_21 : decode jdk_43_method_13_code 21 = .ok (.if_icmp .eq 5, 3) := by decide +kernel
theorem d12_26 : decode jdk_43_method_13_code 26 = .ok (.iinc 2 1, 3) := by decide +kernel
theorem d12_29 : decode jdk_43_method_13_code 29 = .ok (.goto (-20), 3) := by decide +kernel
theorem d12_32 : decode jdk_43_method_13_code 32 = .ok (.iconst 1, 1) := by decide +kernel
theorem d12_33 : decode jdk_43_method_13_code 33 = .ok (.ireturn, 1) := by decide +kernel
theorem d11_0 : decode jdk_42_method_66_code 0 = .ok (.aload_n 0, 1) := by decide +kernel
theorem d11_1 : decode jdk_42_method_66_code 1 = .ok (.aload_n 1, 1) := by decide +kernel
theorem d11_2 : decode jdk_42_method_66_code 2 = .ok (.if_acmp .ne 5, 3) := by decide +kernel
theorem d11_7 : decode jdk_42_method_66_code 7 = .ok (.aload_n 1, 1) := by decide +kernel
theorem d11_8 : decode jdk_42_method_66_code 8 = .ok (.instanceof 10, 3) := by decide +kernel
theorem d11_11 : decode jdk_42_method_66_code 11 = .ok (.ifCond .eq 43, 3) := by decide +kernel
theorem d11_14 : decode jdk_42_method_66_code 14 = .ok (.aload_n 1, 1) := by decide +kernel
theorem d11_15 : decode jdk_42_method_66_code 15 = .ok (.checkcast 10, 3) := by decide +kernel
theorem d11_18 : decode jdk_42_method_66_code 18 = .ok (.astore_n 2, 1) := by decide +kernel
theorem d11_19 : decode jdk_42_method_66_code 19 = .ok (.getstatic 38, 3) := by decide +kernel
theorem d11_22 : decode jdk_42_method_66_code 22 = .ok (.ifCond .eq 14, 3) := by decide +kernel
theorem d11_25 : decode jdk_42_method_66_code 25 = .ok (.aload_n 0, 1) := by decide +kernel
theorem d11_26 : decode jdk_42_method_66_code 26 = .ok (.getfield 15, 3) := by decide +kernel
theorem d11_29 : decode jdk_42_method_66_code 29 = .ok (.aload_n 2, 1) := by decide +kernel
theorem d11_30 : decode jdk_42_method_66_code 30 = .ok (.getfield 15, 3) := by decide +kernel
theorem d11_33 : decode jdk_42_method_66_code 33 = .ok (.if_icmp .ne 21, 3) := by decide +kernel
theorem d11_36 : decode jdk_42_method_66_code 36 = .ok (.aload_n 0, 1) := by decide +kernel
theorem d11_37 : decode jdk_42_method_66_code 37 = .ok (.getfield 9, 3) := by decide +kernel
theorem d11_40 : decode jdk_42_method_66_code 40 = .ok (.aload_n 2, 1) := by decide +kernel
theorem d11_41 : decode jdk_42_method_66_code 41 = .ok (.getfield 9, 3) := by decide +kernel
theorem d11_44 : decode jdk_42_method_66_code 44 = .ok (.invokestatic 541, 3) := by decide +kernel
theorem d11_47 : decode jdk_42_method_66_code 47 = .ok (.ifCond .eq 7, 3) := by decide +kernel
theorem d11_50 : decode jdk_42_method_66_code 50 = .ok (.iconst 1, 1) := by decide +kernel
theorem d11_51 : decode jdk_42_method_66_code 51 = .ok (.goto 4, 3) := by decide +kernel
theorem d11_55 : decode jdk_42_method_66_code 55 = .ok (.ireturn, 1) := by decide +kernel
theorem d14_0 : decode jdk_42_method_152_code 0 = .ok (.getstatic 38, 3) := by decide +kernel
theorem d14_3 : decode jdk_42_method_152_code 3 = .ok (.ifCond .eq 10, 3) := by decide +kernel
theorem d14_6 : decode jdk_42_method_152_code 6 = .ok (.aload_n 0, 1) := by decide +kernel
theorem d14_7 : decode jdk_42_method_152_code 7 = .ok (.getfield 15, 3) := by decide +kernel
theorem d14_10 : decode jdk_42_method_152_code 10 = .ok (.goto 4, 3) := by decide +kernel
theorem d14_14 : decode jdk_42_method_152_code 14 = .ok (.ireturn, 1) := by decide +kernel
theorem d13_0 : decode jdk_42_method_54_code 0 = .ok (.aload_n 0, 1) := by decide +kernel
theorem d13_1 : decode jdk_42_method_54_code 1 = .ok (.getfield 9, 3) := by decide +kernel
theorem d13_4 : decode jdk_42_method_54_code 4 = .ok (.arraylength, 1) := by decide +kernel
theorem d13_5 : decode jdk_42_method_54_code 5 = .ok (.aload_n 0, 1) := by decide +kernel
theorem d13_6 : decode jdk_42_method_54_code 6 = .ok (.invokevirtual 335, 3) := by decide +kernel
theorem d13_9 : decode jdk_42_method_54_code 9 = .ok (.ishr, 1) := by decide +kernel
theorem d13_10 : decode jdk_42_method_54_code 10 = .ok (.ireturn, 1) := by decide +kernel
theorem ef1 (m : MethodId) (x0 : Int32) (x1 : Int32) (x2 : Int32) (x3 : Int32) : entryFrame m #[(.int x0), (.int x1), (.int x2), (.int x3)] 4 = mkF m 0 #[.val (.int x0), .val (.int x1), .val (.int x2), .val (.int x3)] [] := by first | (simp [entryFrame, mkF, argsToLocals, Value.category]; done) | rfl
theorem ef21 (m : MethodId) (x0 : Addr) (x1 : Int32) (x2 : Addr) (x3 : Int32) (x4 : Int32) : entryFrame m #[(.ref x0), (.int x1), (.ref x2), (.int x3), (.int x4)] 7 = mkF m 0 #[.val (.ref x0), .val (.int x1), .val (.ref x2), .val (.int x3), .val (.int x4), .unset, .unset] [] := by first | (simp [entryFrame, mkF, argsToLocals, Value.category]; done) | rfl
theorem ef25 (m : MethodId) (x0 : Int32) : entryFrame m #[(.int x0)] 1 = mkF m 0 #[.val (.int x0)] [] := by first | (simp [entryFrame, mkF, argsToLocals, Value.category]; done) | rfl
theorem ef24 (m : MethodId) (x0 : Int32) : entryFrame m #[(.int x0)] 1 = mkF m 0 #[.val (.int x0)] [] := by first | (simp [entryFrame, mkF, argsToLocals, Value.category]; done) | rfl
theorem ef26 (m : MethodId) (x0 : Addr) (x1 : Int32) (x2 : Int32) : entryFrame m #[(.ref x0), (.int x1), (.int x2)] 3 = mkF m 0 #[.val (.ref x0), .val (.int x1), .val (.int x2)] [] := by first | (simp [entryFrame, mkF, argsToLocals, Value.category]; done) | rfl
theorem ef27 (m : MethodId) (x0 : Addr) (x1 : Int32) : entryFrame m #[(.ref x0), (.int x1)] 2 = mkF m 0 #[.val (.ref x0), .val (.int x1)] [] := by first | (simp [entryFrame, mkF, argsToLocals, Value.category]; done) | rfl
theorem ef23 (m : MethodId) (x0 : Addr) (x1 : Int32) (x2 : Int32) : entryFrame m #[(.ref x0), (.int x1), (.int x2)] 5 = mkF m 0 #[.val (.ref x0), .val (.int x1), .val (.int x2), .unset, .unset] [] := by first | (simp [entryFrame, mkF, argsToLocals, Value.category]; done) | rfl
theorem ef20 (m : MethodId) (x0 : Addr) (x1 : Int32) (x2 : Int32) : entryFrame m #[(.ref x0), (.int x1), (.int x2)] 6 = mkF m 0 #[.val (.ref x0), .val (.int x1), .val (.int x2), .unset, .unset, .unset] [] := by first | (simp [entryFrame, mkF, argsToLocals, Value.category]; done) | rfl
theorem ef22 (m : MethodId) (x0 : Addr) (x1 : Int32) : entryFrame m #[(.ref x0), (.int x1)] 2 = mkF m 0 #[.val (.ref x0), .val (.int x1)] [] := by first | (simp [entryFrame, mkF, argsToLocals, Value.category]; done) | rfl
theorem ef3 (m : MethodId) (x0 : Addr) (x1 : Addr) (x2 : Int32) (x3 : Int32) : entryFrame m #[(.ref x0), (.ref x1), (.int x2), (.int x3), .null] 6 = mkF m 0 #[.val (.ref x0), .val (.ref x1), .val (.int x2), .val (.int x3), .val .null, .unset] [] := by first | (simp [entryFrame, mkF, argsToLocals, Value.category]; done) | rfl
theorem ef2 (m : MethodId) (x0 : Addr) (x1 : Addr) : entryFrame m #[(.ref x0), (.ref x1)] 2 = mkF m 0 #[.val (.ref x0), .val (.ref x1)] [] := by first | (simp [entryFrame, mkF, argsToLocals, Value.category]; done) | rfl
theorem ef6 (m : MethodId) (x0 : Addr) (x1 : Addr) : entryFrame m #[(.ref x0), (.ref x1)] 2 = mkF m 0 #[.val (.ref x0), .val (.ref x1)] [] := by first | (simp [entryFrame, mkF, argsToLocals, Value.category]; done) | rfl
theorem ef7 (m : MethodId) (x0 : Addr) (x1 : Addr) (x4 : Addr) (x6 : Int32) : entryFrame m #[(.ref x0), (.ref x1), .null, .null, (.ref x4), .null, (.int x6)] 7 = mkF m 0 #[.val (.ref x0), .val (.ref x1), .val .null, .val .null, .val (.ref x4), .val .null, .val (.int x6)] [] := by first | (simp [entryFrame, mkF, argsToLocals, Value.category]; done) | rfl
theorem ef5 (m : MethodId) (x0 : Addr) : entryFrame m #[(.ref x0)] 1 = mkF m 0 #[.val (.ref x0)] [] := by first | (simp [entryFrame, mkF, argsToLocals, Value.category]; done) | rfl
theorem ef9 (m : MethodId) (x0 : Addr) (x1 : Addr) : entryFrame m #[(.ref x0), (.ref x1)] 2 = mkF m 0 #[.val (.ref x0), .val (.ref x1)] [] := by first | (simp [entryFrame, mkF, argsToLocals, Value.category]; done) | rfl
theorem ef8 (m : MethodId) (x0 : Addr) : entryFrame m #[(.ref x0)] 1 = mkF m 0 #[.val (.ref x0)] [] := by first | (simp [entryFrame, mkF, argsToLocals, Value.category]; done) | rfl
theorem ef10 (m : MethodId) (x0 : Addr) : entryFrame m #[(.ref x0)] 1 = mkF m 0 #[.val (.ref x0)] [] := by first | (simp [entryFrame, mkF, argsToLocals, Value.category]; done) | rfl
theorem ef15 (m : MethodId) (x0 : Addr) : entryFrame m #[(.ref x0)] 1 = mkF m 0 #[.val (.ref x0)] [] := by first | (simp [entryFrame, mkF, argsToLocals, Value.category]; done) | rfl
theorem ef16 (m : MethodId) (x0 : Addr) : entryFrame m #[(.ref x0)] 1 = mkF m 0 #[.val (.ref x0)] [] := by first | (simp [entryFrame, mkF, argsToLocals, Value.category]; done) | rfl
theorem ef17 (m : MethodId) (x0 : Addr) : entryFrame m #[(.ref x0)] 1 = mkF m 0 #[.val (.ref x0)] [] := by first | (simp [entryFrame, mkF, argsToLocals, Value.category]; done) | rfl
theorem ef18 (m : MethodId) (x0 : Addr) : entryFrame m #[(.ref x0)] 1 = mkF m 0 #[.val (.ref x0)] [] := by first | (simp [entryFrame, mkF, argsToLocals, Value.category]; done) | rfl
theorem ef19 (m : MethodId) (x0 : Addr) : entryFrame m #[(.ref x0)] 1 = mkF m 0 #[.val (.ref x0)] [] := by first | (simp [entryFrame, mkF, argsToLocals, Value.category]; done) | rfl
theorem ef12 (m : MethodId) (x0 : Addr) (x1 : Addr) : entryFrame m #[(.ref x0), (.ref x1)] 3 = mkF m 0 #[.val (.ref x0), .val (.ref x1), .unset] [] := by first | (simp [entryFrame, mkF, argsToLocals, Value.category]; done) | rfl
theorem ef11 (m : MethodId) (x0 : Addr) (x1 : Addr) : entryFrame m #[(.ref x0), (.ref x1)] 3 = mkF m 0 #[.val (.ref x0), .val (.ref x1), .unset] [] := by first | (simp [entryFrame, mkF, argsToLocals, Value.category]; done) | rfl
theorem ef14 (m : MethodId) (x0 : Addr) : entryFrame m #[(.ref x0)] 1 = mkF m 0 #[.val (.ref x0)] [] := by first | (simp [entryFrame, mkF, argsToLocals, Value.category]; done) | rfl
theorem ef13 (m : MethodId) (x0 : Addr) : entryFrame m #[(.ref x0)] 1 = mkF m 0 #[.val (.ref x0)] [] := by first | (simp [entryFrame, mkF, argsToLocals, Value.category]; done) | rfl
theorem ef0 (m : MethodId) (x0 : Int32) (x1 : Int32) (x2 : Int32) (x3 : Int32) : entryFrame m #[(.int x0), (.int x1), (.int x2), (.int x3)] maxLocals = mkF m 0 #[.val (.int x0), .val (.int x1), .val (.int x2), .val (.int x3), .unset, .unset, .unset, .unset, .unset, .unset, .unset, .unset] [] := by first | (simp [entryFrame, mkF, argsToLocals, Value.category, maxLocals]; done) | rfl
def rm1 : Room := { frames := 0, cells := 1, slots := 3, locals := 0 }
def rm21 : Room := { frames := 0, cells := 0, slots := 0, locals := 0 }
def rm25 : Room := { frames := 0, cells := 0, slots := 0, locals := 0 }
def rm24 : Room := { frames := 1, cells := 1, slots := 6, locals := 13 }
def rm26 : Room := { frames := 0, cells := 0, slots := 0, locals := 0 }
def rm27 : Room := { frames := 0, cells := 0, slots := 0, locals := 0 }
def rm23 : Room := { frames := 2, cells := 1, slots := 6, locals := 30 }
def rm20 : Room := { frames := 3, cells := 2, slots := 9, locals := 60 }
def rm22 : Room := { frames := 0, cells := 0, slots := 0, locals := 0 }
def rm3 : Room := { frames := 4, cells := 4, slots := 12, locals := 90 }
def rm2 : Room := { frames := 5, cells := 4, slots := 12, locals := 110 }
def rm6 : Room := { frames := 0, cells := 0, slots := 0, locals := 0 }
def rm7 : Room := { frames := 1, cells := 0, slots := 0, locals := 13 }
def rm5 : Room := { frames := 2, cells := 3, slots := 86, locals := 60 }
def rm9 : Room := { frames := 0, cells := 0, slots := 0, locals := 0 }
def rm8 : Room := { frames := 1, cells := 0, slots := 0, locals := 14 }
def rm12 : Room := { frames := 0, cells := 0, slots := 0, locals := 0 }
def rm11 : Room := { frames := 1, cells := 0, slots := 0, locals := 16 }
def rm14 : Room := { frames := 0, cells := 0, slots := 0, locals := 0 }
def rm13 : Room := { frames := 1, cells := 0, slots := 0, locals := 14 }
def rm10 : Room := { frames := 0, cells := 0, slots := 0, locals := 0 }
def rm15 : Room := { frames := 0, cells := 0, slots := 0, locals := 0 }
def rm16 : Room := { frames := 0, cells := 0, slots := 0, locals := 0 }
def rm17 : Room := { frames := 0, cells := 0, slots := 0, locals := 0 }
def rm18 : Room := { frames := 0, cells := 0, slots := 0, locals := 0 }
def rm19 : Room := { frames := 0, cells := 0, slots := 0, locals := 0 }
set_option maxRecDepth 65536 in
set_option maxHeartbeats 40000000 in
theorem con1 (G : Gx) (hw : ∀ d ∈ tables_1, d.before G.a0 G.Z = true) (n c1 c2 c3 : Int32) (h : Heap) (Z0 : G.n0 ≤ h.size) :
    Con G (⟨"com/example/charterbook/charterbook/book/JsonValueTextPinLaw", "make", "(ICCC)[C"⟩ : MethodName) method_3_code 4 (some (.array .char)) rm1 #[(.int n), (.int c1), (.int c2), (.int c3)] h (fun v h' => ∃ t : Addr, v = some (.ref t) ∧ h.size ≤ t ∧ Keep h h' [] ∧ Av G.Z h' t .char ((own_mk n c1 c2 c3).map .int)) := by
  refine Con.of (W := tables_1) (plainFor_of_name pn1) hw (fun mm => ef1 mm n c1 c2 c3) (fun K C => ?_)
  have C : Cx G K "com/example/charterbook/charterbook/book/JsonValueTextPinLaw" "make" method_3_code 4 (some (.array .char)) tables_1 := C
  generalize hQ : (fun v h' => ∃ t : Addr, v = some (.ref t) ∧ h.size ≤ t ∧ Keep h h' [] ∧ Av G.Z h' t .char ((own_mk n c1 c2 c3).map .int) : Option Value → Heap → Prop) = Q
  have K0 : Keep h h [] := Keep.refl _ _
  refine N.iloadN C (pc' := 1) d1_0 rfl rfl ?_
  refine N.ifc C (pt := 8) (pf := 4) d1_1 rfl rfl (fun (hc1 : ¬ n = (0 : Int32)) => ?_) (fun (hc1 : n = (0 : Int32)) => ?_)
  · have hi1 : ¬ n.toInt = 0 := neI hc1
    refine N.iloadN C (pc' := 9) d1_8 rfl rfl ?_
    refine N.iconst C (pc' := 10) (z := 1) d1_9 rfl rfl ?_
    refine N.icmp C (pt := 21) (pf := 13) d1_10 rfl rfl (fun (hc10 : ¬ n = (1 : Int32)) => ?_) (fun (hc10 : n = (1 : Int32)) => ?_)
    · have hi10 : ¬ n.toInt = 1 := neI hc10
      refine N.iloadN C (pc' := 22) d1_21 rfl rfl ?_
      refine N.iconst C (pc' := 23) (z := 2) d1_22 rfl rfl ?_
      refine N.icmp C (pt := 38) (pf := 26) d1_23 rfl rfl (fun (hc23 : ¬ n = (2 : Int32)) => ?_) (fun (hc23 : n = (2 : Int32)) => ?_)
      · have hi23 : ¬ n.toInt = 2 := neI hc23
        refine N.iconst C (pc' := 39) (z := 3) d1_38 rfl rfl ?_
        refine N.newP C (pc' := 41) (n := (3 : Int32)) 3 d1_39 (C.w (i := 7) rfl) (by decide) (by decide) (by decide) (by decide) (by decide) rfl (fun h39_1 t hx_t Ex39 A'_t => ?_)
        have g_t : G.n0 ≤ t := by rw [hx_t]; exact Z0
        have sz_t : h.size ≤ t := by rw [hx_t]; exact K0.1
        have Z0 := Nat.le_trans Z0 Ex39.1
        have K0 := K0.ext Ex39
        have A_t : Av G.Z h39_1 t .char [(.int (0 : Int32)), (.int (0 : Int32)), (.int (0 : Int32))] := A'_t
        refine N.dup C (pc' := 42) d1_41 rfl rfl ?_
        refine N.iconst C (pc' := 43) (z := 0) d1_42 rfl rfl ?_
        refine N.iloadN C (pc' := 44) d1_43 rfl rfl ?_
        refine N.castore C (pc' := 45) (i := 0) d1_44 A_t rfl (show 0 < 3 from by decide) g_t rfl (fun h44_2 W44 A_t => ?_)
        have Z0 : G.n0 ≤ _ := (Wr.size W44).symm ▸ Z0
        have K0 := K0.wr W44 (Or.inr sz_t)
        have A_t : Av G.Z h44_2 t .char [(.int (nar .char c1)), (.int (0 : Int32)), (.int (0 : Int32))] := A_t
        refine N.dup C (pc' := 46) d1_45 rfl rfl ?_
        refine N.iconst C (pc' := 47) (z := 1) d1_46 rfl rfl ?_
        refine N.iloadN C (pc' := 48) d1_47 rfl rfl ?_
        refine N.castore C (pc' := 49) (i := 1) d1_48 A_t rfl (show 1 < 3 from by decide) g_t rfl (fun h48_3 W48 A_t => ?_)
        have Z0 : G.n0 ≤ _ := (Wr.size W48).symm ▸ Z0
        have K0 := K0.wr W48 (Or.inr sz_t)
        have A_t : Av G.Z h48_3 t .char [(.int (nar .char c1)), (.int (nar .char c2)), (.int (0 : Int32))] := A_t
        refine N.dup C (pc' := 50) d1_49 rfl rfl ?_
        refine N.iconst C (pc' := 51) (z := 2) d1_50 rfl rfl ?_
        refine N.iloadN C (pc' := 52) d1_51 rfl rfl ?_
        refine N.castore C (pc' := 53) (i := 2) d1_52 A_t rfl (show 2 < 3 from by decide) g_t rfl (fun h52_4 W52 A_t => ?_)
        have Z0 : G.n0 ≤ _ := (Wr.size W52).symm ▸ Z0
        have K0 := K0.wr W52 (Or.inr sz_t)
        have A_t : Av G.Z h52_4 t .char [(.int (nar .char c1)), (.int (nar .char c2)), (.int (nar .char c3))] := A_t
        exact N.retA C rfl rfl d1_53 (by decide) (by decide) (by subst hQ; exact ⟨t, rfl, sz_t, K0, by rw [own_mk, if_neg hc1, if_neg hc10, if_neg hc23]; exact A_t⟩)
      · have hi23 : n.toInt = 2 := eqI hc23
        refine N.iconst C (pc' := 27) (z := 2) d1_26 rfl rfl ?_
        refine N.newP C (pc' := 29) (n := (2 : Int32)) 2 d1_27 (C.w (i := 7) rfl) (by decide) (by decide) (by decide) (by decide) (by decide) rfl (fun h27_5 t hx_t Ex27 A'_t => ?_)
        have g_t : G.n0 ≤ t := by rw [hx_t]; exact Z0
        have sz_t : h.size ≤ t := by rw [hx_t]; exact K0.1
        have Z0 := Nat.le_trans Z0 Ex27.1
        have K0 := K0.ext Ex27
        have A_t : Av G.Z h27_5 t .char [(.int (0 : Int32)), (.int (0 : Int32))] := A'_t
        refine N.dup C (pc' := 30) d1_29 rfl rfl ?_
        refine N.iconst C (pc' := 31) (z := 0) d1_30 rfl rfl ?_
        refine N.iloadN C (pc' := 32) d1_31 rfl rfl ?_
        refine N.castore C (pc' := 33) (i := 0) d1_32 A_t rfl (show 0 < 2 from by decide) g_t rfl (fun h32_6 W32 A_t => ?_)
        have Z0 : G.n0 ≤ _ := (Wr.size W32).symm ▸ Z0
        have K0 := K0.wr W32 (Or.inr sz_t)
        have A_t : Av G.Z h32_6 t .char [(.int (nar .char c1)), (.int (0 : Int32))] := A_t
        refine N.dup C (pc' := 34) d1_33 rfl rfl ?_
        refine N.iconst C (pc' := 35) (z := 1) d1_34 rfl rfl ?_
        refine N.iloadN C (pc' := 36) d1_35 rfl rfl ?_
        refine N.castore C (pc' := 37) (i := 1) d1_36 A_t rfl (show 1 < 2 from by decide) g_t rfl (fun h36_7 W36 A_t => ?_)
        have Z0 : G.n0 ≤ _ := (Wr.size W36).symm ▸ Z0
        have K0 := K0.wr W36 (Or.inr sz_t)
        have A_t : Av G.Z h36_7 t .char [(.int (nar .char c1)), (.int (nar .char c2))] := A_t
        exact N.retA C rfl rfl d1_37 (by decide) (by decide) (by subst hQ; exact ⟨t, rfl, sz_t, K0, by rw [own_mk, if_neg hc1, if_neg hc10, if_pos hc23]; exact A_t⟩)
    · have hi10 : n.toInt = 1 := eqI hc10
      refine N.iconst C (pc' := 14) (z := 1) d1_13 rfl rfl ?_
      refine N.newP C (pc' := 16) (n := (1 : Int32)) 1 d1_14 (C.w (i := 7) rfl) (by decide) (by decide) (by decide) (by decide) (by decide) rfl (fun h14_8 t hx_t Ex14 A'_t => ?_)
      have g_t : G.n0 ≤ t := by rw [hx_t]; exact Z0
      have sz_t : h.size ≤ t := by rw [hx_t]; exact K0.1
      have Z0 := Nat.le_trans Z0 Ex14.1
      have K0 := K0.ext Ex14
      have A_t : Av G.Z h14_8 t .char [(.int (0 : Int32))] := A'_t
      refine N.dup C (pc' := 17) d1_16 rfl rfl ?_
      refine N.iconst C (pc' := 18) (z := 0) d1_17 rfl rfl ?_
      refine N.iloadN C (pc' := 19) d1_18 rfl rfl ?_
      refine N.castore C (pc' := 20) (i := 0) d1_19 A_t rfl (show 0 < 1 from by decide) g_t rfl (fun h19_9 W19 A_t => ?_)
      have Z0 : G.n0 ≤ _ := (Wr.size W19).symm ▸ Z0
      have K0 := K0.wr W19 (Or.inr sz_t)
      have A_t : Av G.Z h19_9 t .char [(.int (nar .char c1))] := A_t
      exact N.retA C rfl rfl d1_20 (by decide) (by decide) (by subst hQ; exact ⟨t, rfl, sz_t, K0, by rw [own_mk, if_neg hc1, if_pos hc10]; exact A_t⟩)
  · have hi1 : n.toInt = 0 := eqI hc1
    refine N.iconst C (pc' := 5) (z := 0) d1_4 rfl rfl ?_
    refine N.newP C (pc' := 7) (n := (0 : Int32)) 0 d1_5 (C.w (i := 7) rfl) (by decide) (by decide) (by decide) (by decide) (by decide) rfl (fun h5_10 t hx_t Ex5 A'_t => ?_)
    have g_t : G.n0 ≤ t := by rw [hx_t]; exact Z0
    have sz_t : h.size ≤ t := by rw [hx_t]; exact K0.1
    have Z0 := Nat.le_trans Z0 Ex5.1
    have K0 := K0.ext Ex5
    have A_t : Av G.Z h5_10 t .char [] := A'_t
    exact N.retA C rfl rfl d1_7 (by decide) (by decide) (by subst hQ; exact ⟨t, rfl, sz_t, K0, by rw [own_mk, if_pos hc1]; exact A_t⟩)
set_option maxRecDepth 65536 in
set_option maxHeartbeats 40000000 in
theorem con21 (G : Gx) (hw : ∀ d ∈ tables_1, d.before G.a0 G.Z = true) (t d : Addr) (n : Int32) (cs ds : List Int32) (h : Heap) (hok : own_ok cs) (hn : n.toInt = (cs.length : Nat)) (hl : ds.length = cs.length) (Z0 : G.n0 ≤ h.size) (g_d : G.n0 ≤ d) (ne_t_d : t ≠ d) (ne_d_t : d ≠ t) (A_t : Av G.Z h t .char (cs.map .int)) (A_d : Av G.Z h d .byte (ds.map .int)) :
    Con G (⟨"java/lang/StringUTF16", "compress", "([CI[BII)I"⟩ : MethodName) jdk_52_method_21_code 7 (some .int) rm21 #[(.ref t), (.int (0 : Int32)), (.ref d), (.int (0 : Int32)), (.int n)] h (fun v h' => ∃ r : Int32, v = some (.int r) ∧ Keep h h' [d] ∧ ((own_lo cs = true ∧ r = n ∧ Av G.Z h' d .byte ((cs.map own_b8).map .int)) ∨ (own_lo cs = false ∧ ∃ (k : Nat) (c : Int32), r.toInt = (k : Nat) ∧ cs[k]? = some c ∧ 255 < c.toInt))) := by
  refine Con.of (W := tables_1) (plainFor_of_name pn21) hw (fun mm => ef21 mm t (0 : Int32) d (0 : Int32) n) (fun K C => ?_)
  have C : Cx G K "java/lang/StringUTF16" "compress" jdk_52_method_21_code 7 (some .int) tables_1 := C
  generalize hQ : (fun v h' => ∃ r : Int32, v = some (.int r) ∧ Keep h h' [d] ∧ ((own_lo cs = true ∧ r = n ∧ Av G.Z h' d .byte ((cs.map own_b8).map .int)) ∨ (own_lo cs = false ∧ ∃ (k : Nat) (c : Int32), r.toInt = (k : Nat) ∧ cs[k]? = some c ∧ 255 < c.toInt)) : Option Value → Heap → Prop) = Q
  have K0 : Keep h h [d] := Keep.refl _ _
  have hok3 := hok.1
  obtain ⟨k, hk0⟩ : ∃ k : Nat, k = 0 := ⟨_, rfl⟩
  have ho : (0 : Int32).toInt = (k : Nat) := by rw [hk0]; decide
  have hp := ho
  have hi := ho
  have hk : k ≤ cs.length := by omega
  have hpre : ∀ j : Nat, j < k → ds[j]? = (cs.map own_b8)[j]? := fun j hj => by omega
  have hlo : ∀ j : Nat, j < k → ∀ c, cs[j]? = some c → c.toInt ≤ 255 := fun j hj => by omega
  refine N.iconst C (pc' := 1) (z := 0) d21_0 rfl rfl ?_
  refine N.istore C (pc' := 3) (ls' := #[.val (.ref t), .val (.int (0 : Int32)), .val (.ref d), .val (.int (0 : Int32)), .val (.int n), .val (.int (0 : Int32)), .unset]) d21_1 rfl rfl ?_
  have loop : ∀ (m : Nat) (h1 : Heap) (o p i c0 : Int32) (ds : List Int32) (k : Nat), cs.length - k ≤ m → o.toInt = (k : Nat) → p.toInt = (k : Nat) → i.toInt = (k : Nat) → k ≤ cs.length → ds.length = cs.length → (∀ j : Nat, j < k → ds[j]? = (cs.map own_b8)[j]?) → (∀ j : Nat, j < k → ∀ c, cs[j]? = some c → c.toInt ≤ 255) → Av G.Z h1 t .char (cs.map .int) → Av G.Z h1 d .byte (ds.map .int) → Keep h h1 [d] → G.n0 ≤ h1.size → N G K rm21 Q h1 0 0 3 #[.val (.ref t), .val (.int o), .val (.ref d), .val (.int p), .val (.int n), .val (.int i), .val (.int c0)] [] := by
    intro m
    induction m using Nat.strongRecOn with
    | _ m ih =>
    intro h1 o p i c0 ds k hm ho hp hi hk hl hpre hlo A_t A_d K0 Z0
    refine N.iload C (pc' := 5) d21_3 rfl rfl ?_
    refine N.iload C (pc' := 7) d21_5 rfl rfl ?_
    refine N.icmp C (pt := 44) (pf := 10) d21_7 rfl rfl (fun (hc7 : n.toInt ≤ i.toInt) => ?_) (fun (hc7 : i.toInt < n.toInt) => ?_)
    · refine N.iload C (pc' := 46) d21_44 rfl rfl ?_
      exact N.retI C d21_46 (by decide) (by decide) (by subst hQ; have ek : k = cs.length := (by omega); subst ek; have e := own_eqN (by simp) hl hpre; subst e; exact ⟨_, rfl, K0, Or.inl ⟨own_lo1 hlo, rfl, A_d⟩⟩)
    · refine N.aloadN C (pc' := 11) d21_10 rfl rfl rfl ?_
      refine N.iloadN C (pc' := 12) d21_11 rfl rfl ?_
      obtain ⟨c, hc1⟩ := own_at cs (k := k) (by omega)
      have hcr := hok.2 k c hc1
      refine N.caload C (pc' := 13) (i := k) (v := (.int c)) d21_12 A_t ho (own_pm hc1) rfl ?_
      refine N.istore C (pc' := 15) (ls' := #[.val (.ref t), .val (.int o), .val (.ref d), .val (.int p), .val (.int n), .val (.int i), .val (.int c)]) d21_13 rfl rfl ?_
      refine N.iload C (pc' := 17) d21_15 rfl rfl ?_
      refine N.sipush C (pc' := 20) (z := 255) d21_17 rfl rfl ?_
      refine N.icmp C (pt := 26) (pf := 23) d21_20 rfl rfl (fun (hc20 : c.toInt ≤ 255) => ?_) (fun (hc20 : 255 < c.toInt) => ?_)
      · refine N.aloadN C (pc' := 27) d21_26 rfl rfl rfl ?_
        refine N.iloadN C (pc' := 28) d21_27 rfl rfl ?_
        refine N.iload C (pc' := 30) d21_28 rfl rfl ?_
        refine N.i2b C (pc' := 31) d21_30 rfl ?_
        refine N.bastore C (pc' := 32) (i := k) d21_31 A_d hp (by rw [List.length_map, hl]; omega) g_d rfl (fun h31_1 W31 A_d => ?_)
        have Z0 : G.n0 ≤ _ := (Wr.size W31).symm ▸ Z0
        have A_t := A_t.other W31 ne_t_d
        have K0 := K0.wr W31 (Or.inl (List.mem_of_getElem? (i := 0) rfl))
        have A_d : Av G.Z h31_1 d .byte ((ds.set k (own_b8 c)).map .int) := by rw [List.map_set]; exact A_d
        refine N.iinc C (pc' := 35) (z := 1) (ls' := #[.val (.ref t), .val (.int (o + (1 : Int32))), .val (.ref d), .val (.int p), .val (.int n), .val (.int i), .val (.int c)]) d21_32 rfl rfl rfl rfl ?_
        refine N.iinc C (pc' := 38) (z := 1) (ls' := #[.val (.ref t), .val (.int (o + (1 : Int32))), .val (.ref d), .val (.int (p + (1 : Int32))), .val (.int n), .val (.int i), .val (.int c)]) d21_35 rfl rfl rfl rfl ?_
        refine N.iinc C (pc' := 41) (z := 1) (ls' := #[.val (.ref t), .val (.int (o + (1 : Int32))), .val (.ref d), .val (.int (p + (1 : Int32))), .val (.int n), .val (.int (i + (1 : Int32))), .val (.int c)]) d21_38 rfl rfl rfl rfl ?_
        refine N.goto C (pc' := 3) d21_41 rfl ?_
        exact ih _ (by omega) _ _ _ _ _ _ _ (Nat.le_refl _) (own_inc ho (by omega)) (own_inc hp (by omega)) (own_inc hi (by omega)) (by omega) (by rw [List.length_set]; exact hl) (own_stp hl (by omega) hpre (by rw [List.getElem?_map, hc1]; rfl)) (fun j hj c' hc' => by rcases Nat.lt_succ_iff_lt_or_eq.mp hj with q | q; exact hlo j q c' hc'; subst q; rw [hc1] at hc'; cases hc'; omega) A_t A_d K0 Z0
      · refine N.iload C (pc' := 25) d21_23 rfl rfl ?_
        exact N.retI C d21_25 (by decide) (by decide) (by subst hQ; exact ⟨_, rfl, K0, Or.inr ⟨own_lo0 hc1 hc20, k, c, hi, hc1, hc20⟩⟩)
  refine N.iload C (pc' := 5) d21_3 rfl rfl ?_
  refine N.iload C (pc' := 7) d21_5 rfl rfl ?_
  refine N.icmp C (pt := 44) (pf := 10) d21_7 rfl rfl (fun (hc7 : n.toInt ≤ 0) => ?_) (fun (hc7 : 0 < n.toInt) => ?_)
  · refine N.iload C (pc' := 46) d21_44 rfl rfl ?_
    exact N.retI C d21_46 (by decide) (by decide) (by subst hQ; have ek : k = cs.length := (by omega); subst ek; have e := own_eqN (by simp) hl hpre; subst e; exact ⟨_, rfl, K0, Or.inl ⟨own_lo1 hlo, rfl, A_d⟩⟩)
  · refine N.aloadN C (pc' := 11) d21_10 rfl rfl rfl ?_
    refine N.iloadN C (pc' := 12) d21_11 rfl rfl ?_
    obtain ⟨c, hc1⟩ := own_at cs (k := k) (by omega)
    have hcr := hok.2 k c hc1
    refine N.caload C (pc' := 13) (i := k) (v := (.int c)) d21_12 A_t ho (own_pm hc1) rfl ?_
    refine N.istore C (pc' := 15) (ls' := #[.val (.ref t), .val (.int (0 : Int32)), .val (.ref d), .val (.int (0 : Int32)), .val (.int n), .val (.int (0 : Int32)), .val (.int c)]) d21_13 rfl rfl ?_
    refine N.iload C (pc' := 17) d21_15 rfl rfl ?_
    refine N.sipush C (pc' := 20) (z := 255) d21_17 rfl rfl ?_
    refine N.icmp C (pt := 26) (pf := 23) d21_20 rfl rfl (fun (hc20 : c.toInt ≤ 255) => ?_) (fun (hc20 : 255 < c.toInt) => ?_)
    · refine N.aloadN C (pc' := 27) d21_26 rfl rfl rfl ?_
      refine N.iloadN C (pc' := 28) d21_27 rfl rfl ?_
      refine N.iload C (pc' := 30) d21_28 rfl rfl ?_
      refine N.i2b C (pc' := 31) d21_30 rfl ?_
      refine N.bastore C (pc' := 32) (i := k) d21_31 A_d hp (by rw [List.length_map, hl]; omega) g_d rfl (fun h31_1 W31 A_d => ?_)
      have Z0 : G.n0 ≤ _ := (Wr.size W31).symm ▸ Z0
      have A_t := A_t.other W31 ne_t_d
      have K0 := K0.wr W31 (Or.inl (List.mem_of_getElem? (i := 0) rfl))
      have A_d : Av G.Z h31_1 d .byte ((ds.set k (own_b8 c)).map .int) := by rw [List.map_set]; exact A_d
      refine N.iinc C (pc' := 35) (z := 1) (ls' := #[.val (.ref t), .val (.int (1 : Int32)), .val (.ref d), .val (.int (0 : Int32)), .val (.int n), .val (.int (0 : Int32)), .val (.int c)]) d21_32 rfl rfl rfl rfl ?_
      refine N.iinc C (pc' := 38) (z := 1) (ls' := #[.val (.ref t), .val (.int (1 : Int32)), .val (.ref d), .val (.int (1 : Int32)), .val (.int n), .val (.int (0 : Int32)), .val (.int c)]) d21_35 rfl rfl rfl rfl ?_
      refine N.iinc C (pc' := 41) (z := 1) (ls' := #[.val (.ref t), .val (.int (1 : Int32)), .val (.ref d), .val (.int (1 : Int32)), .val (.int n), .val (.int (1 : Int32)), .val (.int c)]) d21_38 rfl rfl rfl rfl ?_
      refine N.goto C (pc' := 3) d21_41 rfl ?_
      exact loop _ _ _ _ _ _ _ _ (Nat.le_refl _) (own_inc ho (by omega)) (own_inc hp (by omega)) (own_inc hi (by omega)) (by omega) (by rw [List.length_set]; exact hl) (own_stp hl (by omega) hpre (by rw [List.getElem?_map, hc1]; rfl)) (fun j hj c' hc' => by rcases Nat.lt_succ_iff_lt_or_eq.mp hj with q | q; exact hlo j q c' hc'; subst q; rw [hc1] at hc'; cases hc'; omega) A_t A_d K0 Z0
    · refine N.iload C (pc' := 25) d21_23 rfl rfl ?_
      exact N.retI C d21_25 (by decide) (by decide) (by subst hQ; exact ⟨_, rfl, K0, Or.inr ⟨own_lo0 hc1 hc20, k, c, hi, hc1, hc20⟩⟩)
set_option maxRecDepth 65536 in
set_option maxHeartbeats 40000000 in
theorem con25 (G : Gx) (hw : ∀ d ∈ tables_1, d.before G.a0 G.Z = true) (n : Int32) (k : Nat) (h : Heap) (hn : n.toInt = (k : Nat)) (hk : k ≤ 3) :
    Con G (⟨"java/lang/StringUTF16", "newBytesLength", "(I)I"⟩ : MethodName) jdk_52_method_3_code 1 (some .int) rm25 #[(.int n)] h (fun v h' => ∃ r : Int32, v = some (.int r) ∧ h = h' ∧ r.toInt = ((2 * k : Nat) : Int)) := by
  refine Con.of (W := tables_1) (plainFor_of_name pn25) hw (fun mm => ef25 mm n) (fun K C => ?_)
  have C : Cx G K "java/lang/StringUTF16" "newBytesLength" jdk_52_method_3_code 1 (some .int) tables_1 := C
  generalize hQ : (fun v h' => ∃ r : Int32, v = some (.int r) ∧ h = h' ∧ r.toInt = ((2 * k : Nat) : Int) : Option Value → Heap → Prop) = Q
  refine N.iloadN C (pc' := 1) d25_0 rfl rfl ?_
  refine N.ifc C (pt := 12) (pf := 4) d25_1 rfl rfl (fun (hc1 : 0 ≤ n.toInt) => ?_) (fun (hc1 : n.toInt < 0) => absurd (show False from by omega) id)
  refine N.iloadN C (pc' := 13) d25_12 rfl rfl ?_
  refine N.ldcI C (pc' := 15) (v := 1073741823) d25_13 (C.w (i := 146) rfl) rfl ?_
  refine N.icmp C (pt := 55) (pf := 18) d25_15 rfl rfl (fun (hc15 : n.toInt < 1073741823) => ?_) (fun (hc15 : 1073741823 ≤ n.toInt) => absurd (show False from by omega) id)
  refine N.iloadN C (pc' := 56) d25_55 rfl rfl ?_
  refine N.iconst C (pc' := 57) (z := 1) d25_56 rfl rfl ?_
  refine N.ishl C (pc' := 58) d25_57 rfl ?_
  exact N.retI C d25_58 (by decide) (by decide) (by subst hQ; exact ⟨_, rfl, rfl, own_dbl hn (by omega)⟩)
set_option maxRecDepth 65536 in
set_option maxHeartbeats 40000000 in
theorem con24 (G : Gx) (hw : ∀ d ∈ tables_1, d.before G.a0 G.Z = true) (n : Int32) (k : Nat) (h : Heap) (hn : n.toInt = (k : Nat)) (hk : k ≤ 3) (Z0 : G.n0 ≤ h.size) :
    Con G (⟨"java/lang/StringUTF16", "newBytesFor", "(I)[B"⟩ : MethodName) jdk_52_method_2_code 1 (some (.array .byte)) rm24 #[(.int n)] h (fun v h' => ∃ b : Addr, v = some (.ref b) ∧ h.size ≤ b ∧ Keep h h' [] ∧ Av G.Z h' b .byte ((List.replicate (2 * k) (0 : Int32)).map .int)) := by
  refine Con.of (W := tables_1) (plainFor_of_name pn24) hw (fun mm => ef24 mm n) (fun K C => ?_)
  have C : Cx G K "java/lang/StringUTF16" "newBytesFor" jdk_52_method_2_code 1 (some (.array .byte)) tables_1 := C
  generalize hQ : (fun v h' => ∃ b : Addr, v = some (.ref b) ∧ h.size ≤ b ∧ Keep h h' [] ∧ Av G.Z h' b .byte ((List.replicate (2 * k) (0 : Int32)).map .int) : Option Value → Heap → Prop) = Q
  have K0 : Keep h h [] := Keep.refl _ _
  refine N.iloadN C (pc' := 1) d24_0 rfl rfl ?_
  refine N.callS C (pc' := 4) [(.int n)] d24_1 (C.w (i := 143) rfl) (C.w (i := 144) rfl) (C.w (i := 129) rfl) (C.w (i := 145) rfl) (by decide) (con25 G hw n k h hn hk) (lenOf pd__I_I rfl) rfl (by decide) (show 0 + (1 + 11) + _ ≤ _ from by decide) (by decide) (by decide) (rest := []) rfl rfl ?_
  rintro _ h1_1 ⟨r, rfl, rfl, hr⟩
  show N G K rm24 Q h 0 0 4 #[.val (.int n)] [(.int r)]
  refine N.newP C (pc' := 6) (n := r) 6 d24_4 (C.w (i := 19) rfl) (by omega) (by omega) (by decide) (by decide) (by decide) rfl (fun h4_2 b hx_b Ex4 A'_b => ?_)
  have g_b : G.n0 ≤ b := by rw [hx_b]; exact Z0
  have sz_b : h.size ≤ b := by rw [hx_b]; exact K0.1
  have Z0 := Nat.le_trans Z0 Ex4.1
  have K0 := K0.ext Ex4
  have A_b : Av G.Z h4_2 b .byte (List.replicate r.toInt.toNat (.int (0 : Int32))) := A'_b
  exact N.retA C rfl rfl d24_6 (by decide) (by decide) (by subst hQ; exact ⟨b, rfl, sz_b, K0, by have e : r.toInt.toNat = 2 * k := (by omega); rw [e] at A_b; rw [List.map_replicate]; exact A_b⟩)
set_option maxRecDepth 65536 in
set_option maxHeartbeats 40000000 in
theorem con26 (G : Gx) (hw : ∀ d ∈ tables_1, d.before G.a0 G.Z = true) (b : Addr) (i c : Int32) (k : Nat) (bb : List Int32) (cp : Int32) (kT kO kL kN kB kF : Addr) (h : Heap) (hi : i.toInt = (k : Nat)) (hk : 2 * k + 1 < bb.length) (hk3 : k ≤ 3) (SS : Ss G cp kT kO kL kN kB kF) (O : Old G.Z G.n0 h) (Z0 : G.n0 ≤ h.size) (g_b : G.n0 ≤ b) (A_b : Av G.Z h b .byte (bb.map .int)) :
    Con G (⟨"java/lang/StringUTF16", "putChar", "([BII)V"⟩ : MethodName) jdk_52_method_4_code 3 none rm26 #[(.ref b), (.int i), (.int c)] h (fun v h' => v = none ∧ Keep h h' [b] ∧ Av G.Z h' b .byte (((bb.set (2 * k) (own_b0 c)).set (2 * k + 1) (own_b1 c)).map .int)) := by
  refine Con.of (W := tables_1) (plainFor_of_name pn26) hw (fun mm => ef26 mm b i c) (fun K C => ?_)
  have C : Cx G K "java/lang/StringUTF16" "putChar" jdk_52_method_4_code 3 none tables_1 := C
  generalize hQ : (fun v h' => v = none ∧ Keep h h' [b] ∧ Av G.Z h' b .byte (((bb.set (2 * k) (own_b0 c)).set (2 * k + 1) (own_b1 c)).map .int) : Option Value → Heap → Prop) = Q
  have K0 : Keep h h [b] := Keep.refl _ _
  have S_assertionsDisabled := SS.s1.ext O.2
  have S_HI_BYTE_SHIFT := SS.s2.ext O.2
  have S_LO_BYTE_SHIFT := SS.s3.ext O.2
  refine N.getS C (pc' := 3) d26_0 (C.w (i := 150) rfl) S_assertionsDisabled rfl ?_
  refine N.ifc C (pt := 28) (pf := 6) d26_3 rfl rfl (fun _ => ?_) (fun (q : (1 : Int32) = (0 : Int32)) => absurd q (by decide))
  refine N.iloadN C (pc' := 29) d26_28 rfl rfl ?_
  refine N.iconst C (pc' := 30) (z := 1) d26_29 rfl rfl ?_
  refine N.ishl C (pc' := 31) d26_30 rfl ?_
  refine N.istoreN C (pc' := 32) (ls' := #[.val (.ref b), .val (.int ((i <<< ((1 : Int32) &&& 31)))), .val (.int c)]) d26_31 rfl rfl ?_
  refine N.aloadN C (pc' := 33) d26_32 rfl rfl rfl ?_
  refine N.iloadN C (pc' := 34) d26_33 rfl rfl ?_
  refine N.iinc C (pc' := 37) (z := 1) (ls' := #[.val (.ref b), .val (.int (((i <<< ((1 : Int32) &&& 31))) + (1 : Int32))), .val (.int c)]) d26_34 rfl rfl rfl rfl ?_
  have S_HI_BYTE_SHIFT := SS.s2.ext O.2
  have S_LO_BYTE_SHIFT := SS.s3.ext O.2
  refine N.iloadN C (pc' := 38) d26_37 rfl rfl ?_
  refine N.getS C (pc' := 41) d26_38 (C.w (i := 151) rfl) S_HI_BYTE_SHIFT rfl ?_
  refine N.ishr C (pc' := 42) d26_41 rfl ?_
  refine N.i2b C (pc' := 43) d26_42 rfl ?_
  refine N.bastore C (pc' := 44) (i := 2 * k) d26_43 A_b (own_dbl hi (by omega)) (by rw [List.length_map]; omega) g_b rfl (fun h43_1 W43 A_b => ?_)
  have O := O.wr W43 g_b
  have Z0 : G.n0 ≤ _ := (Wr.size W43).symm ▸ Z0
  have K0 := K0.wr W43 (Or.inl (List.mem_of_getElem? (i := 0) rfl))
  refine N.aloadN C (pc' := 45) d26_44 rfl rfl rfl ?_
  refine N.iloadN C (pc' := 46) d26_45 rfl rfl ?_
  have S_HI_BYTE_SHIFT := SS.s2.ext O.2
  have S_LO_BYTE_SHIFT := SS.s3.ext O.2
  refine N.iloadN C (pc' := 47) d26_46 rfl rfl ?_
  refine N.getS C (pc' := 50) d26_47 (C.w (i := 152) rfl) S_LO_BYTE_SHIFT rfl ?_
  refine N.ishr C (pc' := 51) d26_50 rfl ?_
  refine N.i2b C (pc' := 52) d26_51 rfl ?_
  refine N.bastore C (pc' := 53) (i := 2 * k + 1) d26_52 A_b (own_d1 hi (by omega)) (by rw [List.length_set, List.length_map]; omega) g_b rfl (fun h52_2 W52 A_b => ?_)
  have O := O.wr W52 g_b
  have Z0 : G.n0 ≤ _ := (Wr.size W52).symm ▸ Z0
  have K0 := K0.wr W52 (Or.inl (List.mem_of_getElem? (i := 0) rfl))
  exact N.ret0 C rfl d26_53 (by decide) (by decide) (by subst hQ; exact ⟨rfl, K0, by rw [List.map_set, List.map_set]; exact A_b⟩)
set_option maxRecDepth 65536 in
set_option maxHeartbeats 40000000 in
theorem con27 (G : Gx) (hw : ∀ d ∈ tables_1, d.before G.a0 G.Z = true) (b : Addr) (i c : Int32) (k : Nat) (cs : List Int32) (cp : Int32) (kT kO kL kN kB kF : Addr) (h : Heap) (hi : i.toInt = (k : Nat)) (hk3 : k ≤ 3) (hc : cs[k]? = some c) (hcr : 0 ≤ c.toInt ∧ c.toInt < 65536) (SS : Ss G cp kT kO kL kN kB kF) (O : Old G.Z G.n0 h) (A_b : Av G.Z h b .byte ((own_u16 cs).map .int)) :
    Con G (⟨"java/lang/StringUTF16", "getChar", "([BI)C"⟩ : MethodName) jdk_52_method_5_code 2 (some .char) rm27 #[(.ref b), (.int i)] h (fun v h' => ∃ r : Int32, v = some (.int r) ∧ h = h' ∧ r.toInt = c.toInt) := by
  refine Con.of (W := tables_1) (plainFor_of_name pn27) hw (fun mm => ef27 mm b i) (fun K C => ?_)
  have C : Cx G K "java/lang/StringUTF16" "getChar" jdk_52_method_5_code 2 (some .char) tables_1 := C
  generalize hQ : (fun v h' => ∃ r : Int32, v = some (.int r) ∧ h = h' ∧ r.toInt = c.toInt : Option Value → Heap → Prop) = Q
  have S_assertionsDisabled := SS.s1.ext O.2
  have S_HI_BYTE_SHIFT := SS.s2.ext O.2
  have S_LO_BYTE_SHIFT := SS.s3.ext O.2
  refine N.getS C (pc' := 3) d27_0 (C.w (i := 150) rfl) S_assertionsDisabled rfl ?_
  refine N.ifc C (pt := 28) (pf := 6) d27_3 rfl rfl (fun _ => ?_) (fun (q : (1 : Int32) = (0 : Int32)) => absurd q (by decide))
  refine N.iloadN C (pc' := 29) d27_28 rfl rfl ?_
  refine N.iconst C (pc' := 30) (z := 1) d27_29 rfl rfl ?_
  refine N.ishl C (pc' := 31) d27_30 rfl ?_
  refine N.istoreN C (pc' := 32) (ls' := #[.val (.ref b), .val (.int ((i <<< ((1 : Int32) &&& 31))))]) d27_31 rfl rfl ?_
  refine N.aloadN C (pc' := 33) d27_32 rfl rfl rfl ?_
  refine N.iloadN C (pc' := 34) d27_33 rfl rfl ?_
  refine N.iinc C (pc' := 37) (z := 1) (ls' := #[.val (.ref b), .val (.int (((i <<< ((1 : Int32) &&& 31))) + (1 : Int32)))]) d27_34 rfl rfl rfl rfl ?_
  refine N.baload C (pc' := 38) (i := 2 * k) (v := (.int (own_b0 c))) d27_37 A_b (own_dbl hi (by omega)) (own_pm (own_u16_at hc).1) rfl ?_
  refine N.sipush C (pc' := 41) (z := 255) d27_38 rfl rfl ?_
  refine N.iand C (pc' := 42) d27_41 rfl ?_
  refine N.getS C (pc' := 45) d27_42 (C.w (i := 151) rfl) S_HI_BYTE_SHIFT rfl ?_
  refine N.ishl C (pc' := 46) d27_45 rfl ?_
  refine N.aloadN C (pc' := 47) d27_46 rfl rfl rfl ?_
  refine N.iloadN C (pc' := 48) d27_47 rfl rfl ?_
  refine N.baload C (pc' := 49) (i := 2 * k + 1) (v := (.int (own_b1 c))) d27_48 A_b (own_d1 hi (by omega)) (own_pm (own_u16_at hc).2) rfl ?_
  refine N.sipush C (pc' := 52) (z := 255) d27_49 rfl rfl ?_
  refine N.iand C (pc' := 53) d27_52 rfl ?_
  refine N.getS C (pc' := 56) d27_53 (C.w (i := 152) rfl) S_LO_BYTE_SHIFT rfl ?_
  refine N.ishl C (pc' := 57) d27_56 rfl ?_
  refine N.ior C (pc' := 58) d27_57 rfl ?_
  refine N.i2c C (pc' := 59) d27_58 rfl ?_
  exact N.retN C (by simp) rfl d27_59 (by decide) (by decide) (by subst hQ; exact ⟨_, rfl, rfl, own_rt hcr.1 hcr.2⟩)
set_option maxRecDepth 65536 in
set_option maxHeartbeats 40000000 in
theorem con23 (G : Gx) (hw : ∀ d ∈ tables_1, d.before G.a0 G.Z = true) (t : Addr) (n : Int32) (cs : List Int32) (cp : Int32) (kT kO kL kN kB kF : Addr) (h : Heap) (hok : own_ok cs) (hn : n.toInt = (cs.length : Nat)) (SS : Ss G cp kT kO kL kN kB kF) (O : Old G.Z G.n0 h) (Z0 : G.n0 ≤ h.size) (A_t : Av G.Z h t .char (cs.map .int)) :
    Con G (⟨"java/lang/StringUTF16", "toBytes", "([CII)[B"⟩ : MethodName) jdk_52_method_14_code 5 (some (.array .byte)) rm23 #[(.ref t), (.int (0 : Int32)), (.int n)] h (fun v h' => ∃ b : Addr, v = some (.ref b) ∧ h.size ≤ b ∧ Keep h h' [] ∧ Av G.Z h' b .byte ((own_u16 cs).map .int)) := by
  refine Con.of (W := tables_1) (plainFor_of_name pn23) hw (fun mm => ef23 mm t (0 : Int32) n) (fun K C => ?_)
  have C : Cx G K "java/lang/StringUTF16" "toBytes" jdk_52_method_14_code 5 (some (.array .byte)) tables_1 := C
  generalize hQ : (fun v h' => ∃ b : Addr, v = some (.ref b) ∧ h.size ≤ b ∧ Keep h h' [] ∧ Av G.Z h' b .byte ((own_u16 cs).map .int) : Option Value → Heap → Prop) = Q
  have K0 : Keep h h [] := Keep.refl _ _
  have hok3 := hok.1
  refine N.iloadN C (pc' := 1) d23_0 rfl rfl ?_
  refine N.callS C (pc' := 4) [(.int n)] d23_1 (C.w (i := 140) rfl) (C.w (i := 141) rfl) (C.w (i := 129) rfl) (C.w (i := 142) rfl) (by decide) (con24 G hw n cs.length h hn hok.1 Z0) (lenOf pd__I__B rfl) rfl (by decide) (show 0 + (1 + 11) + _ ≤ _ from by decide) (by decide) (by decide) (rest := []) rfl rfl ?_
  rintro _ h1_1 ⟨b, rfl, hb, KpN, A_b⟩
  have sz_b := hb
  have g_b : G.n0 ≤ b := Nat.le_trans Z0 hb
  have ne_t_b : t ≠ b := Nat.ne_of_lt (Nat.lt_of_lt_of_le A_t.lt hb)
  have ne_b_t := Ne.symm ne_t_b
  have O := O.keep KpN all0
  have Z0 := Nat.le_trans Z0 KpN.1
  have A_t := A_t.keep KpN nin0
  have K0 := K0.trans KpN all0
  show N G K rm23 Q h1_1 (0 + 1) (0 + 6) 4 #[.val (.ref t), .val (.int (0 : Int32)), .val (.int n), .unset, .unset] [(.ref b)]
  refine N.astoreN C (pc' := 5) (ls' := #[.val (.ref t), .val (.int (0 : Int32)), .val (.int n), .val (.ref b), .unset]) d23_4 rfl rfl rfl ?_
  refine N.iconst C (pc' := 6) (z := 0) d23_5 rfl rfl ?_
  refine N.istore C (pc' := 8) (ls' := #[.val (.ref t), .val (.int (0 : Int32)), .val (.int n), .val (.ref b), .val (.int (0 : Int32))]) d23_6 rfl rfl ?_
  have loop : ∀ (m : Nat) (h1 : Heap) (o i : Int32) (bb : List Int32) (k : Nat), cs.length - k ≤ m → o.toInt = (k : Nat) → i.toInt = (k : Nat) → k ≤ cs.length → bb.length = 2 * cs.length → (∀ j : Nat, j < 2 * k → bb[j]? = (own_u16 cs)[j]?) → Av G.Z h1 t .char (cs.map .int) → Av G.Z h1 b .byte (bb.map .int) → Keep h h1 [] → G.n0 ≤ h1.size → Old G.Z G.n0 h1 → N G K rm23 Q h1 (0 + 1) (0 + 6) 8 #[.val (.ref t), .val (.int o), .val (.int n), .val (.ref b), .val (.int i)] [] := by
    intro m
    induction m using Nat.strongRecOn with
    | _ m ih =>
    intro h1 o i bb k hm ho hi hk hl hpre A_t A_b K0 Z0 O
    refine N.iload C (pc' := 10) d23_8 rfl rfl ?_
    refine N.iloadN C (pc' := 11) d23_10 rfl rfl ?_
    refine N.icmp C (pt := 32) (pf := 14) d23_11 rfl rfl (fun (hc11 : n.toInt ≤ i.toInt) => ?_) (fun (hc11 : i.toInt < n.toInt) => ?_)
    · refine N.aloadN C (pc' := 33) d23_32 rfl rfl rfl ?_
      exact N.retA C rfl rfl d23_33 (by decide) (by decide) (by subst hQ; have ek : k = cs.length := (by omega); subst ek; have e := own_eqN (own_u16_len cs) hl hpre; subst e; exact ⟨b, rfl, sz_b, K0, A_b⟩)
    · refine N.aloadN C (pc' := 15) d23_14 rfl rfl rfl ?_
      refine N.iload C (pc' := 17) d23_15 rfl rfl ?_
      refine N.aloadN C (pc' := 18) d23_17 rfl rfl rfl ?_
      refine N.iloadN C (pc' := 19) d23_18 rfl rfl ?_
      obtain ⟨c, hc1⟩ := own_at cs (k := k) (by omega)
      refine N.caload C (pc' := 20) (i := k) (v := (.int c)) d23_19 A_t ho (own_pm hc1) rfl ?_
      refine N.callS C (pc' := 23) [(.ref b), (.int i), (.int c)] d23_20 (C.w (i := 147) rfl) (C.w (i := 148) rfl) (C.w (i := 129) rfl) (C.w (i := 149) rfl) (by decide) (con26 G hw b i c k bb cp kT kO kL kN kB kF h1 hi (by omega) (by omega) SS O Z0 g_b A_b) (lenOf pd___BII_V rfl) rfl (by decide) (show 0 + (3 + 11) + _ ≤ _ from by decide) (by decide) (by decide) (rest := []) rfl rfl ?_
      rintro _ h20_1 ⟨rfl, KpC, A_b'⟩
      have O := O.keep KpC (allS g_b all0)
      have Z0 := Nat.le_trans Z0 KpC.1
      have A_t := A_t.keep KpC (ninS ne_t_b nin0)
      have K0 := K0.trans KpC (allS (Or.inr sz_b) all0)
      have A_b := A_b'
      show N G K rm23 Q h20_1 (0 + 1) (0 + 6) 23 #[.val (.ref t), .val (.int o), .val (.int n), .val (.ref b), .val (.int i)] []
      refine N.iinc C (pc' := 26) (z := 1) (ls' := #[.val (.ref t), .val (.int (o + (1 : Int32))), .val (.int n), .val (.ref b), .val (.int i)]) d23_23 rfl rfl rfl rfl ?_
      refine N.iinc C (pc' := 29) (z := 1) (ls' := #[.val (.ref t), .val (.int (o + (1 : Int32))), .val (.int n), .val (.ref b), .val (.int (i + (1 : Int32)))]) d23_26 rfl rfl rfl rfl ?_
      refine N.goto C (pc' := 8) d23_29 rfl ?_
      exact ih _ (by omega) _ _ _ _ _ (Nat.le_refl _) (own_inc ho (by omega)) (own_inc hi (by omega)) (by omega) (by rw [List.length_set, List.length_set]; exact hl) (own_stp2 hl (by omega) hpre hc1) A_t A_b K0 Z0 O
  exact loop _ _ _ _ (List.replicate (2 * cs.length) (0 : Int32)) 0 (Nat.le_refl _) (by decide) (by decide) (Nat.zero_le _) (by simp) (fun j hj => absurd hj (Nat.not_lt_zero _)) A_t A_b K0 Z0 O
set_option maxRecDepth 65536 in
set_option maxHeartbeats 40000000 in
theorem con20 (G : Gx) (hw : ∀ d ∈ tables_1, d.before G.a0 G.Z = true) (t : Addr) (n : Int32) (cs : List Int32) (cp : Int32) (kT kO kL kN kB kF : Addr) (h : Heap) (hok : own_ok cs) (hn : n.toInt = (cs.length : Nat)) (SS : Ss G cp kT kO kL kN kB kF) (O : Old G.Z G.n0 h) (Z0 : G.n0 ≤ h.size) (A_t : Av G.Z h t .char (cs.map .int)) :
    Con G (⟨"java/lang/StringUTF16", "compress", "([CII)[B"⟩ : MethodName) jdk_52_method_16_code 6 (some (.array .byte)) rm20 #[(.ref t), (.int (0 : Int32)), (.int n)] h (fun v h' => ∃ b : Addr, v = some (.ref b) ∧ h.size ≤ b ∧ Keep h h' [] ∧ Av G.Z h' b .byte ((own_bytes cs).map .int)) := by
  refine Con.of (W := tables_1) (plainFor_of_name pn20) hw (fun mm => ef20 mm t (0 : Int32) n) (fun K C => ?_)
  have C : Cx G K "java/lang/StringUTF16" "compress" jdk_52_method_16_code 6 (some (.array .byte)) tables_1 := C
  generalize hQ : (fun v h' => ∃ b : Addr, v = some (.ref b) ∧ h.size ≤ b ∧ Keep h h' [] ∧ Av G.Z h' b .byte ((own_bytes cs).map .int) : Option Value → Heap → Prop) = Q
  have K0 : Keep h h [] := Keep.refl _ _
  have hok3 := hok.1
  refine N.iloadN C (pc' := 1) d20_0 rfl rfl ?_
  refine N.newP C (pc' := 3) (n := n) 3 d20_1 (C.w (i := 19) rfl) (by omega) (by omega) (by decide) (by decide) (by decide) rfl (fun h1_1 d hx_d Ex1 A'_d => ?_)
  have ne_t_d : t ≠ d := by rw [hx_d]; exact Nat.ne_of_lt A_t.lt
  have ne_d_t := Ne.symm ne_t_d
  have g_d : G.n0 ≤ d := by rw [hx_d]; exact Z0
  have sz_d : h.size ≤ d := by rw [hx_d]; exact K0.1
  have Z0 := Nat.le_trans Z0 Ex1.1
  have O := O.ext Ex1
  have A_t := A_t.ext Ex1
  have K0 := K0.ext Ex1
  have A_d : Av G.Z h1_1 d .byte (List.replicate n.toInt.toNat (.int (0 : Int32))) := A'_d
  refine N.astoreN C (pc' := 4) (ls' := #[.val (.ref t), .val (.int (0 : Int32)), .val (.int n), .val (.ref d), .unset, .unset]) d20_3 rfl rfl rfl ?_
  refine N.aloadN C (pc' := 5) d20_4 rfl rfl rfl ?_
  refine N.iloadN C (pc' := 6) d20_5 rfl rfl ?_
  refine N.aloadN C (pc' := 7) d20_6 rfl rfl rfl ?_
  refine N.iconst C (pc' := 8) (z := 0) d20_7 rfl rfl ?_
  refine N.iloadN C (pc' := 9) d20_8 rfl rfl ?_
  have ed : List.replicate n.toInt.toNat (Value.int (0 : Int32)) = (List.replicate cs.length (0 : Int32)).map .int := by rw [List.map_replicate, hn]; rfl
  rw [ed] at A_d
  refine N.callS C (pc' := 12) [(.ref t), (.int (0 : Int32)), (.ref d), (.int (0 : Int32)), (.int n)] d20_9 (C.w (i := 131) rfl) (C.w (i := 132) rfl) (C.w (i := 129) rfl) (C.w (i := 133) rfl) (by decide) (con21 G hw t d n cs _ h1_1 hok hn (by simp) Z0 g_d ne_t_d ne_d_t A_t A_d) (lenOf pd___CI_BII_I rfl) rfl (by decide) (show 0 + (7 + 11) + _ ≤ _ from by decide) (by decide) (by decide) (rest := []) rfl rfl ?_
  rintro _ h9_2 ⟨r, rfl, KpD, hcase⟩
  have O := O.keep KpD (allS g_d all0)
  have Z0 := Nat.le_trans Z0 KpD.1
  have A_t := A_t.keep KpD (ninS ne_t_d nin0)
  have K0 := K0.trans KpD (allS (Or.inr sz_d) all0)
  show N G K rm20 Q h9_2 (0 + 1) (0 + 3) 12 #[.val (.ref t), .val (.int (0 : Int32)), .val (.int n), .val (.ref d), .unset, .unset] [(.int r)]
  refine N.istore C (pc' := 14) (ls' := #[.val (.ref t), .val (.int (0 : Int32)), .val (.int n), .val (.ref d), .val (.int r), .unset]) d20_12 rfl rfl ?_
  refine N.iload C (pc' := 16) d20_14 rfl rfl ?_
  refine N.iloadN C (pc' := 17) d20_16 rfl rfl ?_
  refine N.icmp C (pt := 57) (pf := 20) d20_17 rfl rfl (fun (hc17 : r = n) => ?_) (fun (hc17 : ¬ r = n) => ?_)
  · have hi17 : r.toInt = n.toInt := eqI hc17
    refine N.aloadN C (pc' := 58) d20_57 rfl rfl rfl ?_
    exact N.retA C rfl rfl d20_58 (by decide) (by decide) (by subst hQ; rcases hcase with ⟨hlo, -, hA⟩ | ⟨-, k, c, hrk, hck, -⟩; exact ⟨d, rfl, sz_d, K0, by unfold own_bytes; rw [if_pos hlo]; exact hA⟩; exact absurd (eqI hc17) (by have := (List.getElem?_eq_some_iff.mp hck).1; omega))
  · have hi17 : ¬ r.toInt = n.toInt := neI hc17
    obtain ⟨hlo, k, c, hrk, hck, hc255⟩ := hcase.resolve_left (fun q => hc17 q.2.1)
    have hkl : k < cs.length := (List.getElem?_eq_some_iff.mp hck).1
    refine N.aloadN C (pc' := 21) d20_20 rfl rfl rfl ?_
    refine N.iloadN C (pc' := 22) d20_21 rfl rfl ?_
    refine N.iloadN C (pc' := 23) d20_22 rfl rfl ?_
    have KB0 := K0
    refine N.callS C (pc' := 26) [(.ref t), (.int (0 : Int32)), (.int n)] d20_23 (C.w (i := 137) rfl) (C.w (i := 138) rfl) (C.w (i := 129) rfl) (C.w (i := 139) rfl) (by decide) (con23 G hw t n cs cp kT kO kL kN kB kF h9_2 hok hn SS O Z0 A_t) (lenOf pd___CII__B rfl) rfl (by decide) (show 0 + (5 + 11) + _ ≤ _ from by decide) (by decide) (by decide) (rest := []) rfl rfl ?_
    rintro _ h23_3 ⟨b, rfl, hb, KpT, A_b⟩
    have O := O.keep KpT all0
    have Z0 := Nat.le_trans Z0 KpT.1
    have A_t := A_t.keep KpT nin0
    have K0 := K0.trans KpT all0
    have sz_b : h.size ≤ b := Nat.le_trans (Nat.le_of_lt_succ (Nat.lt_succ_of_le KB0.1)) hb
    show N G K rm20 Q h23_3 ((0 + 1) + 1) ((0 + 3) + 6) 26 #[.val (.ref t), .val (.int (0 : Int32)), .val (.int n), .val (.ref d), .val (.int r), .unset] [(.ref b)]
    refine N.astore C (pc' := 28) (ls' := #[.val (.ref t), .val (.int (0 : Int32)), .val (.int n), .val (.ref d), .val (.int r), .val (.ref b)]) d20_26 rfl rfl rfl ?_
    refine N.aload C (pc' := 30) d20_28 rfl rfl rfl ?_
    refine N.iload C (pc' := 32) d20_30 rfl rfl ?_
    refine N.callS C (pc' := 35) [(.ref b), (.int r)] d20_32 (C.w (i := 153) rfl) (C.w (i := 154) rfl) (C.w (i := 129) rfl) (C.w (i := 155) rfl) (by decide) (con27 G hw b r c k cs cp kT kO kL kN kB kF h23_3 hrk (by omega) hck (hok.2 k c hck) SS O A_b) (lenOf pd___BI_C rfl) rfl (by decide) (show 0 + (2 + 11) + _ ≤ _ from by decide) (by decide) (by decide) (rest := []) rfl rfl ?_
    rintro _ h32_4 ⟨g, rfl, rfl, hg⟩
    show N G K rm20 Q h23_3 ((0 + 1) + 1) ((0 + 3) + 6) 35 #[.val (.ref t), .val (.int (0 : Int32)), .val (.int n), .val (.ref d), .val (.int r), .val (.ref b)] [(.int g)]
    refine N.sipush C (pc' := 38) (z := 255) d20_35 rfl rfl ?_
    refine N.icmp C (pt := 54) (pf := 41) d20_38 rfl rfl (fun (hc38 : 255 < g.toInt) => ?_) (fun (hc38 : g.toInt ≤ 255) => absurd (show False from by omega) id)
    refine N.aload C (pc' := 56) d20_54 rfl rfl rfl ?_
    exact N.retA C rfl rfl d20_56 (by decide) (by decide) (by subst hQ; exact ⟨b, rfl, sz_b, K0, by unfold own_bytes; rw [if_neg (by rw [hlo]; decide)]; exact A_b⟩)
set_option maxRecDepth 65536 in
set_option maxHeartbeats 40000000 in
theorem con22 (G : Gx) (hw : ∀ d ∈ tables_1, d.before G.a0 G.Z = true) (b : Addr) (n : Int32) (cs : List Int32) (h : Heap) (hok : own_ok cs) (hn : n.toInt = (cs.length : Nat)) (h0 : 0 < cs.length) (A_b : Av G.Z h b .byte ((own_bytes cs).map .int)) :
    Con G (⟨"java/lang/StringUTF16", "coderFromArrayLen", "([BI)B"⟩ : MethodName) jdk_52_method_15_code 2 (some .byte) rm22 #[(.ref b), (.int n)] h (fun v h' => v = some (.int (own_cod cs)) ∧ h = h') := by
  refine Con.of (W := tables_1) (plainFor_of_name pn22) hw (fun mm => ef22 mm b n) (fun K C => ?_)
  have C : Cx G K "java/lang/StringUTF16" "coderFromArrayLen" jdk_52_method_15_code 2 (some .byte) tables_1 := C
  generalize hQ : (fun v h' => v = some (.int (own_cod cs)) ∧ h = h' : Option Value → Heap → Prop) = Q
  obtain ⟨m, len_b⟩ := own_bl (cs := cs) hok.1
  refine N.iloadN C (pc' := 1) d22_0 rfl rfl ?_
  refine N.aloadN C (pc' := 2) d22_1 rfl rfl rfl ?_
  refine N.alen C (pc' := 3) (n := m) d22_2 A_b len_b rfl ?_
  refine N.isub C (pc' := 4) d22_3 rfl ?_
  refine N.bipush C (pc' := 6) (z := 31) d22_4 rfl rfl ?_
  refine N.iushr C (pc' := 7) d22_6 rfl ?_
  refine N.i2b C (pc' := 8) d22_7 rfl ?_
  exact N.retN C (by simp) (own_codL hn hok.1 h0 (by rw [List.length_map] at len_b; exact len_b)) d22_8 (by decide) (by decide) (by subst hQ; exact ⟨rfl, rfl⟩)
set_option maxRecDepth 65536 in
set_option maxHeartbeats 40000000 in
theorem con3 (G : Gx) (hw : ∀ d ∈ tables_1, d.before G.a0 G.Z = true) (x t : Addr) (n : Int32) (cs : List Int32) (cp : Int32) (kT kO kL kN kB kF : Addr) (h : Heap) (hok : own_ok cs) (hn : n.toInt = (cs.length : Nat)) (SS : Ss G cp kT kO kL kN kB kF) (O : Old G.Z G.n0 h) (Z0 : G.n0 ≤ h.size) (g_x : G.n0 ≤ x) (E_x : Exa G.Z h x "java/lang/String") (F_x_value : Fld G.Z h x "java/lang/String" "value" "[B" .null) (F_x_coder : Fld G.Z h x "java/lang/String" "coder" "B" (.int (0 : Int32))) (ne_x_t : x ≠ t) (ne_t_x : t ≠ x) (A_t : Av G.Z h t .char (cs.map .int)) :
    ConS G own_EL [x] (⟨"java/lang/String", "<init>", "([CIILjava/lang/Void;)V"⟩ : MethodName) jdk_42_method_149_code 6 none rm3 #[(.ref x), (.ref t), (.int (0 : Int32)), (.int n), .null] h (fun v h' => v = none ∧ Keep h h' [x] ∧ ∃ b : Addr, Fld G.Z h' x "java/lang/String" "value" "[B" (.ref b) ∧ Fld G.Z h' x "java/lang/String" "coder" "B" (.int (own_cod cs)) ∧ Av G.Z h' b .byte ((own_bytes cs).map .int) ∧ b ≠ x) := by
  refine ConS.of (W := tables_1) (plainFor_of_name pn3) hw (own_ew hw) (fun mm => ef3 mm x t (0 : Int32) n) (fun K U C Sx => ?_)
  have C : Cx G K "java/lang/String" "<init>" jdk_42_method_149_code 6 none tables_1 := C
  generalize hQ : (fun v h' => v = none ∧ Keep h h' [x] ∧ ∃ b : Addr, Fld G.Z h' x "java/lang/String" "value" "[B" (.ref b) ∧ Fld G.Z h' x "java/lang/String" "coder" "B" (.int (own_cod cs)) ∧ Av G.Z h' b .byte ((own_bytes cs).map .int) ∧ b ≠ x : Option Value → Heap → Prop) = Q
  have K0 : Keep h h [x] := Keep.refl _ _
  have hok3 := hok.1
  refine N.aloadN C (pc' := 1) d3_0 rfl rfl rfl ?_
  refine N.initO C (pc' := 4) d3_1 (C.w (i := 15) rfl) (C.w (i := 16) rfl) (C.w (i := 17) rfl) rfl (by decide) (show 0 + 12 ≤ _ from by decide) rfl ?_
  refine N.iloadN C (pc' := 5) d3_4 rfl rfl ?_
  refine N.ifc C (pt := 27) (pf := 8) d3_5 rfl rfl (fun (hc5 : ¬ n = (0 : Int32)) => ?_) (fun (hc5 : n = (0 : Int32)) => ?_)
  · have hi5 : ¬ n.toInt = 0 := neI hc5
    have S_COMPACT_STRINGS := SS.s0.ext O.2
    have h0 : 0 < cs.length := by omega
    refine N.getS C (pc' := 30) d3_27 (C.w (i := 77) rfl) S_COMPACT_STRINGS rfl ?_
    refine N.ifc C (pt := 58) (pf := 33) d3_30 rfl rfl (fun (hc30 : cp = (0 : Int32)) => absurd (show False from by exact SS.cp0 hc30) id) (fun (hc30 : ¬ cp = (0 : Int32)) => ?_)
    refine N.aloadN C (pc' := 34) d3_33 rfl rfl rfl ?_
    refine N.iloadN C (pc' := 35) d3_34 rfl rfl ?_
    refine N.iloadN C (pc' := 36) d3_35 rfl rfl ?_
    have xlt := E_x.lt
    refine N.callS C (pc' := 39) [(.ref t), (.int (0 : Int32)), (.int n)] d3_36 (C.w (i := 127) rfl) (C.w (i := 128) rfl) (C.w (i := 129) rfl) (C.w (i := 130) rfl) (by decide) (con20 G hw t n cs cp kT kO kL kN kB kF h hok hn SS O Z0 A_t) (lenOf pd___CII__B rfl) rfl (by decide) (show 0 + (6 + 11) + _ ≤ _ from by decide) (by decide) (by decide) (rest := []) rfl rfl ?_
    rintro _ h36_1 ⟨b, rfl, hb, KpB, A_b⟩
    have Sx := Sx.keep KpB all0
    have O := O.keep KpB all0
    have Z0 := Nat.le_trans Z0 KpB.1
    have F_x_value := F_x_value.keep KpB nin0
    have F_x_coder := F_x_coder.keep KpB nin0
    have E_x := E_x.keep KpB
    have A_t := A_t.keep KpB nin0
    have K0 := K0.trans KpB all0
    have sz_b := hb
    have ne_x_b : x ≠ b := Nat.ne_of_lt (Nat.lt_of_lt_of_le xlt hb)
    have ne_b_x := Ne.symm ne_x_b
    show NS G K own_EL U rm3 Q h36_1 (0 + 2) (0 + 9) 39 #[.val (.ref x), .val (.ref t), .val (.int (0 : Int32)), .val (.int n), .val .null, .unset] [(.ref b)]
    refine N.astore C (pc' := 41) (ls' := #[.val (.ref x), .val (.ref t), .val (.int (0 : Int32)), .val (.int n), .val .null, .val (.ref b)]) d3_39 rfl rfl rfl ?_
    refine N.aloadN C (pc' := 42) d3_41 rfl rfl rfl ?_
    refine N.aload C (pc' := 44) d3_42 rfl rfl rfl ?_
    refine N.iloadN C (pc' := 45) d3_44 rfl rfl ?_
    refine N.callS C (pc' := 48) [(.ref b), (.int n)] d3_45 (C.w (i := 134) rfl) (C.w (i := 135) rfl) (C.w (i := 129) rfl) (C.w (i := 136) rfl) (by decide) (con22 G hw b n cs h36_1 hok hn h0 A_b) (lenOf pd___BI_B rfl) rfl (by decide) (show 1 + (2 + 11) + _ ≤ _ from by decide) (by decide) (by decide) (rest := [(.ref x)]) rfl rfl ?_
    rintro _ h45_2 ⟨rfl, rfl⟩
    show NS G K own_EL U rm3 Q h36_1 (0 + 2) (0 + 9) 48 #[.val (.ref x), .val (.ref t), .val (.int (0 : Int32)), .val (.int n), .val .null, .val (.ref b)] [(.int (own_cod cs)), (.ref x)]
    refine N.putFN C (pc' := 51) (v' := (.int (nar .byte (own_cod cs)))) d3_48 (C.w (i := 25) rfl) F_x_coder E_x (Or.inr ⟨(C.w (i := 21) rfl), rfl, rfl⟩) (C.w (i := 1) rfl) (ty := .byte) (by decide) rfl (fits_nar_byte _) g_x rfl (fun h48_3 W48 => ?_)
    have Sx := Sx.wr W48 (List.mem_of_getElem? (i := 0) rfl)
    have O := O.wr W48 g_x
    have Z0 : G.n0 ≤ _ := (Wr.size W48).symm ▸ Z0
    have F_x_value := F_x_value.other W48 (Or.inr (slot_ne (Or.inr (C.w (i := 20) rfl)) (Or.inr (C.w (i := 21) rfl)) (by decide) (t := (.array .byte)) (t' := .byte) (by decide) (by decide)))
    have F_x_coder := F_x_coder.same W48
    have E_x := E_x.wr W48
    have A_t := A_t.other W48 ne_t_x
    have A_b := A_b.other W48 ne_b_x
    have K0 := K0.wr W48 (Or.inl (List.mem_of_getElem? (i := 0) rfl))
    refine N.aloadN C (pc' := 52) d3_51 rfl rfl rfl ?_
    refine N.aload C (pc' := 54) d3_52 rfl rfl rfl ?_
    refine N.putF C (pc' := 57) d3_54 (C.w (i := 24) rfl) F_x_value E_x (Or.inr ⟨(C.w (i := 20) rfl), rfl, rfl⟩) (C.w (i := 1) rfl) (ty := (.array .byte)) (by decide) rfl rfl g_x rfl (fun h54_4 W54 => ?_)
    have Sx := Sx.wr W54 (List.mem_of_getElem? (i := 0) rfl)
    have O := O.wr W54 g_x
    have Z0 : G.n0 ≤ _ := (Wr.size W54).symm ▸ Z0
    have F_x_value := F_x_value.same W54
    have F_x_coder := F_x_coder.other W54 (Or.inr (slot_ne (Or.inr (C.w (i := 21) rfl)) (Or.inr (C.w (i := 20) rfl)) (by decide) (t := .byte) (t' := (.array .byte)) (by decide) (by decide)))
    have E_x := E_x.wr W54
    have A_t := A_t.other W54 ne_t_x
    have A_b := A_b.other W54 ne_b_x
    have K0 := K0.wr W54 (Or.inl (List.mem_of_getElem? (i := 0) rfl))
    exact N.ret0S C Sx rfl d3_57 (by decide) (by decide) (by subst hQ; exact ⟨rfl, K0, b, F_x_value, own_cod01 cs ▸ F_x_coder, A_b, ne_b_x⟩)
  · have hi5 : n.toInt = 0 := eqI hc5
    have hcs : cs = [] := List.length_eq_zero_iff.mp (by omega)
    refine N.aloadN C (pc' := 9) d3_8 rfl rfl rfl ?_
    refine N.ldcS C Sx (vs := []) 0 d3_9 (C.w (i := 18) rfl) (own_SA hw) (by decide) ⟨by decide, rfl⟩ (z := 0) (by decide) (by decide) (by decide) (by decide) (by decide) (by decide) rfl (fun K h9_5 c yc C Sx Ex9 E_c F_c_coder F_c_value A_yc ne_c => ?_)
    have Z0 := Nat.le_trans Z0 Ex9.1
    have O := O.ext Ex9
    have F_x_value := F_x_value.ext Ex9
    have F_x_coder := F_x_coder.ext Ex9
    have E_x := E_x.ext Ex9
    have A_t := A_t.ext Ex9
    have K0 := K0.ext Ex9
    have ne_x_c := (ne_c x (List.mem_of_getElem? (i := 0) rfl)).1
    have ne_x_yc := (ne_c x (List.mem_of_getElem? (i := 0) rfl)).2
    have ne_c_x := Ne.symm ne_x_c
    have ne_yc_x := Ne.symm ne_x_yc
    show NS G K own_EL U rm3 Q h9_5 (0 + 2) (0 + (0 + 4)) 11 #[.val (.ref x), .val (.ref t), .val (.int (0 : Int32)), .val (.int n), .val .null, .unset] [(.ref c), (.ref x)]
    refine N.getF C (pc' := 14) d3_11 (C.w (i := 24) rfl) F_c_value rfl ?_
    refine N.putF C (pc' := 17) d3_14 (C.w (i := 24) rfl) F_x_value E_x (Or.inr ⟨(C.w (i := 20) rfl), rfl, rfl⟩) (C.w (i := 1) rfl) (ty := (.array .byte)) (by decide) rfl rfl g_x rfl (fun h14_6 W14 => ?_)
    have Sx := Sx.wr W14 (List.mem_of_getElem? (i := 0) rfl)
    have O := O.wr W14 g_x
    have Z0 : G.n0 ≤ _ := (Wr.size W14).symm ▸ Z0
    have F_x_value := F_x_value.same W14
    have F_x_coder := F_x_coder.other W14 (Or.inr (slot_ne (Or.inr (C.w (i := 21) rfl)) (Or.inr (C.w (i := 20) rfl)) (by decide) (t := .byte) (t' := (.array .byte)) (by decide) (by decide)))
    have F_c_coder := F_c_coder.other W14 (Or.inl ne_c_x)
    have F_c_value := F_c_value.other W14 (Or.inl ne_c_x)
    have E_x := E_x.wr W14
    have E_c := E_c.wr W14
    have A_t := A_t.other W14 ne_t_x
    have A_yc := A_yc.other W14 ne_yc_x
    have K0 := K0.wr W14 (Or.inl (List.mem_of_getElem? (i := 0) rfl))
    refine N.aloadN C (pc' := 18) d3_17 rfl rfl rfl ?_
    refine N.ldcS C Sx (vs := []) 0 d3_18 (C.w (i := 18) rfl) (own_SA hw) (by decide) ⟨by decide, rfl⟩ (z := 0) (by decide) (by decide) (by decide) (by decide) (by decide) (by decide) rfl (fun K h18_7 e ye C Sx Ex18 E_e F_e_coder F_e_value A_ye ne_e => ?_)
    have Z0 := Nat.le_trans Z0 Ex18.1
    have O := O.ext Ex18
    have F_x_value := F_x_value.ext Ex18
    have F_x_coder := F_x_coder.ext Ex18
    have F_c_coder := F_c_coder.ext Ex18
    have F_c_value := F_c_value.ext Ex18
    have E_x := E_x.ext Ex18
    have E_c := E_c.ext Ex18
    have A_t := A_t.ext Ex18
    have A_yc := A_yc.ext Ex18
    have K0 := K0.ext Ex18
    have ne_x_e := (ne_e x (List.mem_of_getElem? (i := 0) rfl)).1
    have ne_x_ye := (ne_e x (List.mem_of_getElem? (i := 0) rfl)).2
    have ne_e_x := Ne.symm ne_x_e
    have ne_ye_x := Ne.symm ne_x_ye
    show NS G K own_EL U rm3 Q h18_7 ((0 + 2) + 2) ((0 + (0 + 4)) + (0 + 4)) 20 #[.val (.ref x), .val (.ref t), .val (.int (0 : Int32)), .val (.int n), .val .null, .unset] [(.ref e), (.ref x)]
    refine N.getF C (pc' := 23) d3_20 (C.w (i := 25) rfl) F_e_coder rfl ?_
    refine N.putFN C (pc' := 26) (v' := (.int (0 : Int32))) d3_23 (C.w (i := 25) rfl) F_x_coder E_x (Or.inr ⟨(C.w (i := 21) rfl), rfl, rfl⟩) (C.w (i := 1) rfl) (ty := .byte) (by decide) rfl (by decide) g_x rfl (fun h23_8 W23 => ?_)
    have Sx := Sx.wr W23 (List.mem_of_getElem? (i := 0) rfl)
    have O := O.wr W23 g_x
    have Z0 : G.n0 ≤ _ := (Wr.size W23).symm ▸ Z0
    have F_x_value := F_x_value.other W23 (Or.inr (slot_ne (Or.inr (C.w (i := 20) rfl)) (Or.inr (C.w (i := 21) rfl)) (by decide) (t := (.array .byte)) (t' := .byte) (by decide) (by decide)))
    have F_x_coder := F_x_coder.same W23
    have F_c_coder := F_c_coder.other W23 (Or.inl ne_c_x)
    have F_c_value := F_c_value.other W23 (Or.inl ne_c_x)
    have F_e_coder := F_e_coder.other W23 (Or.inl ne_e_x)
    have F_e_value := F_e_value.other W23 (Or.inl ne_e_x)
    have E_x := E_x.wr W23
    have E_c := E_c.wr W23
    have E_e := E_e.wr W23
    have A_t := A_t.other W23 ne_t_x
    have A_yc := A_yc.other W23 ne_yc_x
    have A_ye := A_ye.other W23 ne_ye_x
    have K0 := K0.wr W23 (Or.inl (List.mem_of_getElem? (i := 0) rfl))
    exact N.ret0S C Sx rfl d3_26 (by decide) (by decide) (by subst hQ; subst hcs; exact ⟨rfl, K0, yc, F_x_value, F_x_coder, A_yc, ne_yc_x⟩)
set_option maxRecDepth 65536 in
set_option maxHeartbeats 40000000 in
theorem con2 (G : Gx) (hw : ∀ d ∈ tables_1, d.before G.a0 G.Z = true) (x t : Addr) (n : Int32) (cs : List Int32) (cp : Int32) (kT kO kL kN kB kF : Addr) (h : Heap) (hok : own_ok cs) (hn : n.toInt = (cs.length : Nat)) (SS : Ss G cp kT kO kL kN kB kF) (O : Old G.Z G.n0 h) (Z0 : G.n0 ≤ h.size) (g_x : G.n0 ≤ x) (E_x : Exa G.Z h x "java/lang/String") (F_x_value : Fld G.Z h x "java/lang/String" "value" "[B" .null) (F_x_coder : Fld G.Z h x "java/lang/String" "coder" "B" (.int (0 : Int32))) (ne_x_t : x ≠ t) (ne_t_x : t ≠ x) (A_t : Av G.Z h t .char (cs.map .int)) :
    ConS G own_EL [x] (⟨"java/lang/String", "<init>", "([C)V"⟩ : MethodName) jdk_42_method_3_code 2 none rm2 #[(.ref x), (.ref t)] h (fun v h' => v = none ∧ Keep h h' [x] ∧ ∃ b : Addr, Fld G.Z h' x "java/lang/String" "value" "[B" (.ref b) ∧ Fld G.Z h' x "java/lang/String" "coder" "B" (.int (own_cod cs)) ∧ Av G.Z h' b .byte ((own_bytes cs).map .int) ∧ b ≠ x) := by
  refine ConS.of (W := tables_1) (plainFor_of_name pn2) hw (own_ew hw) (fun mm => ef2 mm x t) (fun K U C Sx => ?_)
  have C : Cx G K "java/lang/String" "<init>" jdk_42_method_3_code 2 none tables_1 := C
  generalize hQ : (fun v h' => v = none ∧ Keep h h' [x] ∧ ∃ b : Addr, Fld G.Z h' x "java/lang/String" "value" "[B" (.ref b) ∧ Fld G.Z h' x "java/lang/String" "coder" "B" (.int (own_cod cs)) ∧ Av G.Z h' b .byte ((own_bytes cs).map .int) ∧ b ≠ x : Option Value → Heap → Prop) = Q
  have len_t : n.toInt = ((cs.map Value.int).length : Nat) := by rw [List.length_map]; exact hn
  refine N.aloadN C (pc' := 1) d2_0 rfl rfl rfl ?_
  refine N.aloadN C (pc' := 2) d2_1 rfl rfl rfl ?_
  refine N.iconst C (pc' := 3) (z := 0) d2_2 rfl rfl ?_
  refine N.aloadN C (pc' := 4) d2_3 rfl rfl rfl ?_
  refine N.alen C (pc' := 5) (n := n) d2_4 A_t len_t rfl ?_
  refine N.aconst_null C (pc' := 6) d2_5 rfl ?_
  refine N.callIS C Sx (pc' := 9) x [(.ref t), (.int (0 : Int32)), (.int n), .null] d2_6 rfl (C.w (i := 11) rfl) (C.w (i := 12) rfl) (C.w (i := 2) rfl) (C.w (i := 14) rfl) (by decide) (allS (List.mem_of_getElem? (i := 0) rfl) all0) (con3 G hw x t n cs cp kT kO kL kN kB kF h hok hn SS O Z0 g_x E_x F_x_value F_x_coder ne_x_t ne_t_x A_t) (lenOf pd___CIILjava_lang_Void__V rfl) rfl (by decide) (show 0 + (6 + 11) + _ ≤ _ from by decide) (by decide) (by decide) (rest := []) rfl rfl ?_
  rintro K _ h6_1 C Sx ⟨rfl, KpI, b, FV, FC, A_b, hbx⟩
  show NS G K own_EL U rm2 Q h6_1 (0 + 4) (0 + 12) 9 #[.val (.ref x), .val (.ref t)] []
  exact N.ret0S C Sx rfl d2_9 (by decide) (by decide) (by subst hQ; exact ⟨rfl, KpI, b, FV, FC, A_b, hbx⟩)
set_option maxRecDepth 65536 in
set_option maxHeartbeats 40000000 in
theorem con6 (G : Gx) (hw : ∀ d ∈ tables_1, d.before G.a0 G.Z = true) (s m : Addr) (h : Heap) :
    Con G (⟨"java/util/Objects", "requireNonNull", "(Ljava/lang/Object;Ljava/lang/String;)Ljava/lang/Object;"⟩ : MethodName) jdk_31_method_11_code 2 (some (.object "java/lang/Object")) rm6 #[(.ref s), (.ref m)] h (fun v h' => v = some (.ref s) ∧ h = h') := by
  refine Con.of (W := tables_1) (plainFor_of_name pn6) hw (fun mm => ef6 mm s m) (fun K C => ?_)
  have C : Cx G K "java/util/Objects" "requireNonNull" jdk_31_method_11_code 2 (some (.object "java/lang/Object")) tables_1 := C
  generalize hQ : (fun v h' => v = some (.ref s) ∧ h = h' : Option Value → Heap → Prop) = Q
  refine N.aloadN C (pc' := 1) d6_0 rfl rfl rfl ?_
  refine N.ifnonnull1 C (pc' := 13) d6_1 rfl ?_
  refine N.aloadN C (pc' := 14) d6_13 rfl rfl rfl ?_
  exact N.retA C rfl rfl d6_14 (by decide) (by decide) (by subst hQ; exact ⟨rfl, rfl⟩)
set_option maxRecDepth 65536 in
set_option maxHeartbeats 40000000 in
theorem con7 (G : Gx) (hw : ∀ d ∈ tables_1, d.before G.a0 G.Z = true) (x k s : Addr) (h : Heap) (Z0 : G.n0 ≤ h.size) (g_x : G.n0 ≤ x) (E_x : Exa G.Z h x "com/example/charterbook/charterbook/book/JsonValue") (F_x_kind : Fld G.Z h x "com/example/charterbook/charterbook/book/JsonValue" "kind" "Lcom/example/charterbook/charterbook/book/JsonValue$Kind;" .null) (F_x_members : Fld G.Z h x "com/example/charterbook/charterbook/book/JsonValue" "members" "Ljava/util/Map;" .null) (F_x_elements : Fld G.Z h x "com/example/charterbook/charterbook/book/JsonValue" "elements" "Ljava/util/List;" .null) (F_x_text : Fld G.Z h x "com/example/charterbook/charterbook/book/JsonValue" "text" "Ljava/lang/String;" .null) (F_x_number : Fld G.Z h x "com/example/charterbook/charterbook/book/JsonValue" "number" "Ljava/math/BigDecimal;" .null) (F_x_whole : Fld G.Z h x "com/example/charterbook/charterbook/book/JsonValue" "whole" "Z" (.int (0 : Int32))) :
    Con G (⟨"com/example/charterbook/charterbook/book/JsonValue", "<init>", "(Lcom/example/charterbook/charterbook/book/JsonValue$Kind;Ljava/util/Map;Ljava/util/List;Ljava/lang/String;Ljava/math/BigDecimal;Z)V"⟩ : MethodName) prog_21_method_1_code 7 none rm7 #[(.ref x), (.ref k), .null, .null, (.ref s), .null, (.int (0 : Int32))] h (fun v h' => v = none ∧ Keep h h' [x] ∧ Fld G.Z h' x "com/example/charterbook/charterbook/book/JsonValue" "kind" "Lcom/example/charterbook/charterbook/book/JsonValue$Kind;" (.ref k) ∧ Fld G.Z h' x "com/example/charterbook/charterbook/book/JsonValue" "text" "Ljava/lang/String;" (.ref s) ∧ Fld G.Z h' x "com/example/charterbook/charterbook/book/JsonValue" "whole" "Z" (.int (0 : Int32))) := by
  refine Con.of (W := tables_1) (plainFor_of_name pn7) hw (fun mm => ef7 mm x k s (0 : Int32)) (fun K C => ?_)
  have C : Cx G K "com/example/charterbook/charterbook/book/JsonValue" "<init>" prog_21_method_1_code 7 none tables_1 := C
  generalize hQ : (fun v h' => v = none ∧ Keep h h' [x] ∧ Fld G.Z h' x "com/example/charterbook/charterbook/book/JsonValue" "kind" "Lcom/example/charterbook/charterbook/book/JsonValue$Kind;" (.ref k) ∧ Fld G.Z h' x "com/example/charterbook/charterbook/book/JsonValue" "text" "Ljava/lang/String;" (.ref s) ∧ Fld G.Z h' x "com/example/charterbook/charterbook/book/JsonValue" "whole" "Z" (.int (0 : Int32)) : Option Value → Heap → Prop) = Q
  have K0 : Keep h h [x] := Keep.refl _ _
  refine N.aloadN C (pc' := 1) d7_0 rfl rfl rfl ?_
  refine N.initO C (pc' := 4) d7_1 (C.w (i := 44) rfl) (C.w (i := 16) rfl) (C.w (i := 17) rfl) rfl (by decide) (show 0 + 12 ≤ _ from by decide) rfl ?_
  refine N.aloadN C (pc' := 5) d7_4 rfl rfl rfl ?_
  refine N.aloadN C (pc' := 6) d7_5 rfl rfl rfl ?_
  refine N.putF C (pc' := 9) d7_6 (C.w (i := 45) rfl) F_x_kind E_x (Or.inr ⟨(C.w (i := 46) rfl), rfl, rfl⟩) (C.w (i := 31) rfl) (ty := (.object "com/example/charterbook/charterbook/book/JsonValue$Kind")) (by decide) rfl rfl g_x rfl (fun h6_1 W6 => ?_)
  have Z0 : G.n0 ≤ _ := (Wr.size W6).symm ▸ Z0
  have F_x_kind := F_x_kind.same W6
  have F_x_members := F_x_members.other W6 (Or.inr (slot_ne (Or.inr (C.w (i := 48) rfl)) (Or.inr (C.w (i := 46) rfl)) (by decide) (t := (.object "java/util/Map")) (t' := (.object "com/example/charterbook/charterbook/book/JsonValue$Kind")) (by decide) (by decide)))
  have F_x_elements := F_x_elements.other W6 (Or.inr (slot_ne (Or.inr (C.w (i := 50) rfl)) (Or.inr (C.w (i := 46) rfl)) (by decide) (t := (.object "java/util/List")) (t' := (.object "com/example/charterbook/charterbook/book/JsonValue$Kind")) (by decide) (by decide)))
  have F_x_text := F_x_text.other W6 (Or.inr (slot_ne (Or.inr (C.w (i := 52) rfl)) (Or.inr (C.w (i := 46) rfl)) (by decide) (t := (.object "java/lang/String")) (t' := (.object "com/example/charterbook/charterbook/book/JsonValue$Kind")) (by decide) (by decide)))
  have F_x_number := F_x_number.other W6 (Or.inr (slot_ne (Or.inr (C.w (i := 54) rfl)) (Or.inr (C.w (i := 46) rfl)) (by decide) (t := (.object "java/math/BigDecimal")) (t' := (.object "com/example/charterbook/charterbook/book/JsonValue$Kind")) (by decide) (by decide)))
  have F_x_whole := F_x_whole.other W6 (Or.inr (slot_ne (Or.inr (C.w (i := 56) rfl)) (Or.inr (C.w (i := 46) rfl)) (by decide) (t := .boolean) (t' := (.object "com/example/charterbook/charterbook/book/JsonValue$Kind")) (by decide) (by decide)))
  have E_x := E_x.wr W6
  have K0 := K0.wr W6 (Or.inl (List.mem_of_getElem? (i := 0) rfl))
  refine N.aloadN C (pc' := 10) d7_9 rfl rfl rfl ?_
  refine N.aloadN C (pc' := 11) d7_10 rfl rfl rfl ?_
  refine N.putF C (pc' := 14) d7_11 (C.w (i := 47) rfl) F_x_members E_x (Or.inr ⟨(C.w (i := 48) rfl), rfl, rfl⟩) (C.w (i := 31) rfl) (ty := (.object "java/util/Map")) (by decide) rfl rfl g_x rfl (fun h11_2 W11 => ?_)
  have Z0 : G.n0 ≤ _ := (Wr.size W11).symm ▸ Z0
  have F_x_kind := F_x_kind.other W11 (Or.inr (slot_ne (Or.inr (C.w (i := 46) rfl)) (Or.inr (C.w (i := 48) rfl)) (by decide) (t := (.object "com/example/charterbook/charterbook/book/JsonValue$Kind")) (t' := (.object "java/util/Map")) (by decide) (by decide)))
  have F_x_members := F_x_members.same W11
  have F_x_elements := F_x_elements.other W11 (Or.inr (slot_ne (Or.inr (C.w (i := 50) rfl)) (Or.inr (C.w (i := 48) rfl)) (by decide) (t := (.object "java/util/List")) (t' := (.object "java/util/Map")) (by decide) (by decide)))
  have F_x_text := F_x_text.other W11 (Or.inr (slot_ne (Or.inr (C.w (i := 52) rfl)) (Or.inr (C.w (i := 48) rfl)) (by decide) (t := (.object "java/lang/String")) (t' := (.object "java/util/Map")) (by decide) (by decide)))
  have F_x_number := F_x_number.other W11 (Or.inr (slot_ne (Or.inr (C.w (i := 54) rfl)) (Or.inr (C.w (i := 48) rfl)) (by decide) (t := (.object "java/math/BigDecimal")) (t' := (.object "java/util/Map")) (by decide) (by decide)))
  have F_x_whole := F_x_whole.other W11 (Or.inr (slot_ne (Or.inr (C.w (i := 56) rfl)) (Or.inr (C.w (i := 48) rfl)) (by decide) (t := .boolean) (t' := (.object "java/util/Map")) (by decide) (by decide)))
  have E_x := E_x.wr W11
  have K0 := K0.wr W11 (Or.inl (List.mem_of_getElem? (i := 0) rfl))
  refine N.aloadN C (pc' := 15) d7_14 rfl rfl rfl ?_
  refine N.aloadN C (pc' := 16) d7_15 rfl rfl rfl ?_
  refine N.putF C (pc' := 19) d7_16 (C.w (i := 49) rfl) F_x_elements E_x (Or.inr ⟨(C.w (i := 50) rfl), rfl, rfl⟩) (C.w (i := 31) rfl) (ty := (.object "java/util/List")) (by decide) rfl rfl g_x rfl (fun h16_3 W16 => ?_)
  have Z0 : G.n0 ≤ _ := (Wr.size W16).symm ▸ Z0
  have F_x_kind := F_x_kind.other W16 (Or.inr (slot_ne (Or.inr (C.w (i := 46) rfl)) (Or.inr (C.w (i := 50) rfl)) (by decide) (t := (.object "com/example/charterbook/charterbook/book/JsonValue$Kind")) (t' := (.object "java/util/List")) (by decide) (by decide)))
  have F_x_members := F_x_members.other W16 (Or.inr (slot_ne (Or.inr (C.w (i := 48) rfl)) (Or.inr (C.w (i := 50) rfl)) (by decide) (t := (.object "java/util/Map")) (t' := (.object "java/util/List")) (by decide) (by decide)))
  have F_x_elements := F_x_elements.same W16
  have F_x_text := F_x_text.other W16 (Or.inr (slot_ne (Or.inr (C.w (i := 52) rfl)) (Or.inr (C.w (i := 50) rfl)) (by decide) (t := (.object "java/lang/String")) (t' := (.object "java/util/List")) (by decide) (by decide)))
  have F_x_number := F_x_number.other W16 (Or.inr (slot_ne (Or.inr (C.w (i := 54) rfl)) (Or.inr (C.w (i := 50) rfl)) (by decide) (t := (.object "java/math/BigDecimal")) (t' := (.object "java/util/List")) (by decide) (by decide)))
  have F_x_whole := F_x_whole.other W16 (Or.inr (slot_ne (Or.inr (C.w (i := 56) rfl)) (Or.inr (C.w (i := 50) rfl)) (by decide) (t := .boolean) (t' := (.object "java/util/List")) (by decide) (by decide)))
  have E_x := E_x.wr W16
  have K0 := K0.wr W16 (Or.inl (List.mem_of_getElem? (i := 0) rfl))
  refine N.aloadN C (pc' := 20) d7_19 rfl rfl rfl ?_
  refine N.aload C (pc' := 22) d7_20 rfl rfl rfl ?_
  refine N.putF C (pc' := 25) d7_22 (C.w (i := 51) rfl) F_x_text E_x (Or.inr ⟨(C.w (i := 52) rfl), rfl, rfl⟩) (C.w (i := 31) rfl) (ty := (.object "java/lang/String")) (by decide) rfl rfl g_x rfl (fun h22_4 W22 => ?_)
  have Z0 : G.n0 ≤ _ := (Wr.size W22).symm ▸ Z0
  have F_x_kind := F_x_kind.other W22 (Or.inr (slot_ne (Or.inr (C.w (i := 46) rfl)) (Or.inr (C.w (i := 52) rfl)) (by decide) (t := (.object "com/example/charterbook/charterbook/book/JsonValue$Kind")) (t' := (.object "java/lang/String")) (by decide) (by decide)))
  have F_x_members := F_x_members.other W22 (Or.inr (slot_ne (Or.inr (C.w (i := 48) rfl)) (Or.inr (C.w (i := 52) rfl)) (by decide) (t := (.object "java/util/Map")) (t' := (.object "java/lang/String")) (by decide) (by decide)))
  have F_x_elements := F_x_elements.other W22 (Or.inr (slot_ne (Or.inr (C.w (i := 50) rfl)) (Or.inr (C.w (i := 52) rfl)) (by decide) (t := (.object "java/util/List")) (t' := (.object "java/lang/String")) (by decide) (by decide)))
  have F_x_text := F_x_text.same W22
  have F_x_number := F_x_number.other W22 (Or.inr (slot_ne (Or.inr (C.w (i := 54) rfl)) (Or.inr (C.w (i := 52) rfl)) (by decide) (t := (.object "java/math/BigDecimal")) (t' := (.object "java/lang/String")) (by decide) (by decide)))
  have F_x_whole := F_x_whole.other W22 (Or.inr (slot_ne (Or.inr (C.w (i := 56) rfl)) (Or.inr (C.w (i := 52) rfl)) (by decide) (t := .boolean) (t' := (.object "java/lang/String")) (by decide) (by decide)))
  have E_x := E_x.wr W22
  have K0 := K0.wr W22 (Or.inl (List.mem_of_getElem? (i := 0) rfl))
  refine N.aloadN C (pc' := 26) d7_25 rfl rfl rfl ?_
  refine N.aload C (pc' := 28) d7_26 rfl rfl rfl ?_
  refine N.putF C (pc' := 31) d7_28 (C.w (i := 53) rfl) F_x_number E_x (Or.inr ⟨(C.w (i := 54) rfl), rfl, rfl⟩) (C.w (i := 31) rfl) (ty := (.object "java/math/BigDecimal")) (by decide) rfl rfl g_x rfl (fun h28_5 W28 => ?_)
  have Z0 : G.n0 ≤ _ := (Wr.size W28).symm ▸ Z0
  have F_x_kind := F_x_kind.other W28 (Or.inr (slot_ne (Or.inr (C.w (i := 46) rfl)) (Or.inr (C.w (i := 54) rfl)) (by decide) (t := (.object "com/example/charterbook/charterbook/book/JsonValue$Kind")) (t' := (.object "java/math/BigDecimal")) (by decide) (by decide)))
  have F_x_members := F_x_members.other W28 (Or.inr (slot_ne (Or.inr (C.w (i := 48) rfl)) (Or.inr (C.w (i := 54) rfl)) (by decide) (t := (.object "java/util/Map")) (t' := (.object "java/math/BigDecimal")) (by decide) (by decide)))
  have F_x_elements := F_x_elements.other W28 (Or.inr (slot_ne (Or.inr (C.w (i := 50) rfl)) (Or.inr (C.w (i := 54) rfl)) (by decide) (t := (.object "java/util/List")) (t' := (.object "java/math/BigDecimal")) (by decide) (by decide)))
  have F_x_text := F_x_text.other W28 (Or.inr (slot_ne (Or.inr (C.w (i := 52) rfl)) (Or.inr (C.w (i := 54) rfl)) (by decide) (t := (.object "java/lang/String")) (t' := (.object "java/math/BigDecimal")) (by decide) (by decide)))
  have F_x_number := F_x_number.same W28
  have F_x_whole := F_x_whole.other W28 (Or.inr (slot_ne (Or.inr (C.w (i := 56) rfl)) (Or.inr (C.w (i := 54) rfl)) (by decide) (t := .boolean) (t' := (.object "java/math/BigDecimal")) (by decide) (by decide)))
  have E_x := E_x.wr W28
  have K0 := K0.wr W28 (Or.inl (List.mem_of_getElem? (i := 0) rfl))
  refine N.aloadN C (pc' := 32) d7_31 rfl rfl rfl ?_
  refine N.iload C (pc' := 34) d7_32 rfl rfl ?_
  refine N.putFN C (pc' := 37) (v' := (.int (0 : Int32))) d7_34 (C.w (i := 55) rfl) F_x_whole E_x (Or.inr ⟨(C.w (i := 56) rfl), rfl, rfl⟩) (C.w (i := 31) rfl) (ty := .boolean) (by decide) rfl (by decide) g_x rfl (fun h34_6 W34 => ?_)
  have Z0 : G.n0 ≤ _ := (Wr.size W34).symm ▸ Z0
  have F_x_kind := F_x_kind.other W34 (Or.inr (slot_ne (Or.inr (C.w (i := 46) rfl)) (Or.inr (C.w (i := 56) rfl)) (by decide) (t := (.object "com/example/charterbook/charterbook/book/JsonValue$Kind")) (t' := .boolean) (by decide) (by decide)))
  have F_x_members := F_x_members.other W34 (Or.inr (slot_ne (Or.inr (C.w (i := 48) rfl)) (Or.inr (C.w (i := 56) rfl)) (by decide) (t := (.object "java/util/Map")) (t' := .boolean) (by decide) (by decide)))
  have F_x_elements := F_x_elements.other W34 (Or.inr (slot_ne (Or.inr (C.w (i := 50) rfl)) (Or.inr (C.w (i := 56) rfl)) (by decide) (t := (.object "java/util/List")) (t' := .boolean) (by decide) (by decide)))
  have F_x_text := F_x_text.other W34 (Or.inr (slot_ne (Or.inr (C.w (i := 52) rfl)) (Or.inr (C.w (i := 56) rfl)) (by decide) (t := (.object "java/lang/String")) (t' := .boolean) (by decide) (by decide)))
  have F_x_number := F_x_number.other W34 (Or.inr (slot_ne (Or.inr (C.w (i := 54) rfl)) (Or.inr (C.w (i := 56) rfl)) (by decide) (t := (.object "java/math/BigDecimal")) (t' := .boolean) (by decide) (by decide)))
  have F_x_whole := F_x_whole.same W34
  have E_x := E_x.wr W34
  have K0 := K0.wr W34 (Or.inl (List.mem_of_getElem? (i := 0) rfl))
  exact N.ret0 C rfl d7_37 (by decide) (by decide) (by subst hQ; exact ⟨rfl, K0, F_x_kind, F_x_text, F_x_whole⟩)
set_option maxRecDepth 65536 in
set_option maxHeartbeats 40000000 in
theorem con5 (G : Gx) (hw : ∀ d ∈ tables_1, d.before G.a0 G.Z = true) (s : Addr) (cp : Int32) (kT kO kL kN kB kF : Addr) (h : Heap) (SS : Ss G cp kT kO kL kN kB kF) (O : Old G.Z G.n0 h) (Z0 : G.n0 ≤ h.size) (E_s : Exa G.Z h s "java/lang/String") :
    ConS G own_EL [] (⟨"com/example/charterbook/charterbook/book/JsonValue", "text", "(Ljava/lang/String;)Lcom/example/charterbook/charterbook/book/JsonValue;"⟩ : MethodName) prog_21_method_4_code 1 (some (.object "com/example/charterbook/charterbook/book/JsonValue")) rm5 #[(.ref s)] h (fun v h' => ∃ j : Addr, v = some (.ref j) ∧ h.size ≤ j ∧ Keep h h' [] ∧ Exa G.Z h' j "com/example/charterbook/charterbook/book/JsonValue" ∧ Fld G.Z h' j "com/example/charterbook/charterbook/book/JsonValue" "kind" "Lcom/example/charterbook/charterbook/book/JsonValue$Kind;" (.ref kT) ∧ Fld G.Z h' j "com/example/charterbook/charterbook/book/JsonValue" "text" "Ljava/lang/String;" (.ref s) ∧ Fld G.Z h' j "com/example/charterbook/charterbook/book/JsonValue" "whole" "Z" (.int (0 : Int32))) := by
  refine ConS.of (W := tables_1) (plainFor_of_name pn5) hw (own_ew hw) (fun mm => ef5 mm s) (fun K U C Sx => ?_)
  have C : Cx G K "com/example/charterbook/charterbook/book/JsonValue" "text" prog_21_method_4_code 1 (some (.object "com/example/charterbook/charterbook/book/JsonValue")) tables_1 := C
  generalize hQ : (fun v h' => ∃ j : Addr, v = some (.ref j) ∧ h.size ≤ j ∧ Keep h h' [] ∧ Exa G.Z h' j "com/example/charterbook/charterbook/book/JsonValue" ∧ Fld G.Z h' j "com/example/charterbook/charterbook/book/JsonValue" "kind" "Lcom/example/charterbook/charterbook/book/JsonValue$Kind;" (.ref kT) ∧ Fld G.Z h' j "com/example/charterbook/charterbook/book/JsonValue" "text" "Ljava/lang/String;" (.ref s) ∧ Fld G.Z h' j "com/example/charterbook/charterbook/book/JsonValue" "whole" "Z" (.int (0 : Int32)) : Option Value → Heap → Prop) = Q
  have K0 : Keep h h [] := Keep.refl _ _
  refine N.newO C (pc' := 3) d5_0 (C.w (i := 30) rfl) (C.w (i := 31) rfl) (C.w (i := 28) rfl) (by decide) (by decide) rfl (fun h0_1 j hx_j Ex0 E_j D_j => ?_)
  have ne_s_j : s ≠ j := by rw [hx_j]; exact Nat.ne_of_lt E_s.lt
  have ne_j_s := Ne.symm ne_s_j
  have g_j : G.n0 ≤ j := by rw [hx_j]; exact Z0
  have sz_j : h.size ≤ j := by rw [hx_j]; exact K0.1
  have Z0 := Nat.le_trans Z0 Ex0.1
  have O := O.ext Ex0
  have E_s := E_s.ext Ex0
  have K0 := K0.ext Ex0
  have Sx := Sx.born Ex0 hx_j E_j.lt
  have F_j_kind : Fld G.Z h0_1 j "com/example/charterbook/charterbook/book/JsonValue" "kind" "Lcom/example/charterbook/charterbook/book/JsonValue$Kind;" .null := D_j (Or.inr (C.w (i := 46) rfl)) (ty := (.object "com/example/charterbook/charterbook/book/JsonValue$Kind")) (by decide)
  have F_j_members : Fld G.Z h0_1 j "com/example/charterbook/charterbook/book/JsonValue" "members" "Ljava/util/Map;" .null := D_j (Or.inr (C.w (i := 48) rfl)) (ty := (.object "java/util/Map")) (by decide)
  have F_j_elements : Fld G.Z h0_1 j "com/example/charterbook/charterbook/book/JsonValue" "elements" "Ljava/util/List;" .null := D_j (Or.inr (C.w (i := 50) rfl)) (ty := (.object "java/util/List")) (by decide)
  have F_j_text : Fld G.Z h0_1 j "com/example/charterbook/charterbook/book/JsonValue" "text" "Ljava/lang/String;" .null := D_j (Or.inr (C.w (i := 52) rfl)) (ty := (.object "java/lang/String")) (by decide)
  have F_j_number : Fld G.Z h0_1 j "com/example/charterbook/charterbook/book/JsonValue" "number" "Ljava/math/BigDecimal;" .null := D_j (Or.inr (C.w (i := 54) rfl)) (ty := (.object "java/math/BigDecimal")) (by decide)
  have F_j_whole : Fld G.Z h0_1 j "com/example/charterbook/charterbook/book/JsonValue" "whole" "Z" (.int (0 : Int32)) := D_j (Or.inr (C.w (i := 56) rfl)) (ty := .boolean) (by decide)
  refine N.dup C (pc' := 4) d5_3 rfl rfl ?_
  have S_TEXT := SS.s4.ext O.2
  refine N.getS C (pc' := 7) d5_4 (C.w (i := 32) rfl) S_TEXT rfl ?_
  refine N.aconst_null C (pc' := 8) d5_7 rfl ?_
  refine N.aconst_null C (pc' := 9) d5_8 rfl ?_
  refine N.aloadN C (pc' := 10) d5_9 rfl rfl rfl ?_
  refine N.ldcS C Sx (vs := [.int 39, .int 116, .int 101, .int 120, .int 116, .int 39, .int 32, .int 105, .int 115, .int 32, .int 114, .int 101, .int 113, .int 117, .int 105, .int 114, .int 101, .int 100, .int 46]) 76 d5_10 (C.w (i := 35) rfl) (own_SA hw) (by decide) ⟨by decide, rfl⟩ (z := 19) (by decide) (by decide) (by decide) (by decide) (by decide) (by decide) rfl (fun K h10_2 m ym C Sx Ex10 E_m F_m_coder F_m_value A_ym ne_m => ?_)
  have Z0 := Nat.le_trans Z0 Ex10.1
  have O := O.ext Ex10
  have F_j_kind := F_j_kind.ext Ex10
  have F_j_members := F_j_members.ext Ex10
  have F_j_elements := F_j_elements.ext Ex10
  have F_j_text := F_j_text.ext Ex10
  have F_j_number := F_j_number.ext Ex10
  have F_j_whole := F_j_whole.ext Ex10
  have E_s := E_s.ext Ex10
  have E_j := E_j.ext Ex10
  have K0 := K0.ext Ex10
  have ne_j_m := (ne_m j (List.mem_of_getElem? (i := 0) rfl)).1
  have ne_j_ym := (ne_m j (List.mem_of_getElem? (i := 0) rfl)).2
  have ne_m_j := Ne.symm ne_j_m
  have ne_ym_j := Ne.symm ne_j_ym
  show NS G K own_EL U rm5 Q h10_2 ((0 + 1) + 2) ((0 + 6) + (76 + 4)) 12 #[.val (.ref s)] [(.ref m), (.ref s), .null, .null, (.ref kT), (.ref j), (.ref j)]
  refine N.callS C (pc' := 15) [(.ref s), (.ref m)] d5_12 (C.w (i := 36) rfl) (C.w (i := 37) rfl) (C.w (i := 38) rfl) (C.w (i := 39) rfl) (by decide) (con6 G hw s m h10_2) (lenOf pd__Ljava_lang_Object_Ljava_lang_String__Ljava_lang_Object_ rfl) rfl (by decide) (show 5 + (2 + 11) + _ ≤ _ from by decide) (by decide) (by decide) (rest := [.null, .null, (.ref kT), (.ref j), (.ref j)]) rfl rfl ?_
  rintro _ h12_3 ⟨rfl, rfl⟩
  show NS G K own_EL U rm5 Q h10_2 ((0 + 1) + 2) ((0 + 6) + (76 + 4)) 15 #[.val (.ref s)] [(.ref s), .null, .null, (.ref kT), (.ref j), (.ref j)]
  refine N.checkcast C (pc' := 18) d5_15 (C.w (i := 40) rfl) (Ins.self E_s) rfl ?_
  refine N.aconst_null C (pc' := 19) d5_18 rfl ?_
  refine N.iconst C (pc' := 20) (z := 0) d5_19 rfl rfl ?_
  refine N.callI C (pc' := 23) j [(.ref kT), .null, .null, (.ref s), .null, (.int (0 : Int32))] d5_20 rfl (C.w (i := 41) rfl) (C.w (i := 42) rfl) (C.w (i := 28) rfl) (C.w (i := 43) rfl) (by decide) (con7 G hw j kT s h10_2 Z0 g_j E_j F_j_kind F_j_members F_j_elements F_j_text F_j_number F_j_whole) (lenOf pd__Lcom_example_charterbook_charterbook_book_JsonValue_Kind_Ljava_util_Map_Ljava_util_List_Ljava_lang_String_Ljava_math_BigDecimal_Z_V rfl) rfl (by decide) (show 1 + (7 + 11) + _ ≤ _ from by decide) (by decide) (by decide) (rest := [(.ref j)]) rfl rfl ?_
  rintro _ h20_4 ⟨rfl, KpJ, FK, FT, FW⟩
  have Sx := Sx.keep KpJ (allS (List.mem_of_getElem? (i := 0) rfl) all0)
  have O := O.keep KpJ (allS g_j all0)
  have Z0 := Nat.le_trans Z0 KpJ.1
  have F_m_coder := F_m_coder.keep KpJ (ninS ne_m_j nin0)
  have F_m_value := F_m_value.keep KpJ (ninS ne_m_j nin0)
  have E_s := E_s.keep KpJ
  have E_j := E_j.keep KpJ
  have E_m := E_m.keep KpJ
  have A_ym := A_ym.keep KpJ (ninS ne_ym_j nin0)
  have K0 := K0.trans KpJ (allS (Or.inr sz_j) all0)
  show NS G K own_EL U rm5 Q h20_4 ((0 + 1) + 2) ((0 + 6) + (76 + 4)) 23 #[.val (.ref s)] [(.ref j)]
  exact N.retAS C Sx rfl rfl d5_23 (by decide) (by decide) (by subst hQ; exact ⟨j, rfl, sz_j, K0, E_j, FK, FT, FW⟩)
set_option maxRecDepth 65536 in
set_option maxHeartbeats 40000000 in
theorem con9 (G : Gx) (hw : ∀ d ∈ tables_1, d.before G.a0 G.Z = true) (x k : Addr) (h : Heap) (F_x_kind : Fld G.Z h x "com/example/charterbook/charterbook/book/JsonValue" "kind" "Lcom/example/charterbook/charterbook/book/JsonValue$Kind;" (.ref k)) :
    Con G (⟨"com/example/charterbook/charterbook/book/JsonValue", "requireKind", "(Lcom/example/charterbook/charterbook/book/JsonValue$Kind;)V"⟩ : MethodName) prog_21_method_31_code 2 none rm9 #[(.ref x), (.ref k)] h (fun v h' => v = none ∧ h = h') := by
  refine Con.of (W := tables_1) (plainFor_of_name pn9) hw (fun mm => ef9 mm x k) (fun K C => ?_)
  have C : Cx G K "com/example/charterbook/charterbook/book/JsonValue" "requireKind" prog_21_method_31_code 2 none tables_1 := C
  generalize hQ : (fun v h' => v = none ∧ h = h' : Option Value → Heap → Prop) = Q
  refine N.aloadN C (pc' := 1) d9_0 rfl rfl rfl ?_
  refine N.getF C (pc' := 4) d9_1 (C.w (i := 45) rfl) F_x_kind rfl ?_
  refine N.aloadN C (pc' := 5) d9_4 rfl rfl rfl ?_
  refine N.acmp C (pc' := 32) true d9_5 rfl rfl (decide_eq_true rfl) (by decide) (by decide) ?_
  exact N.ret0 C rfl d9_32 (by decide) (by decide) (by subst hQ; exact ⟨rfl, rfl⟩)
set_option maxRecDepth 65536 in
set_option maxHeartbeats 40000000 in
theorem con8 (G : Gx) (hw : ∀ d ∈ tables_1, d.before G.a0 G.Z = true) (x s : Addr) (cp : Int32) (kT kO kL kN kB kF : Addr) (h : Heap) (SS : Ss G cp kT kO kL kN kB kF) (O : Old G.Z G.n0 h) (E_x : Exa G.Z h x "com/example/charterbook/charterbook/book/JsonValue") (F_x_kind : Fld G.Z h x "com/example/charterbook/charterbook/book/JsonValue" "kind" "Lcom/example/charterbook/charterbook/book/JsonValue$Kind;" (.ref kT)) (F_x_text : Fld G.Z h x "com/example/charterbook/charterbook/book/JsonValue" "text" "Ljava/lang/String;" (.ref s)) (F_x_whole : Fld G.Z h x "com/example/charterbook/charterbook/book/JsonValue" "whole" "Z" (.int (0 : Int32))) :
    Con G (⟨"com/example/charterbook/charterbook/book/JsonValue", "text", "()Ljava/lang/String;"⟩ : MethodName) prog_21_method_20_code 1 (some (.object "java/lang/String")) rm8 #[(.ref x)] h (fun v h' => v = some (.ref s) ∧ h = h') := by
  refine Con.of (W := tables_1) (plainFor_of_name pn8) hw (fun mm => ef8 mm x) (fun K C => ?_)
  have C : Cx G K "com/example/charterbook/charterbook/book/JsonValue" "text" prog_21_method_20_code 1 (some (.object "java/lang/String")) tables_1 := C
  generalize hQ : (fun v h' => v = some (.ref s) ∧ h = h' : Option Value → Heap → Prop) = Q
  refine N.aloadN C (pc' := 1) d8_0 rfl rfl rfl ?_
  have S_TEXT := SS.s4.ext O.2
  refine N.getS C (pc' := 4) d8_1 (C.w (i := 32) rfl) S_TEXT rfl ?_
  refine N.callP C (pc' := 7) x [(.ref kT)] d8_4 (C.w (i := 62) rfl) (C.w (i := 64) rfl) (Jvm.Kit.selects_private (by decide) (C.w (i := 31) rfl) (C.w (i := 64) rfl) (C.w (i := 63) rfl)) (C.w (i := 63) rfl) (C.w (i := 28) rfl) (C.w (i := 65) rfl) (by decide) E_x (con9 G hw x kT h F_x_kind) (lenOf pd__Lcom_example_charterbook_charterbook_book_JsonValue_Kind__V rfl) rfl (by decide) (show 0 + (2 + 11) + _ ≤ _ from by decide) (by decide) (by decide) (rest := []) rfl rfl ?_
  rintro _ h4_1 ⟨rfl, rfl⟩
  show N G K rm8 Q h 0 0 7 #[.val (.ref x)] []
  refine N.aloadN C (pc' := 8) d8_7 rfl rfl rfl ?_
  refine N.getF C (pc' := 11) d8_8 (C.w (i := 51) rfl) F_x_text rfl ?_
  exact N.retA C rfl rfl d8_11 (by decide) (by decide) (by subst hQ; exact ⟨rfl, rfl⟩)
set_option maxRecDepth 65536 in
set_option maxHeartbeats 40000000 in
theorem con10 (G : Gx) (hw : ∀ d ∈ tables_1, d.before G.a0 G.Z = true) (x s : Addr) (cp : Int32) (kT kO kL kN kB kF : Addr) (h : Heap) (SS : Ss G cp kT kO kL kN kB kF) (O : Old G.Z G.n0 h) (E_x : Exa G.Z h x "com/example/charterbook/charterbook/book/JsonValue") (F_x_kind : Fld G.Z h x "com/example/charterbook/charterbook/book/JsonValue" "kind" "Lcom/example/charterbook/charterbook/book/JsonValue$Kind;" (.ref kT)) (F_x_text : Fld G.Z h x "com/example/charterbook/charterbook/book/JsonValue" "text" "Ljava/lang/String;" (.ref s)) (F_x_whole : Fld G.Z h x "com/example/charterbook/charterbook/book/JsonValue" "whole" "Z" (.int (0 : Int32))) :
    Con G (⟨"com/example/charterbook/charterbook/book/JsonValue", "isText", "()Z"⟩ : MethodName) prog_21_method_11_code 1 (some .boolean) rm10 #[(.ref x)] h (fun v h' => v = some (.int 1) ∧ h = h') := by
  refine Con.of (W := tables_1) (plainFor_of_name pn10) hw (fun mm => ef10 mm x) (fun K C => ?_)
  have C : Cx G K "com/example/charterbook/charterbook/book/JsonValue" "isText" prog_21_method_11_code 1 (some .boolean) tables_1 := C
  generalize hQ : (fun v h' => v = some (.int 1) ∧ h = h' : Option Value → Heap → Prop) = Q
  have S_TEXT := SS.s4.ext O.2
  have S_OBJECT := SS.s5.ext O.2
  have S_LIST := SS.s6.ext O.2
  have S_NUMBER := SS.s7.ext O.2
  have S_TRUE := SS.s8.ext O.2
  have S_FALSE := SS.s9.ext O.2
  have ne_kT_kO := SS.n1
  have ne_kT_kL := SS.n2
  have ne_kT_kN := SS.n3
  have ne_kT_kB := SS.n4
  have ne_kT_kF := SS.n5
  refine N.aloadN C (pc' := 1) d10_0 rfl rfl rfl ?_
  refine N.getF C (pc' := 4) d10_1 (C.w (i := 45) rfl) F_x_kind rfl ?_
  refine N.getS C (pc' := 7) d10_4 (C.w (i := 32) rfl) S_TEXT rfl ?_
  refine N.acmp C (pc' := 10) true d10_7 rfl rfl (decide_eq_true rfl) (by decide) (by decide) ?_
  refine N.iconst C (pc' := 11) (z := 1) d10_10 rfl rfl ?_
  refine N.goto C (pc' := 15) d10_11 rfl ?_
  exact N.retN C (by simp) (z' := (1 : Int32)) rfl d10_15 (by decide) (by decide) (by subst hQ; exact ⟨rfl, rfl⟩)
set_option maxRecDepth 65536 in
set_option maxHeartbeats 40000000 in
theorem con15 (G : Gx) (hw : ∀ d ∈ tables_1, d.before G.a0 G.Z = true) (x s : Addr) (cp : Int32) (kT kO kL kN kB kF : Addr) (h : Heap) (SS : Ss G cp kT kO kL kN kB kF) (O : Old G.Z G.n0 h) (E_x : Exa G.Z h x "com/example/charterbook/charterbook/book/JsonValue") (F_x_kind : Fld G.Z h x "com/example/charterbook/charterbook/book/JsonValue" "kind" "Lcom/example/charterbook/charterbook/book/JsonValue$Kind;" (.ref kT)) (F_x_text : Fld G.Z h x "com/example/charterbook/charterbook/book/JsonValue" "text" "Ljava/lang/String;" (.ref s)) (F_x_whole : Fld G.Z h x "com/example/charterbook/charterbook/book/JsonValue" "whole" "Z" (.int (0 : Int32))) :
    Con G (⟨"com/example/charterbook/charterbook/book/JsonValue", "isObject", "()Z"⟩ : MethodName) prog_21_method_9_code 1 (some .boolean) rm15 #[(.ref x)] h (fun v h' => v = some (.int 0) ∧ h = h') := by
  refine Con.of (W := tables_1) (plainFor_of_name pn15) hw (fun mm => ef15 mm x) (fun K C => ?_)
  have C : Cx G K "com/example/charterbook/charterbook/book/JsonValue" "isObject" prog_21_method_9_code 1 (some .boolean) tables_1 := C
  generalize hQ : (fun v h' => v = some (.int 0) ∧ h = h' : Option Value → Heap → Prop) = Q
  have S_TEXT := SS.s4.ext O.2
  have S_OBJECT := SS.s5.ext O.2
  have S_LIST := SS.s6.ext O.2
  have S_NUMBER := SS.s7.ext O.2
  have S_TRUE := SS.s8.ext O.2
  have S_FALSE := SS.s9.ext O.2
  have ne_kT_kO := SS.n1
  have ne_kT_kL := SS.n2
  have ne_kT_kN := SS.n3
  have ne_kT_kB := SS.n4
  have ne_kT_kF := SS.n5
  refine N.aloadN C (pc' := 1) d15_0 rfl rfl rfl ?_
  refine N.getF C (pc' := 4) d15_1 (C.w (i := 45) rfl) F_x_kind rfl ?_
  refine N.getS C (pc' := 7) d15_4 (C.w (i := 97) rfl) S_OBJECT rfl ?_
  refine N.acmp C (pc' := 14) false d15_7 rfl rfl (decide_eq_false fun q => ne_kT_kO (Value.ref.inj q)) (by decide) (by decide) ?_
  refine N.iconst C (pc' := 15) (z := 0) d15_14 rfl rfl ?_
  exact N.retN C (by simp) (z' := (0 : Int32)) rfl d15_15 (by decide) (by decide) (by subst hQ; exact ⟨rfl, rfl⟩)
set_option maxRecDepth 65536 in
set_option maxHeartbeats 40000000 in
theorem con16 (G : Gx) (hw : ∀ d ∈ tables_1, d.before G.a0 G.Z = true) (x s : Addr) (cp : Int32) (kT kO kL kN kB kF : Addr) (h : Heap) (SS : Ss G cp kT kO kL kN kB kF) (O : Old G.Z G.n0 h) (E_x : Exa G.Z h x "com/example/charterbook/charterbook/book/JsonValue") (F_x_kind : Fld G.Z h x "com/example/charterbook/charterbook/book/JsonValue" "kind" "Lcom/example/charterbook/charterbook/book/JsonValue$Kind;" (.ref kT)) (F_x_text : Fld G.Z h x "com/example/charterbook/charterbook/book/JsonValue" "text" "Ljava/lang/String;" (.ref s)) (F_x_whole : Fld G.Z h x "com/example/charterbook/charterbook/book/JsonValue" "whole" "Z" (.int (0 : Int32))) :
    Con G (⟨"com/example/charterbook/charterbook/book/JsonValue", "isList", "()Z"⟩ : MethodName) prog_21_method_10_code 1 (some .boolean) rm16 #[(.ref x)] h (fun v h' => v = some (.int 0) ∧ h = h') := by
  refine Con.of (W := tables_1) (plainFor_of_name pn16) hw (fun mm => ef16 mm x) (fun K C => ?_)
  have C : Cx G K "com/example/charterbook/charterbook/book/JsonValue" "isList" prog_21_method_10_code 1 (some .boolean) tables_1 := C
  generalize hQ : (fun v h' => v = some (.int 0) ∧ h = h' : Option Value → Heap → Prop) = Q
  have S_TEXT := SS.s4.ext O.2
  have S_OBJECT := SS.s5.ext O.2
  have S_LIST := SS.s6.ext O.2
  have S_NUMBER := SS.s7.ext O.2
  have S_TRUE := SS.s8.ext O.2
  have S_FALSE := SS.s9.ext O.2
  have ne_kT_kO := SS.n1
  have ne_kT_kL := SS.n2
  have ne_kT_kN := SS.n3
  have ne_kT_kB := SS.n4
  have ne_kT_kF := SS.n5
  refine N.aloadN C (pc' := 1) d16_0 rfl rfl rfl ?_
  refine N.getF C (pc' := 4) d16_1 (C.w (i := 45) rfl) F_x_kind rfl ?_
  refine N.getS C (pc' := 7) d16_4 (C.w (i := 104) rfl) S_LIST rfl ?_
  refine N.acmp C (pc' := 14) false d16_7 rfl rfl (decide_eq_false fun q => ne_kT_kL (Value.ref.inj q)) (by decide) (by decide) ?_
  refine N.iconst C (pc' := 15) (z := 0) d16_14 rfl rfl ?_
  exact N.retN C (by simp) (z' := (0 : Int32)) rfl d16_15 (by decide) (by decide) (by subst hQ; exact ⟨rfl, rfl⟩)
set_option maxRecDepth 65536 in
set_option maxHeartbeats 40000000 in
theorem con17 (G : Gx) (hw : ∀ d ∈ tables_1, d.before G.a0 G.Z = true) (x s : Addr) (cp : Int32) (kT kO kL kN kB kF : Addr) (h : Heap) (SS : Ss G cp kT kO kL kN kB kF) (O : Old G.Z G.n0 h) (E_x : Exa G.Z h x "com/example/charterbook/charterbook/book/JsonValue") (F_x_kind : Fld G.Z h x "com/example/charterbook/charterbook/book/JsonValue" "kind" "Lcom/example/charterbook/charterbook/book/JsonValue$Kind;" (.ref kT)) (F_x_text : Fld G.Z h x "com/example/charterbook/charterbook/book/JsonValue" "text" "Ljava/lang/String;" (.ref s)) (F_x_whole : Fld G.Z h x "com/example/charterbook/charterbook/book/JsonValue" "whole" "Z" (.int (0 : Int32))) :
    Con G (⟨"com/example/charterbook/charterbook/book/JsonValue", "isNumber", "()Z"⟩ : MethodName) prog_21_method_12_code 1 (some .boolean) rm17 #[(.ref x)] h (fun v h' => v = some (.int 0) ∧ h = h') := by
  refine Con.of (W := tables_1) (plainFor_of_name pn17) hw (fun mm => ef17 mm x) (fun K C => ?_)
  have C : Cx G K "com/example/charterbook/charterbook/book/JsonValue" "isNumber" prog_21_method_12_code 1 (some .boolean) tables_1 := C
  generalize hQ : (fun v h' => v = some (.int 0) ∧ h = h' : Option Value → Heap → Prop) = Q
  have S_TEXT := SS.s4.ext O.2
  have S_OBJECT := SS.s5.ext O.2
  have S_LIST := SS.s6.ext O.2
  have S_NUMBER := SS.s7.ext O.2
  have S_TRUE := SS.s8.ext O.2
  have S_FALSE := SS.s9.ext O.2
  have ne_kT_kO := SS.n1
  have ne_kT_kL := SS.n2
  have ne_kT_kN := SS.n3
  have ne_kT_kB := SS.n4
  have ne_kT_kF := SS.n5
  refine N.aloadN C (pc' := 1) d17_0 rfl rfl rfl ?_
  refine N.getF C (pc' := 4) d17_1 (C.w (i := 45) rfl) F_x_kind rfl ?_
  refine N.getS C (pc' := 7) d17_4 (C.w (i := 111) rfl) S_NUMBER rfl ?_
  refine N.acmp C (pc' := 14) false d17_7 rfl rfl (decide_eq_false fun q => ne_kT_kN (Value.ref.inj q)) (by decide) (by decide) ?_
  refine N.iconst C (pc' := 15) (z := 0) d17_14 rfl rfl ?_
  exact N.retN C (by simp) (z' := (0 : Int32)) rfl d17_15 (by decide) (by decide) (by subst hQ; exact ⟨rfl, rfl⟩)
set_option maxRecDepth 65536 in
set_option maxHeartbeats 40000000 in
theorem con18 (G : Gx) (hw : ∀ d ∈ tables_1, d.before G.a0 G.Z = true) (x s : Addr) (cp : Int32) (kT kO kL kN kB kF : Addr) (h : Heap) (SS : Ss G cp kT kO kL kN kB kF) (O : Old G.Z G.n0 h) (E_x : Exa G.Z h x "com/example/charterbook/charterbook/book/JsonValue") (F_x_kind : Fld G.Z h x "com/example/charterbook/charterbook/book/JsonValue" "kind" "Lcom/example/charterbook/charterbook/book/JsonValue$Kind;" (.ref kT)) (F_x_text : Fld G.Z h x "com/example/charterbook/charterbook/book/JsonValue" "text" "Ljava/lang/String;" (.ref s)) (F_x_whole : Fld G.Z h x "com/example/charterbook/charterbook/book/JsonValue" "whole" "Z" (.int (0 : Int32))) :
    Con G (⟨"com/example/charterbook/charterbook/book/JsonValue", "isWholeNumber", "()Z"⟩ : MethodName) prog_21_method_13_code 1 (some .boolean) rm18 #[(.ref x)] h (fun v h' => v = some (.int 0) ∧ h = h') := by
  refine Con.of (W := tables_1) (plainFor_of_name pn18) hw (fun mm => ef18 mm x) (fun K C => ?_)
  have C : Cx G K "com/example/charterbook/charterbook/book/JsonValue" "isWholeNumber" prog_21_method_13_code 1 (some .boolean) tables_1 := C
  generalize hQ : (fun v h' => v = some (.int 0) ∧ h = h' : Option Value → Heap → Prop) = Q
  have S_TEXT := SS.s4.ext O.2
  have S_OBJECT := SS.s5.ext O.2
  have S_LIST := SS.s6.ext O.2
  have S_NUMBER := SS.s7.ext O.2
  have S_TRUE := SS.s8.ext O.2
  have S_FALSE := SS.s9.ext O.2
  have ne_kT_kO := SS.n1
  have ne_kT_kL := SS.n2
  have ne_kT_kN := SS.n3
  have ne_kT_kB := SS.n4
  have ne_kT_kF := SS.n5
  refine N.aloadN C (pc' := 1) d18_0 rfl rfl rfl ?_
  refine N.getF C (pc' := 4) d18_1 (C.w (i := 45) rfl) F_x_kind rfl ?_
  refine N.getS C (pc' := 7) d18_4 (C.w (i := 111) rfl) S_NUMBER rfl ?_
  refine N.acmp C (pc' := 21) false d18_7 rfl rfl (decide_eq_false fun q => ne_kT_kN (Value.ref.inj q)) (by decide) (by decide) ?_
  refine N.iconst C (pc' := 22) (z := 0) d18_21 rfl rfl ?_
  exact N.retN C (by simp) (z' := (0 : Int32)) rfl d18_22 (by decide) (by decide) (by subst hQ; exact ⟨rfl, rfl⟩)
set_option maxRecDepth 65536 in
set_option maxHeartbeats 40000000 in
theorem con19 (G : Gx) (hw : ∀ d ∈ tables_1, d.before G.a0 G.Z = true) (x s : Addr) (cp : Int32) (kT kO kL kN kB kF : Addr) (h : Heap) (SS : Ss G cp kT kO kL kN kB kF) (O : Old G.Z G.n0 h) (E_x : Exa G.Z h x "com/example/charterbook/charterbook/book/JsonValue") (F_x_kind : Fld G.Z h x "com/example/charterbook/charterbook/book/JsonValue" "kind" "Lcom/example/charterbook/charterbook/book/JsonValue$Kind;" (.ref kT)) (F_x_text : Fld G.Z h x "com/example/charterbook/charterbook/book/JsonValue" "text" "Ljava/lang/String;" (.ref s)) (F_x_whole : Fld G.Z h x "com/example/charterbook/charterbook/book/JsonValue" "whole" "Z" (.int (0 : Int32))) :
    Con G (⟨"com/example/charterbook/charterbook/book/JsonValue", "isBoolean", "()Z"⟩ : MethodName) prog_21_method_14_code 1 (some .boolean) rm19 #[(.ref x)] h (fun v h' => v = some (.int 0) ∧ h = h') := by
  refine Con.of (W := tables_1) (plainFor_of_name pn19) hw (fun mm => ef19 mm x) (fun K C => ?_)
  have C : Cx G K "com/example/charterbook/charterbook/book/JsonValue" "isBoolean" prog_21_method_14_code 1 (some .boolean) tables_1 := C
  generalize hQ : (fun v h' => v = some (.int 0) ∧ h = h' : Option Value → Heap → Prop) = Q
  have S_TEXT := SS.s4.ext O.2
  have S_OBJECT := SS.s5.ext O.2
  have S_LIST := SS.s6.ext O.2
  have S_NUMBER := SS.s7.ext O.2
  have S_TRUE := SS.s8.ext O.2
  have S_FALSE := SS.s9.ext O.2
  have ne_kT_kO := SS.n1
  have ne_kT_kL := SS.n2
  have ne_kT_kN := SS.n3
  have ne_kT_kB := SS.n4
  have ne_kT_kF := SS.n5
  refine N.aloadN C (pc' := 1) d19_0 rfl rfl rfl ?_
  refine N.getF C (pc' := 4) d19_1 (C.w (i := 45) rfl) F_x_kind rfl ?_
  refine N.getS C (pc' := 7) d19_4 (C.w (i := 123) rfl) S_TRUE rfl ?_
  refine N.acmp C (pc' := 10) false d19_7 rfl rfl (decide_eq_false fun q => ne_kT_kB (Value.ref.inj q)) (by decide) (by decide) ?_
  refine N.aloadN C (pc' := 11) d19_10 rfl rfl rfl ?_
  refine N.getF C (pc' := 14) d19_11 (C.w (i := 45) rfl) F_x_kind rfl ?_
  refine N.getS C (pc' := 17) d19_14 (C.w (i := 125) rfl) S_FALSE rfl ?_
  refine N.acmp C (pc' := 24) false d19_17 rfl rfl (decide_eq_false fun q => ne_kT_kF (Value.ref.inj q)) (by decide) (by decide) ?_
  refine N.iconst C (pc' := 25) (z := 0) d19_24 rfl rfl ?_
  exact N.retN C (by simp) (z' := (0 : Int32)) rfl d19_25 (by decide) (by decide) (by subst hQ; exact ⟨rfl, rfl⟩)
set_option maxRecDepth 65536 in
set_option maxHeartbeats 40000000 in
theorem con12 (G : Gx) (hw : ∀ d ∈ tables_1, d.before G.a0 G.Z = true) (a b : Addr) (zs : List Int32) (h : Heap) (h6 : zs.length ≤ 6) (A_a : Av G.Z h a .byte (zs.map .int)) (A_b : Av G.Z h b .byte (zs.map .int)) :
    Con G (⟨"java/lang/StringLatin1", "equals", "([B[B)Z"⟩ : MethodName) jdk_43_method_13_code 3 (some .boolean) rm12 #[(.ref a), (.ref b)] h (fun v h' => v = some (.int 1) ∧ h = h') := by
  refine Con.of (W := tables_1) (plainFor_of_name pn12) hw (fun mm => ef12 mm a b) (fun K C => ?_)
  have C : Cx G K "java/lang/StringLatin1" "equals" jdk_43_method_13_code 3 (some .boolean) tables_1 := C
  generalize hQ : (fun v h' => v = some (.int 1) ∧ h = h' : Option Value → Heap → Prop) = Q
  obtain ⟨m, hm⟩ : ∃ m : Int32, m.toInt = (zs.length : Nat) := ⟨Int32.ofNat zs.length, Int32.toInt_ofNat_of_lt (by omega)⟩
  have len_a : m.toInt = ((zs.map Value.int).length : Nat) := by rw [List.length_map]; exact hm
  have len_b := len_a
  refine N.aloadN C (pc' := 1) d12_0 rfl rfl rfl ?_
  refine N.alen C (pc' := 2) (n := m) d12_1 A_a len_a rfl ?_
  refine N.aloadN C (pc' := 3) d12_2 rfl rfl rfl ?_
  refine N.alen C (pc' := 4) (n := m) d12_3 A_b len_b rfl ?_
  refine N.icmp C (pt := 34) (pf := 7) d12_4 rfl rfl (fun (hc4 : ¬ m = m) => absurd (show False from by exact hc4 rfl) id) (fun (hc4 : m = m) => ?_)
  refine N.iconst C (pc' := 8) (z := 0) d12_7 rfl rfl ?_
  refine N.istoreN C (pc' := 9) (ls' := #[.val (.ref a), .val (.ref b), .val (.int (0 : Int32))]) d12_8 rfl rfl ?_
  have loop : ∀ (q : Nat) (i : Int32) (k : Nat), zs.length - k ≤ q → i.toInt = (k : Nat) → k ≤ zs.length → N G K rm12 Q h 0 0 9 #[.val (.ref a), .val (.ref b), .val (.int i)] [] := by
    intro q
    induction q using Nat.strongRecOn with
    | _ q ih =>
    intro i k hq hi hk
    refine N.iloadN C (pc' := 10) d12_9 rfl rfl ?_
    refine N.aloadN C (pc' := 11) d12_10 rfl rfl rfl ?_
    refine N.alen C (pc' := 12) (n := m) d12_11 A_a len_a rfl ?_
    refine N.icmp C (pt := 32) (pf := 15) d12_12 rfl rfl (fun (hc12 : m.toInt ≤ i.toInt) => ?_) (fun (hc12 : i.toInt < m.toInt) => ?_)
    · refine N.iconst C (pc' := 33) (z := 1) d12_32 rfl rfl ?_
      exact N.retN C (by simp) (z' := (1 : Int32)) rfl d12_33 (by decide) (by decide) (by subst hQ; exact ⟨rfl, rfl⟩)
    · refine N.aloadN C (pc' := 16) d12_15 rfl rfl rfl ?_
      refine N.iloadN C (pc' := 17) d12_16 rfl rfl ?_
      obtain ⟨z, hz⟩ := own_at zs (k := k) (by omega)
      refine N.baload C (pc' := 18) (i := k) (v := (.int z)) d12_17 A_a hi (own_pm hz) rfl ?_
      refine N.aloadN C (pc' := 19) d12_18 rfl rfl rfl ?_
      refine N.iloadN C (pc' := 20) d12_19 rfl rfl ?_
      refine N.baload C (pc' := 21) (i := k) (v := (.int z)) d12_20 A_b hi (own_pm hz) rfl ?_
      refine N.icmp C (pt := 26) (pf := 24) d12_21 rfl rfl (fun (hc21 : z = z) => ?_) (fun (hc21 : ¬ z = z) => absurd (show False from by exact hc21 rfl) id)
      refine N.iinc C (pc' := 29) (z := 1) (ls' := #[.val (.ref a), .val (.ref b), .val (.int (i + (1 : Int32)))]) d12_26 rfl rfl rfl rfl ?_
      refine N.goto C (pc' := 9) d12_29 rfl ?_
      exact ih _ (by omega) _ _ (Nat.le_refl _) (own_inc hi (by omega)) (by omega)
  exact loop _ _ 0 (Nat.le_refl _) (by decide) (Nat.zero_le _)
set_option maxRecDepth 65536 in
set_option maxHeartbeats 40000000 in
theorem con11 (G : Gx) (hw : ∀ d ∈ tables_1, d.before G.a0 G.Z = true) (x y a b : Addr) (cs : List Int32) (cp : Int32) (kT kO kL kN kB kF : Addr) (h : Heap) (hok : own_ok cs) (SS : Ss G cp kT kO kL kN kB kF) (O : Old G.Z G.n0 h) (ne_x_y : x ≠ y) (E_x : Exa G.Z h x "java/lang/String") (F_x_value : Fld G.Z h x "java/lang/String" "value" "[B" (.ref a)) (F_x_coder : Fld G.Z h x "java/lang/String" "coder" "B" (.int (own_cod cs))) (A_a : Av G.Z h a .byte ((own_bytes cs).map .int)) (E_y : Exa G.Z h y "java/lang/String") (F_y_value : Fld G.Z h y "java/lang/String" "value" "[B" (.ref b)) (F_y_coder : Fld G.Z h y "java/lang/String" "coder" "B" (.int (own_cod cs))) (A_b : Av G.Z h b .byte ((own_bytes cs).map .int)) :
    Con G (⟨"java/lang/String", "equals", "(Ljava/lang/Object;)Z"⟩ : MethodName) jdk_42_method_66_code 3 (some .boolean) rm11 #[(.ref x), (.ref y)] h (fun v h' => v = some (.int 1) ∧ h = h') := by
  refine Con.of (W := tables_1) (plainFor_of_name pn11) hw (fun mm => ef11 mm x y) (fun K C => ?_)
  have C : Cx G K "java/lang/String" "equals" jdk_42_method_66_code 3 (some .boolean) tables_1 := C
  generalize hQ : (fun v h' => v = some (.int 1) ∧ h = h' : Option Value → Heap → Prop) = Q
  refine N.aloadN C (pc' := 1) d11_0 rfl rfl rfl ?_
  refine N.aloadN C (pc' := 2) d11_1 rfl rfl rfl ?_
  refine N.acmp C (pc' := 7) false d11_2 rfl rfl (decide_eq_false fun q => ne_x_y (Value.ref.inj q)) (by decide) (by decide) ?_
  refine N.aloadN C (pc' := 8) d11_7 rfl rfl rfl ?_
  refine N.instanceof C (pc' := 11) d11_8 (C.w (i := 76) rfl) (Ins.self E_y) rfl ?_
  refine N.ifc C (pt := 54) (pf := 14) d11_11 rfl rfl (fun (q : (1 : Int32) = (0 : Int32)) => absurd q (by decide)) (fun _ => ?_)
  refine N.aloadN C (pc' := 15) d11_14 rfl rfl rfl ?_
  refine N.checkcast C (pc' := 18) d11_15 (C.w (i := 76) rfl) (Ins.self E_y) rfl ?_
  refine N.astoreN C (pc' := 19) (ls' := #[.val (.ref x), .val (.ref y), .val (.ref y)]) d11_18 rfl rfl rfl ?_
  have S_COMPACT_STRINGS := SS.s0.ext O.2
  refine N.getS C (pc' := 22) d11_19 (C.w (i := 77) rfl) S_COMPACT_STRINGS rfl ?_
  refine N.ifc C (pt := 36) (pf := 25) d11_22 rfl rfl (fun (hc22 : cp = (0 : Int32)) => absurd (show False from by exact SS.cp0 hc22) id) (fun (hc22 : ¬ cp = (0 : Int32)) => ?_)
  refine N.aloadN C (pc' := 26) d11_25 rfl rfl rfl ?_
  refine N.getF C (pc' := 29) d11_26 (C.w (i := 25) rfl) F_x_coder rfl ?_
  refine N.aloadN C (pc' := 30) d11_29 rfl rfl rfl ?_
  refine N.getF C (pc' := 33) d11_30 (C.w (i := 25) rfl) F_y_coder rfl ?_
  refine N.icmp C (pt := 54) (pf := 36) d11_33 rfl rfl (fun (hc33 : ¬ (own_cod cs) = (own_cod cs)) => absurd (show False from by exact hc33 rfl) id) (fun (hc33 : (own_cod cs) = (own_cod cs)) => ?_)
  refine N.aloadN C (pc' := 37) d11_36 rfl rfl rfl ?_
  refine N.getF C (pc' := 40) d11_37 (C.w (i := 24) rfl) F_x_value rfl ?_
  refine N.aloadN C (pc' := 41) d11_40 rfl rfl rfl ?_
  refine N.getF C (pc' := 44) d11_41 (C.w (i := 24) rfl) F_y_value rfl ?_
  refine N.callS C (pc' := 47) [(.ref a), (.ref b)] d11_44 (C.w (i := 78) rfl) (C.w (i := 79) rfl) (C.w (i := 80) rfl) (C.w (i := 81) rfl) (by decide) (con12 G hw a b (own_bytes cs) h (own_b6 hok.1) A_a A_b) (lenOf pd___B_B_Z rfl) rfl (by decide) (show 0 + (3 + 11) + _ ≤ _ from by decide) (by decide) (by decide) (rest := []) rfl rfl ?_
  rintro _ h44_1 ⟨rfl, rfl⟩
  show N G K rm11 Q h 0 0 47 #[.val (.ref x), .val (.ref y), .val (.ref y)] [(.int (1 : Int32))]
  refine N.ifc C (pt := 54) (pf := 50) d11_47 rfl rfl (fun (q : (1 : Int32) = (0 : Int32)) => absurd q (by decide)) (fun _ => ?_)
  refine N.iconst C (pc' := 51) (z := 1) d11_50 rfl rfl ?_
  refine N.goto C (pc' := 55) d11_51 rfl ?_
  exact N.retN C (by simp) (z' := (1 : Int32)) rfl d11_55 (by decide) (by decide) (by subst hQ; exact ⟨rfl, rfl⟩)
set_option maxRecDepth 65536 in
set_option maxHeartbeats 40000000 in
theorem con14 (G : Gx) (hw : ∀ d ∈ tables_1, d.before G.a0 G.Z = true) (x a : Addr) (cs : List Int32) (cp : Int32) (kT kO kL kN kB kF : Addr) (h : Heap) (SS : Ss G cp kT kO kL kN kB kF) (O : Old G.Z G.n0 h) (E_x : Exa G.Z h x "java/lang/String") (F_x_value : Fld G.Z h x "java/lang/String" "value" "[B" (.ref a)) (F_x_coder : Fld G.Z h x "java/lang/String" "coder" "B" (.int (own_cod cs))) (A_a : Av G.Z h a .byte ((own_bytes cs).map .int)) :
    Con G (⟨"java/lang/String", "coder", "()B"⟩ : MethodName) jdk_42_method_152_code 1 (some .byte) rm14 #[(.ref x)] h (fun v h' => v = some (.int (own_cod cs)) ∧ h = h') := by
  refine Con.of (W := tables_1) (plainFor_of_name pn14) hw (fun mm => ef14 mm x) (fun K C => ?_)
  have C : Cx G K "java/lang/String" "coder" jdk_42_method_152_code 1 (some .byte) tables_1 := C
  generalize hQ : (fun v h' => v = some (.int (own_cod cs)) ∧ h = h' : Option Value → Heap → Prop) = Q
  have S_COMPACT_STRINGS := SS.s0.ext O.2
  refine N.getS C (pc' := 3) d14_0 (C.w (i := 77) rfl) S_COMPACT_STRINGS rfl ?_
  refine N.ifc C (pt := 13) (pf := 6) d14_3 rfl rfl (fun (hc3 : cp = (0 : Int32)) => absurd (show False from by exact SS.cp0 hc3) id) (fun (hc3 : ¬ cp = (0 : Int32)) => ?_)
  refine N.aloadN C (pc' := 7) d14_6 rfl rfl rfl ?_
  refine N.getF C (pc' := 10) d14_7 (C.w (i := 25) rfl) F_x_coder rfl ?_
  refine N.goto C (pc' := 14) d14_10 rfl ?_
  exact N.retN C (by simp) (own_cod01 cs) d14_14 (by decide) (by decide) (by subst hQ; exact ⟨rfl, rfl⟩)
set_option maxRecDepth 65536 in
set_option maxHeartbeats 40000000 in
theorem con13 (G : Gx) (hw : ∀ d ∈ tables_1, d.before G.a0 G.Z = true) (x a : Addr) (cs : List Int32) (cp : Int32) (kT kO kL kN kB kF : Addr) (h : Heap) (hok : own_ok cs) (SS : Ss G cp kT kO kL kN kB kF) (O : Old G.Z G.n0 h) (E_x : Exa G.Z h x "java/lang/String") (F_x_value : Fld G.Z h x "java/lang/String" "value" "[B" (.ref a)) (F_x_coder : Fld G.Z h x "java/lang/String" "coder" "B" (.int (own_cod cs))) (A_a : Av G.Z h a .byte ((own_bytes cs).map .int)) :
    Con G (⟨"java/lang/String", "length", "()I"⟩ : MethodName) jdk_42_method_54_code 1 (some .int) rm13 #[(.ref x)] h (fun v h' => ∃ r : Int32, v = some (.int r) ∧ h = h' ∧ r.toInt = (cs.length : Nat)) := by
  refine Con.of (W := tables_1) (plainFor_of_name pn13) hw (fun mm => ef13 mm x) (fun K C => ?_)
  have C : Cx G K "java/lang/String" "length" jdk_42_method_54_code 1 (some .int) tables_1 := C
  generalize hQ : (fun v h' => ∃ r : Int32, v = some (.int r) ∧ h = h' ∧ r.toInt = (cs.length : Nat) : Option Value → Heap → Prop) = Q
  obtain ⟨m, len_a⟩ := own_bl (cs := cs) hok.1
  refine N.aloadN C (pc' := 1) d13_0 rfl rfl rfl ?_
  refine N.getF C (pc' := 4) d13_1 (C.w (i := 24) rfl) F_x_value rfl ?_
  refine N.alen C (pc' := 5) (n := m) d13_4 A_a len_a rfl ?_
  refine N.aloadN C (pc' := 6) d13_5 rfl rfl rfl ?_
  refine N.callV C (pc' := 9) x [] d13_6 (C.w (i := 87) rfl) (C.w (i := 88) rfl) (C.w (i := 90) rfl) (C.w (i := 89) rfl) (C.w (i := 2) rfl) (C.w (i := 91) rfl) (by decide) E_x (con14 G hw x a cs cp kT kO kL kN kB kF h SS O E_x F_x_value F_x_coder A_a) (lenOf pd___B rfl) rfl (by decide) (show 1 + (1 + 11) + _ ≤ _ from by decide) (by decide) (by decide) (rest := [(.int m)]) rfl rfl ?_
  rintro _ h6_1 ⟨rfl, rfl⟩
  show N G K rm13 Q h 0 0 9 #[.val (.ref x)] [(.int (own_cod cs)), (.int m)]
  refine N.ishr C (pc' := 10) d13_9 rfl ?_
  exact N.retI C d13_10 (by decide) (by decide) (by subst hQ; exact ⟨_, rfl, rfl, own_len (k := 0) (by rw [List.length_map] at len_a; exact len_a) hok.1⟩)
set_option maxRecDepth 65536 in
set_option maxHeartbeats 40000000 in
theorem con0 (G : Gx) (hw : ∀ d ∈ tables_1, d.before G.a0 G.Z = true) (p1 p2 p3 p4 : Int32) (cp : Int32) (kT kO kL kN kB kF : Addr) (h : Heap) (SS : Ss G cp kT kO kL kN kB kF) (O : Old G.Z G.n0 h) (Z0 : G.n0 ≤ h.size) :
    ConS G own_EL [] x code maxLocals ret room_1 #[(.int p1), (.int p2), (.int p3), (.int p4)] h (fun v _ => v = some (.int 1)) := by
  refine ConS.of (W := tables_1) (plainFor_of_name pn0) hw (own_ew hw) (fun mm => ef0 mm p1 p2 p3 p4) (fun K U C Sx => ?_)
  have C : Cx G K "com/example/charterbook/charterbook/book/JsonValueTextPinLaw" "law" code maxLocals ret tables_1 := C
  generalize hQ : (fun v _ => v = some (.int 1) : Option Value → Heap → Prop) = Q
  have hn3 := own_and3 p1
  refine N.iloadN C (pc' := 1) at_0 rfl rfl ?_
  refine N.iconst C (pc' := 2) (z := 3) at_1 rfl rfl ?_
  refine N.iand C (pc' := 3) at_2 rfl ?_
  generalize hd_n : (p1 &&& (3 : Int32)) = n at *
  refine N.istore C (pc' := 5) (ls' := #[.val (.int p1), .val (.int p2), .val (.int p3), .val (.int p4), .val (.int n), .unset, .unset, .unset, .unset, .unset, .unset, .unset]) at_3 rfl rfl ?_
  refine N.iloadN C (pc' := 6) at_5 rfl rfl ?_
  refine N.i2c C (pc' := 7) at_6 rfl ?_
  generalize hd_c1 : (p2.toUInt32.toUInt16.toUInt32.toInt32) = c1 at *
  refine N.istore C (pc' := 9) (ls' := #[.val (.int p1), .val (.int p2), .val (.int p3), .val (.int p4), .val (.int n), .val (.int c1), .unset, .unset, .unset, .unset, .unset, .unset]) at_7 rfl rfl ?_
  refine N.iloadN C (pc' := 10) at_9 rfl rfl ?_
  refine N.i2c C (pc' := 11) at_10 rfl ?_
  generalize hd_c2 : (p3.toUInt32.toUInt16.toUInt32.toInt32) = c2 at *
  refine N.istore C (pc' := 13) (ls' := #[.val (.int p1), .val (.int p2), .val (.int p3), .val (.int p4), .val (.int n), .val (.int c1), .val (.int c2), .unset, .unset, .unset, .unset, .unset]) at_11 rfl rfl ?_
  refine N.iloadN C (pc' := 14) at_13 rfl rfl ?_
  refine N.i2c C (pc' := 15) at_14 rfl ?_
  generalize hd_c3 : (p4.toUInt32.toUInt16.toUInt32.toInt32) = c3 at *
  refine N.istore C (pc' := 17) (ls' := #[.val (.int p1), .val (.int p2), .val (.int p3), .val (.int p4), .val (.int n), .val (.int c1), .val (.int c2), .val (.int c3), .unset, .unset, .unset, .unset]) at_15 rfl rfl ?_
  have hok := own_mk_ok n c1 c2 c3
  have hn := own_mk_len (c1 := c1) (c2 := c2) (c3 := c3) hn3.1 hn3.2
  generalize hcs : own_mk n c1 c2 c3 = cs at hok hn
  refine N.newO C (pc' := 20) at_17 (C.w (i := 0) rfl) (C.w (i := 1) rfl) (C.w (i := 2) rfl) (by decide) (by decide) rfl (fun h17_1 s1 hx_s1 Ex17 E_s1 D_s1 => ?_)
  have g_s1 : G.n0 ≤ s1 := by rw [hx_s1]; exact Z0
  have Z0 := Nat.le_trans Z0 Ex17.1
  have O := O.ext Ex17
  have Sx := Sx.born Ex17 hx_s1 E_s1.lt
  have F_s1_value : Fld G.Z h17_1 s1 "java/lang/String" "value" "[B" .null := D_s1 (Or.inr (C.w (i := 20) rfl)) (ty := (.array .byte)) (by decide)
  have F_s1_coder : Fld G.Z h17_1 s1 "java/lang/String" "coder" "B" (.int (0 : Int32)) := D_s1 (Or.inr (C.w (i := 21) rfl)) (ty := .byte) (by decide)
  refine N.dup C (pc' := 21) at_20 rfl rfl ?_
  refine N.iload C (pc' := 23) at_21 rfl rfl ?_
  refine N.iload C (pc' := 25) at_23 rfl rfl ?_
  refine N.iload C (pc' := 27) at_25 rfl rfl ?_
  refine N.iload C (pc' := 29) at_27 rfl rfl ?_
  have slt1 := E_s1.lt
  refine N.callS C (pc' := 32) [(.int n), (.int c1), (.int c2), (.int c3)] at_29 (C.w (i := 3) rfl) (C.w (i := 4) rfl) (C.w (i := 5) rfl) (C.w (i := 6) rfl) (by decide) (con1 G hw n c1 c2 c3 h17_1 Z0) (lenOf pd__ICCC__C rfl) rfl (by decide) (show 2 + (4 + 11) + _ ≤ _ from by decide) (by decide) (by decide) (rest := [(.ref s1), (.ref s1)]) rfl rfl ?_
  rintro _ h29_2 ⟨t1, rfl, ht1, KM1, A_t1⟩
  have Sx := Sx.keep KM1 all0
  have O := O.keep KM1 all0
  have Z0 := Nat.le_trans Z0 KM1.1
  have F_s1_value := F_s1_value.keep KM1 nin0
  have F_s1_coder := F_s1_coder.keep KM1 nin0
  have E_s1 := E_s1.keep KM1
  have ne_s1_t1 : s1 ≠ t1 := Nat.ne_of_lt (Nat.lt_of_lt_of_le slt1 ht1)
  have ne_t1_s1 := Ne.symm ne_s1_t1
  show NS G K own_EL U room_1 Q h29_2 ((0 + 1) + 1) ((0 + 4) + 3) 32 #[.val (.int p1), .val (.int p2), .val (.int p3), .val (.int p4), .val (.int n), .val (.int c1), .val (.int c2), .val (.int c3), .unset, .unset, .unset, .unset] [(.ref t1), (.ref s1), (.ref s1)]
  rw [hcs] at A_t1
  refine N.callIS C Sx (pc' := 35) s1 [(.ref t1)] at_32 rfl (C.w (i := 8) rfl) (C.w (i := 9) rfl) (C.w (i := 2) rfl) (C.w (i := 10) rfl) (by decide) (allS (List.mem_of_getElem? (i := 0) rfl) all0) (con2 G hw s1 t1 n cs cp kT kO kL kN kB kF h29_2 hok hn SS O Z0 g_s1 E_s1 F_s1_value F_s1_coder ne_s1_t1 ne_t1_s1 A_t1) (lenOf pd___C_V rfl) rfl (by decide) (show 1 + (2 + 11) + _ ≤ _ from by decide) (by decide) (by decide) (rest := [(.ref s1)]) rfl rfl ?_
  rintro K _ h32_3 C Sx ⟨rfl, KS1, b1, FV1, FC1, A_b1, ne_b1_s1⟩
  have O := O.keep KS1 (allS g_s1 all0)
  have Z0 := Nat.le_trans Z0 KS1.1
  have E_s1 := E_s1.keep KS1
  have A_t1 := A_t1.keep KS1 (ninS ne_t1_s1 nin0)
  have F_s1_value := FV1
  have F_s1_coder := FC1
  have ne_s1_b1 := Ne.symm ne_b1_s1
  show NS G K own_EL U room_1 Q h32_3 (((0 + 1) + 1) + 4) (((0 + 4) + 3) + 12) 35 #[.val (.int p1), .val (.int p2), .val (.int p3), .val (.int p4), .val (.int n), .val (.int c1), .val (.int c2), .val (.int c3), .unset, .unset, .unset, .unset] [(.ref s1)]
  refine N.astore C (pc' := 37) (ls' := #[.val (.int p1), .val (.int p2), .val (.int p3), .val (.int p4), .val (.int n), .val (.int c1), .val (.int c2), .val (.int c3), .val (.ref s1), .unset, .unset, .unset]) at_35 rfl rfl rfl ?_
  refine N.newO C (pc' := 40) at_37 (C.w (i := 0) rfl) (C.w (i := 1) rfl) (C.w (i := 2) rfl) (by decide) (by decide) rfl (fun h37_4 s2 hx_s2 Ex37 E_s2 D_s2 => ?_)
  have ne_s1_s2 : s1 ≠ s2 := by rw [hx_s2]; exact Nat.ne_of_lt F_s1_value.lt
  have ne_s2_s1 := Ne.symm ne_s1_s2
  have ne_t1_s2 : t1 ≠ s2 := by rw [hx_s2]; exact Nat.ne_of_lt A_t1.lt
  have ne_s2_t1 := Ne.symm ne_t1_s2
  have ne_b1_s2 : b1 ≠ s2 := by rw [hx_s2]; exact Nat.ne_of_lt A_b1.lt
  have ne_s2_b1 := Ne.symm ne_b1_s2
  have g_s2 : G.n0 ≤ s2 := by rw [hx_s2]; exact Z0
  have Z0 := Nat.le_trans Z0 Ex37.1
  have O := O.ext Ex37
  have F_s1_value := F_s1_value.ext Ex37
  have F_s1_coder := F_s1_coder.ext Ex37
  have E_s1 := E_s1.ext Ex37
  have A_t1 := A_t1.ext Ex37
  have A_b1 := A_b1.ext Ex37
  have Sx := Sx.born Ex37 hx_s2 E_s2.lt
  have F_s2_value : Fld G.Z h37_4 s2 "java/lang/String" "value" "[B" .null := D_s2 (Or.inr (C.w (i := 20) rfl)) (ty := (.array .byte)) (by decide)
  have F_s2_coder : Fld G.Z h37_4 s2 "java/lang/String" "coder" "B" (.int (0 : Int32)) := D_s2 (Or.inr (C.w (i := 21) rfl)) (ty := .byte) (by decide)
  refine N.dup C (pc' := 41) at_40 rfl rfl ?_
  refine N.iload C (pc' := 43) at_41 rfl rfl ?_
  refine N.iload C (pc' := 45) at_43 rfl rfl ?_
  refine N.iload C (pc' := 47) at_45 rfl rfl ?_
  refine N.iload C (pc' := 49) at_47 rfl rfl ?_
  have slt2 := E_s2.lt
  refine N.callS C (pc' := 52) [(.int n), (.int c1), (.int c2), (.int c3)] at_49 (C.w (i := 3) rfl) (C.w (i := 4) rfl) (C.w (i := 5) rfl) (C.w (i := 6) rfl) (by decide) (con1 G hw n c1 c2 c3 h37_4 Z0) (lenOf pd__ICCC__C rfl) rfl (by decide) (show 2 + (4 + 11) + _ ≤ _ from by decide) (by decide) (by decide) (rest := [(.ref s2), (.ref s2)]) rfl rfl ?_
  rintro _ h49_5 ⟨t2, rfl, ht2, KM2, A_t2⟩
  have Sx := Sx.keep KM2 all0
  have O := O.keep KM2 all0
  have Z0 := Nat.le_trans Z0 KM2.1
  have F_s1_value := F_s1_value.keep KM2 nin0
  have F_s1_coder := F_s1_coder.keep KM2 nin0
  have F_s2_value := F_s2_value.keep KM2 nin0
  have F_s2_coder := F_s2_coder.keep KM2 nin0
  have E_s1 := E_s1.keep KM2
  have E_s2 := E_s2.keep KM2
  have A_t1 := A_t1.keep KM2 nin0
  have A_b1 := A_b1.keep KM2 nin0
  have ne_s2_t2 : s2 ≠ t2 := Nat.ne_of_lt (Nat.lt_of_lt_of_le slt2 ht2)
  have ne_t2_s2 := Ne.symm ne_s2_t2
  show NS G K own_EL U room_1 Q h49_5 (((((0 + 1) + 1) + 4) + 1) + 1) (((((0 + 4) + 3) + 12) + 4) + 3) 52 #[.val (.int p1), .val (.int p2), .val (.int p3), .val (.int p4), .val (.int n), .val (.int c1), .val (.int c2), .val (.int c3), .val (.ref s1), .unset, .unset, .unset] [(.ref t2), (.ref s2), (.ref s2)]
  rw [hcs] at A_t2
  refine N.callIS C Sx (pc' := 55) s2 [(.ref t2)] at_52 rfl (C.w (i := 8) rfl) (C.w (i := 9) rfl) (C.w (i := 2) rfl) (C.w (i := 10) rfl) (by decide) (allS (List.mem_of_getElem? (i := 0) rfl) all0) (con2 G hw s2 t2 n cs cp kT kO kL kN kB kF h49_5 hok hn SS O Z0 g_s2 E_s2 F_s2_value F_s2_coder ne_s2_t2 ne_t2_s2 A_t2) (lenOf pd___C_V rfl) rfl (by decide) (show 1 + (2 + 11) + _ ≤ _ from by decide) (by decide) (by decide) (rest := [(.ref s2)]) rfl rfl ?_
  rintro K _ h52_6 C Sx ⟨rfl, KS2, b2, FV2, FC2, A_b2, ne_b2_s2⟩
  have O := O.keep KS2 (allS g_s2 all0)
  have Z0 := Nat.le_trans Z0 KS2.1
  have F_s1_value := F_s1_value.keep KS2 (ninS ne_s1_s2 nin0)
  have F_s1_coder := F_s1_coder.keep KS2 (ninS ne_s1_s2 nin0)
  have E_s1 := E_s1.keep KS2
  have E_s2 := E_s2.keep KS2
  have A_t1 := A_t1.keep KS2 (ninS ne_t1_s2 nin0)
  have A_b1 := A_b1.keep KS2 (ninS ne_b1_s2 nin0)
  have A_t2 := A_t2.keep KS2 (ninS ne_t2_s2 nin0)
  have F_s2_value := FV2
  have F_s2_coder := FC2
  have ne_s2_b2 := Ne.symm ne_b2_s2
  show NS G K own_EL U room_1 Q h52_6 ((((((0 + 1) + 1) + 4) + 1) + 1) + 4) ((((((0 + 4) + 3) + 12) + 4) + 3) + 12) 55 #[.val (.int p1), .val (.int p2), .val (.int p3), .val (.int p4), .val (.int n), .val (.int c1), .val (.int c2), .val (.int c3), .val (.ref s1), .unset, .unset, .unset] [(.ref s2)]
  refine N.astore C (pc' := 57) (ls' := #[.val (.int p1), .val (.int p2), .val (.int p3), .val (.int p4), .val (.int n), .val (.int c1), .val (.int c2), .val (.int c3), .val (.ref s1), .val (.ref s2), .unset, .unset]) at_55 rfl rfl rfl ?_
  refine N.aload C (pc' := 59) at_57 rfl rfl rfl ?_
  refine N.callSS C Sx (pc' := 62) [(.ref s1)] at_59 (C.w (i := 26) rfl) (C.w (i := 27) rfl) (C.w (i := 28) rfl) (C.w (i := 29) rfl) (by decide) all0 (con5 G hw s1 cp kT kO kL kN kB kF h52_6 SS O Z0 E_s1) (lenOf pd__Ljava_lang_String__Lcom_example_charterbook_charterbook_book_JsonValue_ rfl) rfl (by decide) (show 0 + (1 + 11) + _ ≤ _ from by decide) (by decide) (by decide) (rest := []) rfl rfl ?_
  rintro K _ h59_7 C Sx ⟨j, rfl, hj, KJ, E_j, F_j_kind, F_j_text, F_j_whole⟩
  have O := O.keep KJ all0
  have Z0 := Nat.le_trans Z0 KJ.1
  have F_s1_value := F_s1_value.keep KJ nin0
  have F_s1_coder := F_s1_coder.keep KJ nin0
  have F_s2_value := F_s2_value.keep KJ nin0
  have F_s2_coder := F_s2_coder.keep KJ nin0
  have E_s1 := E_s1.keep KJ
  have E_s2 := E_s2.keep KJ
  have A_t1 := A_t1.keep KJ nin0
  have A_b1 := A_b1.keep KJ nin0
  have A_t2 := A_t2.keep KJ nin0
  have A_b2 := A_b2.keep KJ nin0
  show NS G K own_EL U room_1 Q h59_7 (((((((0 + 1) + 1) + 4) + 1) + 1) + 4) + 3) (((((((0 + 4) + 3) + 12) + 4) + 3) + 12) + 86) 62 #[.val (.int p1), .val (.int p2), .val (.int p3), .val (.int p4), .val (.int n), .val (.int c1), .val (.int c2), .val (.int c3), .val (.ref s1), .val (.ref s2), .unset, .unset] [(.ref j)]
  refine N.astore C (pc' := 64) (ls' := #[.val (.int p1), .val (.int p2), .val (.int p3), .val (.int p4), .val (.int n), .val (.int c1), .val (.int c2), .val (.int c3), .val (.ref s1), .val (.ref s2), .val (.ref j), .unset]) at_62 rfl rfl rfl ?_
  refine N.aload C (pc' := 66) at_64 rfl rfl rfl ?_
  refine N.callV C (pc' := 69) j [] at_66 (C.w (i := 57) rfl) (C.w (i := 58) rfl) (C.w (i := 60) rfl) (C.w (i := 59) rfl) (C.w (i := 28) rfl) (C.w (i := 61) rfl) (by decide) E_j (con8 G hw j s1 cp kT kO kL kN kB kF h59_7 SS O E_j F_j_kind F_j_text F_j_whole) (lenOf pd___Ljava_lang_String_ rfl) rfl (by decide) (show 0 + (1 + 11) + _ ≤ _ from by decide) (by decide) (by decide) (rest := []) rfl rfl ?_
  rintro _ h66_8 ⟨rfl, rfl⟩
  show NS G K own_EL U room_1 Q h59_7 (((((((0 + 1) + 1) + 4) + 1) + 1) + 4) + 3) (((((((0 + 4) + 3) + 12) + 4) + 3) + 12) + 86) 69 #[.val (.int p1), .val (.int p2), .val (.int p3), .val (.int p4), .val (.int n), .val (.int c1), .val (.int c2), .val (.int c3), .val (.ref s1), .val (.ref s2), .val (.ref j), .unset] [(.ref s1)]
  refine N.astore C (pc' := 71) (ls' := #[.val (.int p1), .val (.int p2), .val (.int p3), .val (.int p4), .val (.int n), .val (.int c1), .val (.int c2), .val (.int c3), .val (.ref s1), .val (.ref s2), .val (.ref j), .val (.ref s1)]) at_69 rfl rfl rfl ?_
  refine N.aload C (pc' := 73) at_71 rfl rfl rfl ?_
  refine N.ifnonnull1 C (pc' := 78) at_73 rfl ?_
  refine N.aload C (pc' := 80) at_78 rfl rfl rfl ?_
  refine N.callV C (pc' := 83) j [] at_80 (C.w (i := 66) rfl) (C.w (i := 67) rfl) (C.w (i := 69) rfl) (C.w (i := 68) rfl) (C.w (i := 28) rfl) (C.w (i := 70) rfl) (by decide) E_j (con10 G hw j s1 cp kT kO kL kN kB kF h59_7 SS O E_j F_j_kind F_j_text F_j_whole) (lenOf pd___Z rfl) rfl (by decide) (show 0 + (1 + 11) + _ ≤ _ from by decide) (by decide) (by decide) (rest := []) rfl rfl ?_
  rintro _ h80_9 ⟨rfl, rfl⟩
  show NS G K own_EL U room_1 Q h59_7 (((((((0 + 1) + 1) + 4) + 1) + 1) + 4) + 3) (((((((0 + 4) + 3) + 12) + 4) + 3) + 12) + 86) 83 #[.val (.int p1), .val (.int p2), .val (.int p3), .val (.int p4), .val (.int n), .val (.int c1), .val (.int c2), .val (.int c3), .val (.ref s1), .val (.ref s2), .val (.ref j), .val (.ref s1)] [(.int (1 : Int32))]
  refine N.ifc C (pt := 150) (pf := 86) at_83 rfl rfl (fun (q : (1 : Int32) = (0 : Int32)) => absurd q (by decide)) (fun _ => ?_)
  refine N.aload C (pc' := 88) at_86 rfl rfl rfl ?_
  refine N.aload C (pc' := 90) at_88 rfl rfl rfl ?_
  refine N.callV C (pc' := 93) s1 [(.ref s2)] at_90 (C.w (i := 71) rfl) (C.w (i := 72) rfl) (C.w (i := 74) rfl) (C.w (i := 73) rfl) (C.w (i := 2) rfl) (C.w (i := 75) rfl) (by decide) E_s1 (con11 G hw s1 s2 b1 b2 cs cp kT kO kL kN kB kF h59_7 hok SS O ne_s1_s2 E_s1 F_s1_value F_s1_coder A_b1 E_s2 F_s2_value F_s2_coder A_b2) (lenOf pd__Ljava_lang_Object__Z rfl) rfl (by decide) (show 0 + (3 + 11) + _ ≤ _ from by decide) (by decide) (by decide) (rest := []) rfl rfl ?_
  rintro _ h90_10 ⟨rfl, rfl⟩
  show NS G K own_EL U room_1 Q h59_7 (((((((0 + 1) + 1) + 4) + 1) + 1) + 4) + 3) (((((((0 + 4) + 3) + 12) + 4) + 3) + 12) + 86) 93 #[.val (.int p1), .val (.int p2), .val (.int p3), .val (.int p4), .val (.int n), .val (.int c1), .val (.int c2), .val (.int c3), .val (.ref s1), .val (.ref s2), .val (.ref j), .val (.ref s1)] [(.int (1 : Int32))]
  refine N.ifc C (pt := 150) (pf := 96) at_93 rfl rfl (fun (q : (1 : Int32) = (0 : Int32)) => absurd q (by decide)) (fun _ => ?_)
  refine N.aload C (pc' := 98) at_96 rfl rfl rfl ?_
  refine N.callV C (pc' := 101) s1 [] at_98 (C.w (i := 82) rfl) (C.w (i := 83) rfl) (C.w (i := 85) rfl) (C.w (i := 84) rfl) (C.w (i := 2) rfl) (C.w (i := 86) rfl) (by decide) E_s1 (con13 G hw s1 b1 cs cp kT kO kL kN kB kF h59_7 hok SS O E_s1 F_s1_value F_s1_coder A_b1) (lenOf pd___I rfl) rfl (by decide) (show 0 + (1 + 11) + _ ≤ _ from by decide) (by decide) (by decide) (rest := []) rfl rfl ?_
  rintro _ h98_11 ⟨r, rfl, rfl, hr⟩
  show NS G K own_EL U room_1 Q h59_7 (((((((0 + 1) + 1) + 4) + 1) + 1) + 4) + 3) (((((((0 + 4) + 3) + 12) + 4) + 3) + 12) + 86) 101 #[.val (.int p1), .val (.int p2), .val (.int p3), .val (.int p4), .val (.int n), .val (.int c1), .val (.int c2), .val (.int c3), .val (.ref s1), .val (.ref s2), .val (.ref j), .val (.ref s1)] [(.int r)]
  refine N.iload C (pc' := 103) at_101 rfl rfl ?_
  refine N.icmp C (pt := 150) (pf := 106) at_103 rfl rfl (fun (hc103 : ¬ r = n) => absurd (show False from by exact hc103 (Int32.toInt_inj.mp (by omega))) id) (fun (hc103 : r = n) => ?_)
  refine N.aload C (pc' := 108) at_106 rfl rfl rfl ?_
  refine N.callV C (pc' := 111) j [] at_108 (C.w (i := 92) rfl) (C.w (i := 93) rfl) (C.w (i := 95) rfl) (C.w (i := 94) rfl) (C.w (i := 28) rfl) (C.w (i := 96) rfl) (by decide) E_j (con15 G hw j s1 cp kT kO kL kN kB kF h59_7 SS O E_j F_j_kind F_j_text F_j_whole) (lenOf pd___Z rfl) rfl (by decide) (show 0 + (1 + 11) + _ ≤ _ from by decide) (by decide) (by decide) (rest := []) rfl rfl ?_
  rintro _ h108_12 ⟨rfl, rfl⟩
  show NS G K own_EL U room_1 Q h59_7 (((((((0 + 1) + 1) + 4) + 1) + 1) + 4) + 3) (((((((0 + 4) + 3) + 12) + 4) + 3) + 12) + 86) 111 #[.val (.int p1), .val (.int p2), .val (.int p3), .val (.int p4), .val (.int n), .val (.int c1), .val (.int c2), .val (.int c3), .val (.ref s1), .val (.ref s2), .val (.ref j), .val (.ref s1)] [(.int (0 : Int32))]
  refine N.ifc C (pt := 150) (pf := 114) at_111 rfl rfl (fun (q : ¬ (0 : Int32) = (0 : Int32)) => absurd q (by decide)) (fun _ => ?_)
  refine N.aload C (pc' := 116) at_114 rfl rfl rfl ?_
  refine N.callV C (pc' := 119) j [] at_116 (C.w (i := 99) rfl) (C.w (i := 100) rfl) (C.w (i := 102) rfl) (C.w (i := 101) rfl) (C.w (i := 28) rfl) (C.w (i := 103) rfl) (by decide) E_j (con16 G hw j s1 cp kT kO kL kN kB kF h59_7 SS O E_j F_j_kind F_j_text F_j_whole) (lenOf pd___Z rfl) rfl (by decide) (show 0 + (1 + 11) + _ ≤ _ from by decide) (by decide) (by decide) (rest := []) rfl rfl ?_
  rintro _ h116_13 ⟨rfl, rfl⟩
  show NS G K own_EL U room_1 Q h59_7 (((((((0 + 1) + 1) + 4) + 1) + 1) + 4) + 3) (((((((0 + 4) + 3) + 12) + 4) + 3) + 12) + 86) 119 #[.val (.int p1), .val (.int p2), .val (.int p3), .val (.int p4), .val (.int n), .val (.int c1), .val (.int c2), .val (.int c3), .val (.ref s1), .val (.ref s2), .val (.ref j), .val (.ref s1)] [(.int (0 : Int32))]
  refine N.ifc C (pt := 150) (pf := 122) at_119 rfl rfl (fun (q : ¬ (0 : Int32) = (0 : Int32)) => absurd q (by decide)) (fun _ => ?_)
  refine N.aload C (pc' := 124) at_122 rfl rfl rfl ?_
  refine N.callV C (pc' := 127) j [] at_124 (C.w (i := 106) rfl) (C.w (i := 107) rfl) (C.w (i := 109) rfl) (C.w (i := 108) rfl) (C.w (i := 28) rfl) (C.w (i := 110) rfl) (by decide) E_j (con17 G hw j s1 cp kT kO kL kN kB kF h59_7 SS O E_j F_j_kind F_j_text F_j_whole) (lenOf pd___Z rfl) rfl (by decide) (show 0 + (1 + 11) + _ ≤ _ from by decide) (by decide) (by decide) (rest := []) rfl rfl ?_
  rintro _ h124_14 ⟨rfl, rfl⟩
  show NS G K own_EL U room_1 Q h59_7 (((((((0 + 1) + 1) + 4) + 1) + 1) + 4) + 3) (((((((0 + 4) + 3) + 12) + 4) + 3) + 12) + 86) 127 #[.val (.int p1), .val (.int p2), .val (.int p3), .val (.int p4), .val (.int n), .val (.int c1), .val (.int c2), .val (.int c3), .val (.ref s1), .val (.ref s2), .val (.ref j), .val (.ref s1)] [(.int (0 : Int32))]
  refine N.ifc C (pt := 150) (pf := 130) at_127 rfl rfl (fun (q : ¬ (0 : Int32) = (0 : Int32)) => absurd q (by decide)) (fun _ => ?_)
  refine N.aload C (pc' := 132) at_130 rfl rfl rfl ?_
  refine N.callV C (pc' := 135) j [] at_132 (C.w (i := 113) rfl) (C.w (i := 114) rfl) (C.w (i := 116) rfl) (C.w (i := 115) rfl) (C.w (i := 28) rfl) (C.w (i := 117) rfl) (by decide) E_j (con18 G hw j s1 cp kT kO kL kN kB kF h59_7 SS O E_j F_j_kind F_j_text F_j_whole) (lenOf pd___Z rfl) rfl (by decide) (show 0 + (1 + 11) + _ ≤ _ from by decide) (by decide) (by decide) (rest := []) rfl rfl ?_
  rintro _ h132_15 ⟨rfl, rfl⟩
  show NS G K own_EL U room_1 Q h59_7 (((((((0 + 1) + 1) + 4) + 1) + 1) + 4) + 3) (((((((0 + 4) + 3) + 12) + 4) + 3) + 12) + 86) 135 #[.val (.int p1), .val (.int p2), .val (.int p3), .val (.int p4), .val (.int n), .val (.int c1), .val (.int c2), .val (.int c3), .val (.ref s1), .val (.ref s2), .val (.ref j), .val (.ref s1)] [(.int (0 : Int32))]
  refine N.ifc C (pt := 150) (pf := 138) at_135 rfl rfl (fun (q : ¬ (0 : Int32) = (0 : Int32)) => absurd q (by decide)) (fun _ => ?_)
  refine N.aload C (pc' := 140) at_138 rfl rfl rfl ?_
  refine N.callV C (pc' := 143) j [] at_140 (C.w (i := 118) rfl) (C.w (i := 119) rfl) (C.w (i := 121) rfl) (C.w (i := 120) rfl) (C.w (i := 28) rfl) (C.w (i := 122) rfl) (by decide) E_j (con19 G hw j s1 cp kT kO kL kN kB kF h59_7 SS O E_j F_j_kind F_j_text F_j_whole) (lenOf pd___Z rfl) rfl (by decide) (show 0 + (1 + 11) + _ ≤ _ from by decide) (by decide) (by decide) (rest := []) rfl rfl ?_
  rintro _ h140_16 ⟨rfl, rfl⟩
  show NS G K own_EL U room_1 Q h59_7 (((((((0 + 1) + 1) + 4) + 1) + 1) + 4) + 3) (((((((0 + 4) + 3) + 12) + 4) + 3) + 12) + 86) 143 #[.val (.int p1), .val (.int p2), .val (.int p3), .val (.int p4), .val (.int n), .val (.int c1), .val (.int c2), .val (.int c3), .val (.ref s1), .val (.ref s2), .val (.ref j), .val (.ref s1)] [(.int (0 : Int32))]
  refine N.ifc C (pt := 150) (pf := 146) at_143 rfl rfl (fun (q : ¬ (0 : Int32) = (0 : Int32)) => absurd q (by decide)) (fun _ => ?_)
  refine N.iconst C (pc' := 147) (z := 1) at_146 rfl rfl ?_
  refine N.goto C (pc' := 151) at_147 rfl ?_
  exact N.retNS C Sx (by simp) (z' := (1 : Int32)) rfl at_151 (by decide) (by decide) (by subst hQ; exact rfl)
theorem own_cmpct {args : Array Value} {s : State} {t : Term} {x : Int32} (ev : t.eval args s none [] s = some (.int x)) (h : (Cond.not (Cond.eq t (Term.int 0))).value args s none s [] = some true) : ¬ x = 0 := fun q => by
  have e := Cond.eq_ints ev (Term.int_eval (args := args) (first := s) (o := none) (idx := []) (s := s) 0)
  rw [decide_eq_true q] at e
  simp [Cond.value, e] at h
  simp [Cond.value] at e
  simp_all
theorem own_kne {args : Array Value} {s : State} {t u : Term} {a b : Addr} {C n d : String} {x y : Int32} (et : t.eval args s none [] s = some (.ref a)) (eu : u.eval args s none [] s = some (.ref b)) (h1 : (Cond.eq (Term.field t C n d) (Term.int x)).value args s none s [] = some true) (h2 : (Cond.eq (Term.field u C n d) (Term.int y)).value args s none s [] = some true) (hxy : x ≠ y) : a ≠ b := fun q => by
  subst q
  have e1 := eqv_i (Term.int_eval _) h1
  have e2 := eqv_i (Term.int_eval _) h2
  rw [fld_at et] at e1
  rw [fld_at eu] at e2
  exact hxy (Value.int.inj (Option.some.inj (e1.symm.trans e2)))
theorem own_start {l : Launch} {s : State} {args : Array Value} (hw : ∀ c ∈ tables_1, c.before args s = true) (hr : rest_1_c.before args s = true) (hn : narrow_1.value args s none s [] = some true) : (∃ (cp : Int32) (kT kO kL kN kB kF : Addr), Ss (l, s, args, s.heap.size) cp kT kO kL kN kB kF) ∧ Jvm.Lit.compactW.before args s = true := by
  have hr := Cond.before_iff.mp hr
  unfold rest_1_c at hr
  obtain ⟨r0, hr⟩ := and_e hr
  obtain ⟨r1, hr⟩ := and_e hr
  obtain ⟨r2, hr⟩ := and_e hr
  obtain ⟨r3, hr⟩ := and_e hr
  obtain ⟨r4, hr⟩ := and_e hr
  obtain ⟨r5, hr⟩ := and_e hr
  obtain ⟨r6, hr⟩ := and_e hr
  obtain ⟨r7, hr⟩ := and_e hr
  obtain ⟨r8, hr⟩ := and_e hr
  obtain ⟨r9, hr⟩ := and_e hr
  obtain ⟨r10, hr⟩ := and_e hr
  obtain ⟨r11, hr⟩ := and_e hr
  obtain ⟨r12, hr⟩ := and_e hr
  obtain ⟨r13, hr⟩ := and_e hr
  obtain ⟨r14, hr⟩ := and_e hr
  obtain ⟨r15, hr⟩ := and_e hr
  obtain ⟨r16, hr⟩ := and_e hr
  obtain ⟨r17, hr⟩ := and_e hr
  obtain ⟨r18, hr⟩ := and_e hr
  unfold narrow_1 at hn
  obtain ⟨xT, hn⟩ := and_e hn
  obtain ⟨xO, hn⟩ := and_e hn
  obtain ⟨oT, hn⟩ := and_e hn
  obtain ⟨oO, hn⟩ := and_e hn
  obtain ⟨xL, hn⟩ := and_e hn
  obtain ⟨oL, hn⟩ := and_e hn
  obtain ⟨xN, hn⟩ := and_e hn
  obtain ⟨oN, hn⟩ := and_e hn
  obtain ⟨xB, hn⟩ := and_e hn
  obtain ⟨oB, hn⟩ := and_e hn
  obtain ⟨xF, hn⟩ := and_e hn
  have oF := hn
  obtain ⟨cp, ecp⟩ := is_v r1
  obtain ⟨kT, eT⟩ := exa_v xT
  obtain ⟨kO, eO⟩ := exa_v xO
  obtain ⟨kL, eL⟩ := exa_v xL
  obtain ⟨kN, eN⟩ := exa_v xN
  obtain ⟨kB, eB⟩ := exa_v xB
  obtain ⟨kF, eF⟩ := exa_v xF
  refine ⟨⟨cp, kT, kO, kL, kN, kB, kF, Sta.start ecp (Or.inl (Cond.before_iff.mpr r0)), Sta.start (eqv_i (Term.int_eval _) r12) (Or.inl (Cond.before_iff.mpr r11)), Sta.start (eqv_i (Term.int_eval _) r15) (Or.inl (Cond.before_iff.mpr r14)), Sta.start (eqv_i (Term.int_eval _) r18) (Or.inl (Cond.before_iff.mpr r17)), Sta.start eT (Or.inr ⟨hw _ (List.mem_of_getElem? (i := 33) rfl), hw _ (List.mem_of_getElem? (i := 34) rfl)⟩), Sta.start eO (Or.inr ⟨hw _ (List.mem_of_getElem? (i := 33) rfl), hw _ (List.mem_of_getElem? (i := 98) rfl)⟩), Sta.start eL (Or.inr ⟨hw _ (List.mem_of_getElem? (i := 33) rfl), hw _ (List.mem_of_getElem? (i := 105) rfl)⟩), Sta.start eN (Or.inr ⟨hw _ (List.mem_of_getElem? (i := 33) rfl), hw _ (List.mem_of_getElem? (i := 112) rfl)⟩), Sta.start eB (Or.inr ⟨hw _ (List.mem_of_getElem? (i := 33) rfl), hw _ (List.mem_of_getElem? (i := 124) rfl)⟩), Sta.start eF (Or.inr ⟨hw _ (List.mem_of_getElem? (i := 33) rfl), hw _ (List.mem_of_getElem? (i := 126) rfl)⟩), own_cmpct ecp r2, own_kne eT eO oT oO (by decide), own_kne eT eL oT oL (by decide), own_kne eT eN oT oN (by decide), own_kne eT eB oT oB (by decide), own_kne eT eF oT oF (by decide)⟩, Cond.before_iff.mpr r2⟩
set_option maxRecDepth 65536 in
set_option maxHeartbeats 40000000 in
theorem comes_1 {Post : Tables → Env → Array Value → State → Outcome → State → Prop} (hpost : ∀ tb e args s v u, (limb_1_1.after args s (.returned v) u = true ∧ limb_1_2.after args s (.returned v) u = true ∧ True) → ReturnedEndW s (.returned v) u (Jvm.fieldLocs frame_1_writes args s ++ Jvm.arrayLocs frame_1_arrays args s ++ Jvm.staticLocs frame_1_statics s) 32 2240 → Post tb e args s (.returned v) u) :
    ArmFor flags0 classFile x code maxLocals ret World_1 tables_1 room_1 Calls_1 rest_1 Pre_1 Post := by
  intro l hfl _ _ p e ha hc hk s m args below hf hA hF happ hP
  obtain ⟨hcalls, hrest, hpre⟩ := hP
  obtain ⟨-, -, -, hnamed, -, -, -, hat⟩ := (Spec.applies_iff hf).mp happ
  obtain ⟨hg, hn⟩ := and_e (Cond.before_iff.mp (show (Jvm.Cond.and given_1 narrow_1).before args s = true from hpre))
  obtain ⟨hcount, hrow⟩ := and_e hg
  obtain ⟨ha0, hrow⟩ := and_e hrow
  obtain ⟨ha1, hrow⟩ := and_e hrow
  obtain ⟨ha2, hrow⟩ := and_e hrow
  have ha3 := hrow
  obtain ⟨w0, w1, w2, w3, rfl⟩ : ∃ w0 w1 w2 w3 : Value, args = #[w0, w1, w2, w3] := by
    have hs : args.size = 4 := by simpa [Cond.value, given_1] using hcount
    obtain ⟨L⟩ := args
    match L, hs with
    | [w0, w1, w2, w3], _ => exact ⟨w0, w1, w2, w3, rfl⟩
  have hw := fun d (hd : d ∈ tables_1) => atoms_spec (ws := Jvm.Cond.code x code maxLocals ret :: tables_1) hat d (List.mem_cons_of_mem _ hd)
  have hfit : Fit s := fun {y c} hc i hi => by
    obtain ⟨ha, rfl⟩ := Array.getElem?_eq_some_iff.mp hc
    have q := List.all_eq_true.mp ((Array.all_eq_true_iff_forall_mem.mp hF) _ (Array.getElem_mem ha)) i (List.mem_range.mpr hi)
    simpa [Array.getElem?_eq_getElem hi] using q
  obtain ⟨i0, ei0⟩ := is_v ha0
  obtain rfl : w0 = (.int i0) := Option.some.inj ei0
  obtain ⟨i1, ei1⟩ := is_v ha1
  obtain rfl : w1 = (.int i1) := Option.some.inj ei1
  obtain ⟨i2, ei2⟩ := is_v ha2
  obtain rfl : w2 = (.int i2) := Option.some.inj ei2
  obtain ⟨i3, ei3⟩ := is_v ha3
  obtain rfl : w3 = (.int i3) := Option.some.inj ei3
  obtain ⟨⟨cp, kT, kO, kL, kN, kB, kF, SS⟩, hcw⟩ := own_start (l := l) hw hrest hn
  have hCH : CHv s own_EL s.vm s.heap := CHv.start (own_ew hw) hcalls.1 hcw (hw _ (List.mem_of_getElem? (i := 19) rfl)) (hw _ (List.mem_of_getElem? (i := 1) rfl))
  obtain ⟨n, o, h1, h2, h3, _, L, rfl, ⟨rfl, N⟩, -, hq⟩ := con0 (l, s, _, s.heap.size) hw i0 i1 i2 i3 cp kT kO kL kN kB kF s.heap SS (Old.start s) (Nat.le_refl _) tables_1 p e ha hc hk s m _ below hf ((Spec.applies_iff_loose hf).mp happ).1 ⟨rfl, State.Warmed39.refl s, rfl, hCH, nofun⟩ trivial
  refine ⟨n, _, h1, h2, h3, hpost _ _ _ _ _ _ ⟨Cond.after_iff.mpr rfl, Cond.after_iff.mpr (eq_i res_at (Term.int_eval (1)) rfl), trivial⟩ ⟨hq.1, hq.2.1, hq.2.2.1, (hq.2.2.2.sift fun y hy => Or.inr (N y hy)).mono (by decide) (by decide)⟩⟩
theorem main_1_1 : Claimed_1_1 := comes_1 fun _ _ _ _ _ _ h hF => ⟨h.1, hF⟩
theorem main_1_2 : Claimed_1_2 := comes_1 fun _ _ _ _ _ _ h hF => ⟨h.2.1, hF⟩
end Jvm.Pilot.@@N@@
namespace Jvm.Pilot.@@N@@
open Jvm Jvm.ClassFile Sem Op Lib Jvm.Free Jvm.Stand Jvm.Pilot.@@N@@.Jvm.D
/-! MADE BY PROGRAM (witnessworld.py) out of the Statement's table words and the real class files: 23 classes; the members and pool entries that the words name. The judged class is class 1, her method 1. -/
namespace start1
open Jvm.ClassFile
def u (s : String) : CpInfo := .utf8 (stringToUtf16 s)
/-- a pool by its gaps: so many unusable entries, then the entry; so many at the end -/
def gap : Nat → List CpInfo → List CpInfo
  | 0, r => r
  | n + 1, r => .unusable :: gap n r
def poolList (es : List (Nat × CpInfo)) (last : Nat) : List CpInfo := es.foldr (fun e r => gap e.1 (e.2 :: r)) (gap last [])
def pool (es : List (Nat × CpInfo)) (last : Nat) : Array CpInfo := ⟨poolList es last⟩
def fileOf (pool : Array CpInfo) (this : Nat) (attrs : Array Attribute := #[]) (ms : Array MethodInfo := #[]) (fl : Nat := 33) (sup : Nat := 0) (ifs : Array Nat := #[]) (fds : Array FieldInfo := #[]) : ClassFile where
  minorVersion := 0
  majorVersion := 65
  constantPool := pool
  accessFlags := fl
  thisClass := this
  superClass := sup
  interfaces := ifs
  fields := fds
  methods := ms
  attributes := attrs
def plain (name : String) (sup : Option ClassId) : Class where
  name := name
  kind := .ordinary
  loader := none
  accessFlags := 33
  super := sup
  interfaces := #[]
  cf := none
  fields := #[]
  methods := #[]
  instanceTypes := #[]
  staticTypes := #[]
  resolved := #[]
  callSites := []
  init := .initialized
  statics := none
  mirror := none

def pool0 : Array CpInfo := pool [(5, u "<init>"), (0, u "()V"), (1, .class_ 10), (1, u "java/lang/Object")] 113

def k0c0 : Code := { maxStack := 0, maxLocals := 1, code := object_method_1_code, exceptionTable := #[], attributes := #[] }
def k0m0 : Method := { name := "<init>", desc := "()V", sig := { parameters := [], returnType := none }, accessFlags := 1, code := some k0c0 }
/-- java/lang/Object -/
def k0 : Class := { plain "java/lang/Object" none with
  accessFlags := 33
  interfaces := #[]
  cf := some (fileOf pool0 8 #[] #[{ accessFlags := 1, nameIndex := 5, descriptorIndex := 6, attributes := #[] }] 33 0 #[] #[])
  fields := #[]
  methods := #[k0m0]
  instanceTypes := #[]
  staticTypes := #[]
  resolved := Array.replicate 124 none
  statics := none }

def pool1 : Array CpInfo := pool [(2, .class_ 4), (1, u "java/lang/Object"), (0, u "<init>"), (0, u "()V"), (0, .class_ 8), (0, u "java/lang/String"), (0, .methodref 10 11), (0, .class_ 12), (0, .nameAndType 13 14), (0, u "com/example/charterbook/charterbook/book/JsonValueTextPinLaw"), (0, u "make"), (0, u "(ICCC)[C"), (0, .methodref 7 16), (0, .nameAndType 5 17), (0, u "([C)V"), (0, .methodref 19 20), (0, .class_ 21), (0, .nameAndType 22 23), (0, u "com/example/charterbook/charterbook/book/JsonValue"), (0, u "text"), (0, u "(Ljava/lang/String;)Lcom/example/charterbook/charterbook/book/JsonValue;"), (0, .methodref 19 25), (0, .nameAndType 22 26), (0, u "()Ljava/lang/String;"), (0, .methodref 19 28), (0, .nameAndType 29 30), (0, u "isText"), (0, u "()Z"), (0, .methodref 7 32), (0, .nameAndType 33 34), (0, u "equals"), (0, u "(Ljava/lang/Object;)Z"), (0, .methodref 7 36), (0, .nameAndType 37 38), (0, u "length"), (0, u "()I"), (0, .methodref 19 40), (0, .nameAndType 41 30), (0, u "isObject"), (0, .methodref 19 43), (0, .nameAndType 44 30), (0, u "isList"), (0, .methodref 19 46), (0, .nameAndType 47 30), (0, u "isNumber"), (0, .methodref 19 49), (0, .nameAndType 50 30), (0, u "isWholeNumber"), (0, .methodref 19 52), (0, .nameAndType 53 30), (0, u "isBoolean"), (2, u "law"), (0, u "(IIII)Z")] 3

def k1m0 : Method := { name := "<init>", desc := "()V", sig := { parameters := [], returnType := none }, accessFlags := 1, code := none }
def k1c1 : Code := { maxStack := 6, maxLocals := 12, code := code, exceptionTable := #[], attributes := #[] }
def k1m1 : Method := { name := "law", desc := "(IIII)Z", sig := { parameters := [.int, .int, .int, .int], returnType := some .boolean }, accessFlags := 9, code := some k1c1 }
def k1c2 : Code := { maxStack := 4, maxLocals := 4, code := method_3_code, exceptionTable := #[], attributes := #[] }
def k1m2 : Method := { name := "make", desc := "(ICCC)[C", sig := { parameters := [.int, .char, .char, .char], returnType := some (.array .char) }, accessFlags := 10, code := some k1c2 }
/-- com/example/charterbook/charterbook/book/JsonValueTextPinLaw -/
def k1 : Class := { plain "com/example/charterbook/charterbook/book/JsonValueTextPinLaw" (some 0) with
  accessFlags := 49
  interfaces := #[]
  cf := some (fileOf pool1 10 #[] #[{ accessFlags := 1, nameIndex := 5, descriptorIndex := 6, attributes := #[] }, { accessFlags := 9, nameIndex := 56, descriptorIndex := 57, attributes := #[] }, { accessFlags := 10, nameIndex := 13, descriptorIndex := 14, attributes := #[] }] 49 2 #[] #[])
  fields := #[]
  methods := #[k1m0, k1m1, k1m2]
  instanceTypes := #[]
  staticTypes := #[]
  resolved := Array.replicate 61 none
  statics := none }

def pool2 : Array CpInfo := pool [(1, .class_ 2), (0, u "java/io/Serializable"), (0, .class_ 4), (0, u "java/lang/Object")] 2

/-- java/io/Serializable -/
def k2 : Class := { plain "java/io/Serializable" (some 0) with
  accessFlags := 1537
  interfaces := #[]
  cf := some (fileOf pool2 1 #[] #[] 1537 3 #[] #[])
  fields := #[]
  methods := #[]
  instanceTypes := #[]
  staticTypes := #[]
  resolved := Array.replicate 7 none
  statics := none }

def pool3 : Array CpInfo := pool [(1, .class_ 2), (0, u "java/lang/Comparable"), (0, .class_ 4), (0, u "java/lang/Object")] 7

/-- java/lang/Comparable -/
def k3 : Class := { plain "java/lang/Comparable" (some 0) with
  accessFlags := 1537
  interfaces := #[]
  cf := some (fileOf pool3 1 #[] #[] 1537 3 #[] #[])
  fields := #[]
  methods := #[]
  instanceTypes := #[]
  staticTypes := #[]
  resolved := Array.replicate 12 none
  statics := none }

def pool4 : Array CpInfo := pool [(2, .class_ 4), (1, u "java/lang/CharSequence"), (42, .class_ 48), (0, u "java/lang/CharSequence$1CodePointIterator"), (10, .class_ 60), (0, u "java/lang/CharSequence$1CharIterator"), (5, .class_ 67), (0, u "java/lang/Object")] 63

/-- java/lang/CharSequence -/
def k4 : Class := { plain "java/lang/CharSequence" (some 0) with
  accessFlags := 1537
  interfaces := #[]
  cf := some (fileOf pool4 2 #[.nestMembers #[47, 59]] #[] 1537 66 #[] #[])
  fields := #[]
  methods := #[]
  instanceTypes := #[]
  staticTypes := #[]
  resolved := Array.replicate 131 none
  statics := none }

def pool5 : Array CpInfo := pool [(1, .class_ 2), (0, u "java/lang/constant/Constable"), (0, .class_ 4), (0, u "java/lang/Object")] 6

/-- java/lang/constant/Constable -/
def k5 : Class := { plain "java/lang/constant/Constable" (some 0) with
  accessFlags := 1537
  interfaces := #[]
  cf := some (fileOf pool5 1 #[] #[] 1537 3 #[] #[])
  fields := #[]
  methods := #[]
  instanceTypes := #[]
  staticTypes := #[]
  resolved := Array.replicate 11 none
  statics := none }

def pool6 : Array CpInfo := pool [(1, .class_ 2), (0, u "java/lang/constant/ConstantDesc"), (0, .class_ 4), (0, u "java/lang/Object")] 32

/-- java/lang/constant/ConstantDesc -/
def k6 : Class := { plain "java/lang/constant/ConstantDesc" (some 0) with
  accessFlags := 1537
  interfaces := #[]
  cf := some (fileOf pool6 1 #[] #[] 1537 3 #[] #[])
  fields := #[]
  methods := #[]
  instanceTypes := #[]
  staticTypes := #[]
  resolved := Array.replicate 37 none
  statics := none }

def pool7 : Array CpInfo := pool [(1, .methodref 2 3), (0, .class_ 4), (0, .nameAndType 5 6), (0, u "java/lang/Object"), (0, u "<init>"), (0, u "()V"), (0, .string 8), (0, u ""), (0, .fieldref 10 11), (0, .class_ 12), (0, .nameAndType 13 14), (0, u "java/lang/String"), (0, u "value"), (0, u "[B"), (0, .fieldref 10 16), (0, .nameAndType 17 18), (0, u "coder"), (0, u "B"), (2, u "hash"), (0, u "I"), (2, u "hashIsZero"), (0, u "Z"), (0, .methodref 10 28), (0, .nameAndType 5 29), (0, u "([CIILjava/lang/Void;)V"), (8, .fieldref 10 39), (0, .nameAndType 40 26), (0, u "COMPACT_STRINGS"), (1, .class_ 44), (1, u "java/lang/StringUTF16"), (0, u "compress"), (1, .methodref 42 48), (0, .nameAndType 49 50), (0, u "coderFromArrayLen"), (0, u "([BI)B"), (56, .class_ 109), (1, u "java/lang/StringLatin1"), (67, .methodref 42 178), (0, .nameAndType 45 179), (0, u "([CII)[B"), (154, u "()I"), (0, .methodref 10 336), (0, .nameAndType 17 337), (0, u "()B"), (169, u "length"), (33, .methodref 107 542), (0, .nameAndType 543 544), (0, u "equals"), (0, u "([B[B)Z"), (28, u "(Ljava/lang/Object;)Z"), (1, .class_ 576), (0, u "java/lang/CharSequence"), (22, u "CASE_INSENSITIVE_ORDER"), (0, u "Ljava/util/Comparator;"), (409, u "([C)V"), (90, u "serialPersistentFields"), (0, u "[Ljava/io/ObjectStreamField;"), (0, .class_ 1104), (0, u "java/lang/String$CaseInsensitiveComparator"), (1, .class_ 1107), (0, u "java/io/Serializable"), (0, .class_ 1109), (0, u "java/lang/Comparable"), (0, .class_ 1111), (0, u "java/lang/constant/Constable"), (0, .class_ 1113), (0, u "java/lang/constant/ConstantDesc"), (2, u "serialVersionUID"), (0, u "J"), (3, u "REPL"), (0, u "C"), (2, u "LATIN1"), (1, u "UTF16")] 323

def k7m0 : Method := { name := "<init>", desc := "()V", sig := { parameters := [], returnType := none }, accessFlags := 1, code := none }
def k7c1 : Code := { maxStack := 5, maxLocals := 2, code := jdk_42_method_3_code, exceptionTable := #[], attributes := #[] }
def k7m1 : Method := { name := "<init>", desc := "([C)V", sig := { parameters := [(.array .char)], returnType := none }, accessFlags := 1, code := some k7c1 }
def k7c2 : Code := { maxStack := 2, maxLocals := 1, code := jdk_42_method_54_code, exceptionTable := #[], attributes := #[] }
def k7m2 : Method := { name := "length", desc := "()I", sig := { parameters := [], returnType := some .int }, accessFlags := 1, code := some k7c2 }
def k7c3 : Code := { maxStack := 2, maxLocals := 3, code := jdk_42_method_66_code, exceptionTable := #[], attributes := #[] }
def k7m3 : Method := { name := "equals", desc := "(Ljava/lang/Object;)Z", sig := { parameters := [(.object "java/lang/Object")], returnType := some .boolean }, accessFlags := 1, code := some k7c3 }
def k7c4 : Code := { maxStack := 4, maxLocals := 6, code := jdk_42_method_149_code, exceptionTable := #[], attributes := #[] }
def k7m4 : Method := { name := "<init>", desc := "([CIILjava/lang/Void;)V", sig := { parameters := [(.array .char), .int, .int, (.object "java/lang/Void")], returnType := none }, accessFlags := 2, code := some k7c4 }
def k7c5 : Code := { maxStack := 1, maxLocals := 1, code := jdk_42_method_152_code, exceptionTable := #[], attributes := #[] }
def k7m5 : Method := { name := "coder", desc := "()B", sig := { parameters := [], returnType := some .byte }, accessFlags := 0, code := some k7c5 }
/-- java/lang/String -/
def k7 : Class := { plain "java/lang/String" (some 0) with
  accessFlags := 49
  interfaces := #[2, 3, 4, 5, 6]
  cf := some (fileOf pool7 10 #[.nestMembers #[1103]] #[{ accessFlags := 1, nameIndex := 5, descriptorIndex := 6, attributes := #[] }, { accessFlags := 1, nameIndex := 5, descriptorIndex := 1010, attributes := #[] }, { accessFlags := 1, nameIndex := 507, descriptorIndex := 334, attributes := #[] }, { accessFlags := 1, nameIndex := 543, descriptorIndex := 573, attributes := #[] }, { accessFlags := 2, nameIndex := 5, descriptorIndex := 29, attributes := #[] }, { accessFlags := 0, nameIndex := 17, descriptorIndex := 337, attributes := #[] }] 49 2 #[1106, 1108, 575, 1110, 1112] #[{ accessFlags := 18, nameIndex := 13, descriptorIndex := 14, attributes := #[] }, { accessFlags := 18, nameIndex := 17, descriptorIndex := 18, attributes := #[] }, { accessFlags := 2, nameIndex := 21, descriptorIndex := 22, attributes := #[] }, { accessFlags := 2, nameIndex := 25, descriptorIndex := 26, attributes := #[] }, { accessFlags := 26, nameIndex := 1116, descriptorIndex := 1117, attributes := #[] }, { accessFlags := 24, nameIndex := 40, descriptorIndex := 26, attributes := #[] }, { accessFlags := 26, nameIndex := 1101, descriptorIndex := 1102, attributes := #[] }, { accessFlags := 26, nameIndex := 1121, descriptorIndex := 1122, attributes := #[] }, { accessFlags := 25, nameIndex := 599, descriptorIndex := 600, attributes := #[] }, { accessFlags := 24, nameIndex := 1125, descriptorIndex := 18, attributes := #[] }, { accessFlags := 24, nameIndex := 1127, descriptorIndex := 18, attributes := #[] }])
  fields := #[{ name := "value", type := (.array .byte), accessFlags := 18, slot := 0, constantValue := 0 }, { name := "coder", type := .byte, accessFlags := 18, slot := 1, constantValue := 0 }, { name := "hash", type := .int, accessFlags := 2, slot := 2, constantValue := 0 }, { name := "hashIsZero", type := .boolean, accessFlags := 2, slot := 3, constantValue := 0 }, { name := "serialVersionUID", type := .long, accessFlags := 26, slot := 0, constantValue := 0 }, { name := "COMPACT_STRINGS", type := .boolean, accessFlags := 24, slot := 1, constantValue := 0 }, { name := "serialPersistentFields", type := (.array (.object "java/io/ObjectStreamField")), accessFlags := 26, slot := 2, constantValue := 0 }, { name := "REPL", type := .char, accessFlags := 26, slot := 3, constantValue := 0 }, { name := "CASE_INSENSITIVE_ORDER", type := (.object "java/util/Comparator"), accessFlags := 25, slot := 4, constantValue := 0 }, { name := "LATIN1", type := .byte, accessFlags := 24, slot := 5, constantValue := 0 }, { name := "UTF16", type := .byte, accessFlags := 24, slot := 6, constantValue := 0 }]
  methods := #[k7m0, k7m1, k7m2, k7m3, k7m4, k7m5]
  instanceTypes := #[(.array .byte), .byte, .int, .boolean]
  staticTypes := #[.long, .boolean, (.array (.object "java/io/ObjectStreamField")), .char, (.object "java/util/Comparator"), .byte, .byte]
  resolved := Array.replicate 1451 none
  statics := some 0 }

def pool8 : Array CpInfo := pool [(1, .methodref 2 3), (0, .class_ 4), (0, .nameAndType 5 6), (0, u "java/lang/Object"), (0, u "<init>"), (0, u "()V"), (0, .fieldref 8 9), (0, .class_ 10), (0, .nameAndType 11 12), (0, u "com/example/charterbook/charterbook/book/JsonValue"), (0, u "kind"), (0, u "Lcom/example/charterbook/charterbook/book/JsonValue$Kind;"), (0, .fieldref 8 14), (0, .nameAndType 15 16), (0, u "members"), (0, u "Ljava/util/Map;"), (0, .fieldref 8 18), (0, .nameAndType 19 20), (0, u "elements"), (0, u "Ljava/util/List;"), (0, .fieldref 8 22), (0, .nameAndType 23 24), (0, u "text"), (0, u "Ljava/lang/String;"), (0, .fieldref 8 26), (0, .nameAndType 27 28), (0, u "number"), (0, u "Ljava/math/BigDecimal;"), (0, .fieldref 8 30), (0, .nameAndType 31 32), (0, u "whole"), (0, u "Z"), (0, .fieldref 34 35), (0, .class_ 36), (0, .nameAndType 37 12), (0, u "com/example/charterbook/charterbook/book/JsonValue$Kind"), (0, u "OBJECT"), (3, .methodref 8 42), (0, .nameAndType 5 43), (0, u "(Lcom/example/charterbook/charterbook/book/JsonValue$Kind;Ljava/util/Map;Ljava/util/List;Ljava/lang/String;Ljava/math/BigDecimal;Z)V"), (0, .fieldref 34 45), (0, .nameAndType 46 12), (0, u "LIST"), (3, .fieldref 34 51), (0, .nameAndType 52 12), (0, u "TEXT"), (0, .string 54), (0, u "'text' is required."), (0, .methodref 56 57), (0, .class_ 58), (0, .nameAndType 59 60), (0, u "java/util/Objects"), (0, u "requireNonNull"), (0, u "(Ljava/lang/Object;Ljava/lang/String;)Ljava/lang/Object;"), (0, .class_ 62), (0, u "java/lang/String"), (17, .fieldref 34 81), (0, .nameAndType 82 12), (0, u "NUMBER"), (0, .methodref 8 84), (0, .nameAndType 85 86), (0, u "requireKind"), (0, u "(Lcom/example/charterbook/charterbook/book/JsonValue$Kind;)V"), (12, u "(Ljava/lang/String;)Lcom/example/charterbook/charterbook/book/JsonValue;"), (11, .fieldref 34 112), (0, .nameAndType 113 12), (0, u "TRUE"), (0, .fieldref 34 115), (0, .nameAndType 116 12), (0, u "FALSE"), (25, u "isBoolean"), (0, u "()Z"), (15, .class_ 161), (1, u "com/example/charterbook/charterbook/book/JsonValue$Form"), (9, u "()Ljava/lang/String;"), (114, u "HEX_DIGITS"), (0, u "[C"), (5, u "Lcom/example/charterbook/charterbook/book/JsonValue;"), (4, u "NULL"), (8, u "INDENT"), (13, u "isObject"), (0, u "isList"), (0, u "isText"), (0, u "isNumber"), (0, u "isWholeNumber")] 32

def k8c0 : Code := { maxStack := 2, maxLocals := 7, code := prog_21_method_1_code, exceptionTable := #[], attributes := #[] }
def k8m0 : Method := { name := "<init>", desc := "(Lcom/example/charterbook/charterbook/book/JsonValue$Kind;Ljava/util/Map;Ljava/util/List;Ljava/lang/String;Ljava/math/BigDecimal;Z)V", sig := { parameters := [(.object "com/example/charterbook/charterbook/book/JsonValue$Kind"), (.object "java/util/Map"), (.object "java/util/List"), (.object "java/lang/String"), (.object "java/math/BigDecimal"), .boolean], returnType := none }, accessFlags := 2, code := some k8c0 }
def k8c1 : Code := { maxStack := 8, maxLocals := 1, code := prog_21_method_4_code, exceptionTable := #[], attributes := #[] }
def k8m1 : Method := { name := "text", desc := "(Ljava/lang/String;)Lcom/example/charterbook/charterbook/book/JsonValue;", sig := { parameters := [(.object "java/lang/String")], returnType := some (.object "com/example/charterbook/charterbook/book/JsonValue") }, accessFlags := 8, code := some k8c1 }
def k8c2 : Code := { maxStack := 2, maxLocals := 1, code := prog_21_method_9_code, exceptionTable := #[], attributes := #[] }
def k8m2 : Method := { name := "isObject", desc := "()Z", sig := { parameters := [], returnType := some .boolean }, accessFlags := 0, code := some k8c2 }
def k8c3 : Code := { maxStack := 2, maxLocals := 1, code := prog_21_method_10_code, exceptionTable := #[], attributes := #[] }
def k8m3 : Method := { name := "isList", desc := "()Z", sig := { parameters := [], returnType := some .boolean }, accessFlags := 0, code := some k8c3 }
def k8c4 : Code := { maxStack := 2, maxLocals := 1, code := prog_21_method_11_code, exceptionTable := #[], attributes := #[] }
def k8m4 : Method := { name := "isText", desc := "()Z", sig := { parameters := [], returnType := some .boolean }, accessFlags := 0, code := some k8c4 }
def k8c5 : Code := { maxStack := 2, maxLocals := 1, code := prog_21_method_12_code, exceptionTable := #[], attributes := #[] }
def k8m5 : Method := { name := "isNumber", desc := "()Z", sig := { parameters := [], returnType := some .boolean }, accessFlags := 0, code := some k8c5 }
def k8c6 : Code := { maxStack := 2, maxLocals := 1, code := prog_21_method_13_code, exceptionTable := #[], attributes := #[] }
def k8m6 : Method := { name := "isWholeNumber", desc := "()Z", sig := { parameters := [], returnType := some .boolean }, accessFlags := 0, code := some k8c6 }
def k8c7 : Code := { maxStack := 2, maxLocals := 1, code := prog_21_method_14_code, exceptionTable := #[], attributes := #[] }
def k8m7 : Method := { name := "isBoolean", desc := "()Z", sig := { parameters := [], returnType := some .boolean }, accessFlags := 0, code := some k8c7 }
def k8c8 : Code := { maxStack := 2, maxLocals := 1, code := prog_21_method_20_code, exceptionTable := #[], attributes := #[] }
def k8m8 : Method := { name := "text", desc := "()Ljava/lang/String;", sig := { parameters := [], returnType := some (.object "java/lang/String") }, accessFlags := 0, code := some k8c8 }
def k8c9 : Code := { maxStack := 4, maxLocals := 2, code := prog_21_method_31_code, exceptionTable := #[], attributes := #[] }
def k8m9 : Method := { name := "requireKind", desc := "(Lcom/example/charterbook/charterbook/book/JsonValue$Kind;)V", sig := { parameters := [(.object "com/example/charterbook/charterbook/book/JsonValue$Kind")], returnType := none }, accessFlags := 2, code := some k8c9 }
/-- com/example/charterbook/charterbook/book/JsonValue -/
def k8 : Class := { plain "com/example/charterbook/charterbook/book/JsonValue" (some 0) with
  accessFlags := 48
  interfaces := #[]
  cf := some (fileOf pool8 8 #[.nestMembers #[159, 34]] #[{ accessFlags := 2, nameIndex := 5, descriptorIndex := 43, attributes := #[] }, { accessFlags := 8, nameIndex := 23, descriptorIndex := 99, attributes := #[] }, { accessFlags := 0, nameIndex := 321, descriptorIndex := 143, attributes := #[] }, { accessFlags := 0, nameIndex := 322, descriptorIndex := 143, attributes := #[] }, { accessFlags := 0, nameIndex := 323, descriptorIndex := 143, attributes := #[] }, { accessFlags := 0, nameIndex := 324, descriptorIndex := 143, attributes := #[] }, { accessFlags := 0, nameIndex := 325, descriptorIndex := 143, attributes := #[] }, { accessFlags := 0, nameIndex := 142, descriptorIndex := 143, attributes := #[] }, { accessFlags := 0, nameIndex := 23, descriptorIndex := 171, attributes := #[] }, { accessFlags := 2, nameIndex := 85, descriptorIndex := 86, attributes := #[] }] 48 2 #[] #[{ accessFlags := 24, nameIndex := 113, descriptorIndex := 293, attributes := #[] }, { accessFlags := 24, nameIndex := 116, descriptorIndex := 293, attributes := #[] }, { accessFlags := 24, nameIndex := 298, descriptorIndex := 293, attributes := #[] }, { accessFlags := 26, nameIndex := 307, descriptorIndex := 24, attributes := #[] }, { accessFlags := 26, nameIndex := 286, descriptorIndex := 287, attributes := #[] }, { accessFlags := 18, nameIndex := 11, descriptorIndex := 12, attributes := #[] }, { accessFlags := 18, nameIndex := 15, descriptorIndex := 16, attributes := #[] }, { accessFlags := 18, nameIndex := 19, descriptorIndex := 20, attributes := #[] }, { accessFlags := 18, nameIndex := 23, descriptorIndex := 24, attributes := #[] }, { accessFlags := 18, nameIndex := 27, descriptorIndex := 28, attributes := #[] }, { accessFlags := 18, nameIndex := 31, descriptorIndex := 32, attributes := #[] }])
  fields := #[{ name := "TRUE", type := (.object "com/example/charterbook/charterbook/book/JsonValue"), accessFlags := 24, slot := 0, constantValue := 0 }, { name := "FALSE", type := (.object "com/example/charterbook/charterbook/book/JsonValue"), accessFlags := 24, slot := 1, constantValue := 0 }, { name := "NULL", type := (.object "com/example/charterbook/charterbook/book/JsonValue"), accessFlags := 24, slot := 2, constantValue := 0 }, { name := "INDENT", type := (.object "java/lang/String"), accessFlags := 26, slot := 3, constantValue := 0 }, { name := "HEX_DIGITS", type := (.array .char), accessFlags := 26, slot := 4, constantValue := 0 }, { name := "kind", type := (.object "com/example/charterbook/charterbook/book/JsonValue$Kind"), accessFlags := 18, slot := 0, constantValue := 0 }, { name := "members", type := (.object "java/util/Map"), accessFlags := 18, slot := 1, constantValue := 0 }, { name := "elements", type := (.object "java/util/List"), accessFlags := 18, slot := 2, constantValue := 0 }, { name := "text", type := (.object "java/lang/String"), accessFlags := 18, slot := 3, constantValue := 0 }, { name := "number", type := (.object "java/math/BigDecimal"), accessFlags := 18, slot := 4, constantValue := 0 }, { name := "whole", type := .boolean, accessFlags := 18, slot := 5, constantValue := 0 }]
  methods := #[k8m0, k8m1, k8m2, k8m3, k8m4, k8m5, k8m6, k8m7, k8m8, k8m9]
  instanceTypes := #[(.object "com/example/charterbook/charterbook/book/JsonValue$Kind"), (.object "java/util/Map"), (.object "java/util/List"), (.object "java/lang/String"), (.object "java/math/BigDecimal"), .boolean]
  staticTypes := #[(.object "com/example/charterbook/charterbook/book/JsonValue"), (.object "com/example/charterbook/charterbook/book/JsonValue"), (.object "com/example/charterbook/charterbook/book/JsonValue"), (.object "java/lang/String"), (.array .char)]
  resolved := Array.replicate 358 none
  statics := none }

def pool9 : Array CpInfo := pool [(2, .class_ 4), (1, u "java/lang/Enum"), (0, u "name"), (0, u "Ljava/lang/String;"), (2, u "ordinal"), (0, u "I"), (1, .class_ 14), (1, u "java/lang/Object"), (4, u "hash"), (86, .class_ 108), (1, u "java/lang/Enum$EnumDesc"), (2, .class_ 112), (0, u "java/lang/constant/Constable"), (0, .class_ 114), (0, u "java/lang/Comparable"), (0, .class_ 116), (0, u "java/io/Serializable")] 87

/-- java/lang/Enum -/
def k9 : Class := { plain "java/lang/Enum" (some 0) with
  accessFlags := 1057
  interfaces := #[5, 3, 2]
  cf := some (fileOf pool9 2 #[.nestMembers #[106]] #[] 1057 12 #[111, 113, 115] #[{ accessFlags := 18, nameIndex := 5, descriptorIndex := 6, attributes := #[] }, { accessFlags := 18, nameIndex := 9, descriptorIndex := 10, attributes := #[] }, { accessFlags := 2, nameIndex := 19, descriptorIndex := 10, attributes := #[] }])
  fields := #[{ name := "name", type := (.object "java/lang/String"), accessFlags := 18, slot := 0, constantValue := 0 }, { name := "ordinal", type := .int, accessFlags := 18, slot := 1, constantValue := 0 }, { name := "hash", type := .int, accessFlags := 2, slot := 2, constantValue := 0 }]
  methods := #[]
  instanceTypes := #[(.object "java/lang/String"), .int, .int]
  staticTypes := #[]
  resolved := Array.replicate 204 none
  statics := none }

def pool10 : Array CpInfo := pool [(1, .class_ 2), (0, u "com/example/charterbook/charterbook/book/JsonValue$Kind"), (2, u "OBJECT"), (0, u "Lcom/example/charterbook/charterbook/book/JsonValue$Kind;"), (2, u "LIST"), (2, u "TEXT"), (2, u "NUMBER"), (2, u "TRUE"), (2, u "FALSE"), (2, u "NULL"), (2, u "$VALUES"), (0, u "[Lcom/example/charterbook/charterbook/book/JsonValue$Kind;"), (6, .class_ 37), (1, u "java/lang/Enum"), (30, .class_ 69), (0, u "com/example/charterbook/charterbook/book/JsonValue")] 2

/-- com/example/charterbook/charterbook/book/JsonValue$Kind -/
def k10 : Class := { plain "com/example/charterbook/charterbook/book/JsonValue$Kind" (some 9) with
  accessFlags := 16432
  interfaces := #[]
  cf := some (fileOf pool10 1 #[.nestHost 68] #[] 16432 35 #[] #[{ accessFlags := 16409, nameIndex := 5, descriptorIndex := 6, attributes := #[] }, { accessFlags := 16409, nameIndex := 9, descriptorIndex := 6, attributes := #[] }, { accessFlags := 16409, nameIndex := 12, descriptorIndex := 6, attributes := #[] }, { accessFlags := 16409, nameIndex := 15, descriptorIndex := 6, attributes := #[] }, { accessFlags := 16409, nameIndex := 18, descriptorIndex := 6, attributes := #[] }, { accessFlags := 16409, nameIndex := 21, descriptorIndex := 6, attributes := #[] }, { accessFlags := 16409, nameIndex := 24, descriptorIndex := 6, attributes := #[] }, { accessFlags := 4122, nameIndex := 27, descriptorIndex := 28, attributes := #[] }])
  fields := #[{ name := "OBJECT", type := (.object "com/example/charterbook/charterbook/book/JsonValue$Kind"), accessFlags := 16409, slot := 0, constantValue := 0 }, { name := "LIST", type := (.object "com/example/charterbook/charterbook/book/JsonValue$Kind"), accessFlags := 16409, slot := 1, constantValue := 0 }, { name := "TEXT", type := (.object "com/example/charterbook/charterbook/book/JsonValue$Kind"), accessFlags := 16409, slot := 2, constantValue := 0 }, { name := "NUMBER", type := (.object "com/example/charterbook/charterbook/book/JsonValue$Kind"), accessFlags := 16409, slot := 3, constantValue := 0 }, { name := "TRUE", type := (.object "com/example/charterbook/charterbook/book/JsonValue$Kind"), accessFlags := 16409, slot := 4, constantValue := 0 }, { name := "FALSE", type := (.object "com/example/charterbook/charterbook/book/JsonValue$Kind"), accessFlags := 16409, slot := 5, constantValue := 0 }, { name := "NULL", type := (.object "com/example/charterbook/charterbook/book/JsonValue$Kind"), accessFlags := 16409, slot := 6, constantValue := 0 }, { name := "$VALUES", type := (.array (.object "com/example/charterbook/charterbook/book/JsonValue$Kind")), accessFlags := 4122, slot := 7, constantValue := 0 }]
  methods := #[]
  instanceTypes := #[(.object "java/lang/String"), .int, .int]
  staticTypes := #[(.object "com/example/charterbook/charterbook/book/JsonValue$Kind"), (.object "com/example/charterbook/charterbook/book/JsonValue$Kind"), (.object "com/example/charterbook/charterbook/book/JsonValue$Kind"), (.object "com/example/charterbook/charterbook/book/JsonValue$Kind"), (.object "com/example/charterbook/charterbook/book/JsonValue$Kind"), (.object "com/example/charterbook/charterbook/book/JsonValue$Kind"), (.object "com/example/charterbook/charterbook/book/JsonValue$Kind"), (.array (.object "com/example/charterbook/charterbook/book/JsonValue$Kind"))]
  resolved := Array.replicate 72 none
  statics := some 1 }

def pool11 : Array CpInfo := pool [(2, .class_ 4), (1, u "java/lang/Object"), (0, u "<init>"), (0, u "()V"), (35, .class_ 44), (1, u "java/util/Objects"), (0, u "requireNonNull"), (48, u "(Ljava/lang/Object;Ljava/lang/String;)Ljava/lang/Object;")] 89

def k11m0 : Method := { name := "<init>", desc := "()V", sig := { parameters := [], returnType := none }, accessFlags := 2, code := none }
def k11c1 : Code := { maxStack := 3, maxLocals := 2, code := jdk_31_method_11_code, exceptionTable := #[], attributes := #[] }
def k11m1 : Method := { name := "requireNonNull", desc := "(Ljava/lang/Object;Ljava/lang/String;)Ljava/lang/Object;", sig := { parameters := [(.object "java/lang/Object"), (.object "java/lang/String")], returnType := some (.object "java/lang/Object") }, accessFlags := 9, code := some k11c1 }
/-- java/util/Objects -/
def k11 : Class := { plain "java/util/Objects" (some 0) with
  accessFlags := 49
  interfaces := #[]
  cf := some (fileOf pool11 42 #[] #[{ accessFlags := 2, nameIndex := 5, descriptorIndex := 6, attributes := #[] }, { accessFlags := 9, nameIndex := 45, descriptorIndex := 94, attributes := #[] }] 49 2 #[] #[])
  fields := #[]
  methods := #[k11m0, k11m1]
  instanceTypes := #[]
  staticTypes := #[]
  resolved := Array.replicate 184 none
  statics := none }

def pool12 : Array CpInfo := pool [(4, .class_ 6), (1, u "java/lang/Object"), (0, u "<init>"), (0, u "()V"), (5, .class_ 16), (1, u "java/lang/StringLatin1"), (104, u "$assertionsDisabled"), (0, u "Z"), (98, .class_ 223), (1, u "java/lang/StringLatin1$LinesSpliterator"), (57, u "equals"), (0, u "([B[B)Z"), (107, .class_ 391), (0, u "java/lang/StringLatin1$CharsSpliterator")] 3

def k12m0 : Method := { name := "<init>", desc := "()V", sig := { parameters := [], returnType := none }, accessFlags := 0, code := none }
def k12c1 : Code := { maxStack := 3, maxLocals := 3, code := jdk_43_method_13_code, exceptionTable := #[], attributes := #[] }
def k12m1 : Method := { name := "equals", desc := "([B[B)Z", sig := { parameters := [(.array .byte), (.array .byte)], returnType := some .boolean }, accessFlags := 9, code := some k12c1 }
/-- java/lang/StringLatin1 -/
def k12 : Class := { plain "java/lang/StringLatin1" (some 0) with
  accessFlags := 48
  interfaces := #[]
  cf := some (fileOf pool12 14 #[.nestMembers #[390, 221]] #[{ accessFlags := 0, nameIndex := 7, descriptorIndex := 8, attributes := #[] }, { accessFlags := 9, nameIndex := 281, descriptorIndex := 282, attributes := #[] }] 48 4 #[] #[{ accessFlags := 4120, nameIndex := 121, descriptorIndex := 122, attributes := #[] }])
  fields := #[{ name := "$assertionsDisabled", type := .boolean, accessFlags := 4120, slot := 0, constantValue := 0 }]
  methods := #[k12m0, k12m1]
  instanceTypes := #[]
  staticTypes := #[.boolean]
  resolved := Array.replicate 395 none
  statics := none }

def pool13 : Array CpInfo := pool [(6, .class_ 8), (1, u "java/lang/Object"), (0, u "<init>"), (0, u "()V"), (0, .methodref 12 13), (0, .class_ 14), (0, .nameAndType 15 16), (0, u "java/lang/StringUTF16"), (0, u "newBytesLength"), (0, u "(I)I"), (3, .integer 1073741823), (23, .fieldref 12 45), (0, .nameAndType 46 47), (0, u "$assertionsDisabled"), (0, u "Z"), (11, .fieldref 12 60), (0, .nameAndType 61 62), (0, u "HI_BYTE_SHIFT"), (0, u "I"), (0, .fieldref 12 64), (0, .nameAndType 65 62), (0, u "LO_BYTE_SHIFT"), (5, .methodref 12 72), (0, .nameAndType 73 74), (0, u "getChar"), (0, u "([BI)C"), (32, .methodref 12 108), (0, .nameAndType 109 110), (0, u "newBytesFor"), (0, u "(I)[B"), (0, .methodref 12 112), (0, .nameAndType 113 114), (0, u "putChar"), (0, u "([BII)V"), (0, .methodref 12 116), (0, .nameAndType 117 118), (0, u "compress"), (0, u "([CI[BII)I"), (0, .methodref 12 120), (0, .nameAndType 121 122), (0, u "toBytes"), (0, u "([CII)[B"), (138, u "coderFromArrayLen"), (0, u "([BI)B"), (106, .class_ 371), (1, u "java/lang/StringUTF16$LinesSpliterator"), (58, u "MAX_LENGTH"), (196, .class_ 628), (0, u "java/lang/StringUTF16$CodePointsSpliterator"), (0, .class_ 630), (0, u "java/lang/StringUTF16$CharsSpliterator")] 4

def k13m0 : Method := { name := "<init>", desc := "()V", sig := { parameters := [], returnType := none }, accessFlags := 0, code := none }
def k13c1 : Code := { maxStack := 1, maxLocals := 1, code := jdk_52_method_2_code, exceptionTable := #[], attributes := #[] }
def k13m1 : Method := { name := "newBytesFor", desc := "(I)[B", sig := { parameters := [.int], returnType := some (.array .byte) }, accessFlags := 9, code := some k13c1 }
def k13c2 : Code := { maxStack := 4, maxLocals := 1, code := jdk_52_method_3_code, exceptionTable := #[], attributes := #[] }
def k13m2 : Method := { name := "newBytesLength", desc := "(I)I", sig := { parameters := [.int], returnType := some .int }, accessFlags := 9, code := some k13c2 }
def k13c3 : Code := { maxStack := 4, maxLocals := 3, code := jdk_52_method_4_code, exceptionTable := #[], attributes := #[] }
def k13m3 : Method := { name := "putChar", desc := "([BII)V", sig := { parameters := [(.array .byte), .int, .int], returnType := none }, accessFlags := 8, code := some k13c3 }
def k13c4 : Code := { maxStack := 3, maxLocals := 2, code := jdk_52_method_5_code, exceptionTable := #[], attributes := #[] }
def k13m4 : Method := { name := "getChar", desc := "([BI)C", sig := { parameters := [(.array .byte), .int], returnType := some .char }, accessFlags := 8, code := some k13c4 }
def k13c5 : Code := { maxStack := 4, maxLocals := 5, code := jdk_52_method_14_code, exceptionTable := #[], attributes := #[] }
def k13m5 : Method := { name := "toBytes", desc := "([CII)[B", sig := { parameters := [(.array .char), .int, .int], returnType := some (.array .byte) }, accessFlags := 9, code := some k13c5 }
def k13c6 : Code := { maxStack := 2, maxLocals := 2, code := jdk_52_method_15_code, exceptionTable := #[], attributes := #[] }
def k13m6 : Method := { name := "coderFromArrayLen", desc := "([BI)B", sig := { parameters := [(.array .byte), .int], returnType := some .byte }, accessFlags := 8, code := some k13c6 }
def k13c7 : Code := { maxStack := 5, maxLocals := 6, code := jdk_52_method_16_code, exceptionTable := #[], attributes := #[] }
def k13m7 : Method := { name := "compress", desc := "([CII)[B", sig := { parameters := [(.array .char), .int, .int], returnType := some (.array .byte) }, accessFlags := 9, code := some k13c7 }
def k13c8 : Code := { maxStack := 3, maxLocals := 7, code := jdk_52_method_21_code, exceptionTable := #[], attributes := #[] }
def k13m8 : Method := { name := "compress", desc := "([CI[BII)I", sig := { parameters := [(.array .char), .int, (.array .byte), .int, .int], returnType := some .int }, accessFlags := 9, code := some k13c8 }
/-- java/lang/StringUTF16 -/
def k13 : Class := { plain "java/lang/StringUTF16" (some 0) with
  accessFlags := 48
  interfaces := #[]
  cf := some (fileOf pool13 12 #[.nestMembers #[627, 629, 369]] #[{ accessFlags := 0, nameIndex := 9, descriptorIndex := 10, attributes := #[] }, { accessFlags := 9, nameIndex := 109, descriptorIndex := 110, attributes := #[] }, { accessFlags := 9, nameIndex := 15, descriptorIndex := 16, attributes := #[] }, { accessFlags := 8, nameIndex := 113, descriptorIndex := 114, attributes := #[] }, { accessFlags := 8, nameIndex := 73, descriptorIndex := 74, attributes := #[] }, { accessFlags := 9, nameIndex := 121, descriptorIndex := 122, attributes := #[] }, { accessFlags := 8, nameIndex := 261, descriptorIndex := 262, attributes := #[] }, { accessFlags := 9, nameIndex := 117, descriptorIndex := 122, attributes := #[] }, { accessFlags := 9, nameIndex := 117, descriptorIndex := 118, attributes := #[] }] 48 6 #[] #[{ accessFlags := 26, nameIndex := 61, descriptorIndex := 62, attributes := #[] }, { accessFlags := 26, nameIndex := 65, descriptorIndex := 62, attributes := #[] }, { accessFlags := 24, nameIndex := 430, descriptorIndex := 62, attributes := #[] }, { accessFlags := 4120, nameIndex := 46, descriptorIndex := 47, attributes := #[] }])
  fields := #[{ name := "HI_BYTE_SHIFT", type := .int, accessFlags := 26, slot := 0, constantValue := 0 }, { name := "LO_BYTE_SHIFT", type := .int, accessFlags := 26, slot := 1, constantValue := 0 }, { name := "MAX_LENGTH", type := .int, accessFlags := 24, slot := 2, constantValue := 0 }, { name := "$assertionsDisabled", type := .boolean, accessFlags := 4120, slot := 3, constantValue := 0 }]
  methods := #[k13m0, k13m1, k13m2, k13m3, k13m4, k13m5, k13m6, k13m7, k13m8]
  instanceTypes := #[]
  staticTypes := #[.int, .int, .int, .boolean]
  resolved := Array.replicate 635 none
  statics := some 2 }

def pool14 : Array CpInfo := pool [(2, .class_ 4), (1, u "java/lang/Object"), (0, u "<init>"), (0, u "()V"), (17, .class_ 26), (1, u "jdk/internal/util/Preconditions"), (28, .class_ 56), (0, u "jdk/internal/util/Preconditions$4"), (57, .class_ 115), (0, u "jdk/internal/util/Preconditions$1"), (7, u "SIOOBE_FORMATTER"), (0, u "Ljava/util/function/BiFunction;"), (0, .class_ 126), (0, u "jdk/internal/util/Preconditions$2"), (3, u "AIOOBE_FORMATTER"), (0, .class_ 132), (0, u "jdk/internal/util/Preconditions$3"), (3, u "IOOBE_FORMATTER")] 57

def k14m0 : Method := { name := "<init>", desc := "()V", sig := { parameters := [], returnType := none }, accessFlags := 1, code := none }
/-- jdk/internal/util/Preconditions -/
def k14 : Class := { plain "jdk/internal/util/Preconditions" (some 0) with
  accessFlags := 33
  interfaces := #[]
  cf := some (fileOf pool14 24 #[.nestMembers #[55, 131, 125, 114]] #[{ accessFlags := 1, nameIndex := 5, descriptorIndex := 6, attributes := #[] }] 33 2 #[] #[{ accessFlags := 25, nameIndex := 123, descriptorIndex := 124, attributes := #[] }, { accessFlags := 25, nameIndex := 130, descriptorIndex := 124, attributes := #[] }, { accessFlags := 25, nameIndex := 136, descriptorIndex := 124, attributes := #[] }])
  fields := #[{ name := "SIOOBE_FORMATTER", type := (.object "java/util/function/BiFunction"), accessFlags := 25, slot := 0, constantValue := 0 }, { name := "AIOOBE_FORMATTER", type := (.object "java/util/function/BiFunction"), accessFlags := 25, slot := 1, constantValue := 0 }, { name := "IOOBE_FORMATTER", type := (.object "java/util/function/BiFunction"), accessFlags := 25, slot := 2, constantValue := 0 }]
  methods := #[k14m0]
  instanceTypes := #[]
  staticTypes := #[(.object "java/util/function/BiFunction"), (.object "java/util/function/BiFunction"), (.object "java/util/function/BiFunction")]
  resolved := Array.replicate 194 none
  statics := some 3 }

def pool15 : Array CpInfo := pool [(9, u "<init>"), (6, .class_ 18), (1, u "java/lang/Object"), (0, u "()V"), (1, .class_ 23), (1, u "jdk/internal/util/ArraysSupport"), (0, u "LOG2_ARRAY_LONG_INDEX_SCALE"), (0, u "I"), (2, u "U"), (0, u "Ljdk/internal/misc/Unsafe;"), (8, u "BIG_ENDIAN"), (0, u "Z"), (8, u "LOG2_BYTE_BIT_SIZE"), (4, u "LOG2_ARRAY_INT_INDEX_SCALE"), (54, u "JLA"), (0, u "Ljdk/internal/access/JavaLangAccess;"), (11, u "LOG2_ARRAY_BOOLEAN_INDEX_SCALE"), (9, u "LOG2_ARRAY_BYTE_INDEX_SCALE"), (5, u "LOG2_ARRAY_CHAR_INDEX_SCALE"), (5, u "LOG2_ARRAY_SHORT_INDEX_SCALE"), (18, u "LOG2_ARRAY_FLOAT_INDEX_SCALE"), (24, u "LOG2_ARRAY_DOUBLE_INDEX_SCALE"), (89, u "T_BOOLEAN"), (2, u "T_CHAR"), (1, u "T_FLOAT"), (1, u "T_DOUBLE"), (1, u "T_BYTE"), (1, u "T_SHORT"), (1, u "T_INT"), (1, u "T_LONG"), (1, u "SOFT_MAX_ARRAY_LENGTH")] 83

def k15m0 : Method := { name := "<init>", desc := "()V", sig := { parameters := [], returnType := none }, accessFlags := 2, code := none }
/-- jdk/internal/util/ArraysSupport -/
def k15 : Class := { plain "jdk/internal/util/ArraysSupport" (some 0) with
  accessFlags := 33
  interfaces := #[]
  cf := some (fileOf pool15 21 #[] #[{ accessFlags := 2, nameIndex := 9, descriptorIndex := 19, attributes := #[] }] 33 16 #[] #[{ accessFlags := 24, nameIndex := 28, descriptorIndex := 29, attributes := #[] }, { accessFlags := 26, nameIndex := 38, descriptorIndex := 39, attributes := #[] }, { accessFlags := 25, nameIndex := 121, descriptorIndex := 25, attributes := #[] }, { accessFlags := 25, nameIndex := 131, descriptorIndex := 25, attributes := #[] }, { accessFlags := 25, nameIndex := 137, descriptorIndex := 25, attributes := #[] }, { accessFlags := 25, nameIndex := 143, descriptorIndex := 25, attributes := #[] }, { accessFlags := 25, nameIndex := 53, descriptorIndex := 25, attributes := #[] }, { accessFlags := 25, nameIndex := 24, descriptorIndex := 25, attributes := #[] }, { accessFlags := 25, nameIndex := 162, descriptorIndex := 25, attributes := #[] }, { accessFlags := 25, nameIndex := 187, descriptorIndex := 25, attributes := #[] }, { accessFlags := 26, nameIndex := 48, descriptorIndex := 25, attributes := #[] }, { accessFlags := 25, nameIndex := 277, descriptorIndex := 25, attributes := #[] }, { accessFlags := 25, nameIndex := 280, descriptorIndex := 25, attributes := #[] }, { accessFlags := 25, nameIndex := 282, descriptorIndex := 25, attributes := #[] }, { accessFlags := 25, nameIndex := 284, descriptorIndex := 25, attributes := #[] }, { accessFlags := 25, nameIndex := 286, descriptorIndex := 25, attributes := #[] }, { accessFlags := 25, nameIndex := 288, descriptorIndex := 25, attributes := #[] }, { accessFlags := 25, nameIndex := 290, descriptorIndex := 25, attributes := #[] }, { accessFlags := 25, nameIndex := 292, descriptorIndex := 25, attributes := #[] }, { accessFlags := 26, nameIndex := 108, descriptorIndex := 109, attributes := #[] }, { accessFlags := 25, nameIndex := 294, descriptorIndex := 25, attributes := #[] }])
  fields := #[{ name := "U", type := (.object "jdk/internal/misc/Unsafe"), accessFlags := 24, slot := 0, constantValue := 0 }, { name := "BIG_ENDIAN", type := .boolean, accessFlags := 26, slot := 1, constantValue := 0 }, { name := "LOG2_ARRAY_BOOLEAN_INDEX_SCALE", type := .int, accessFlags := 25, slot := 2, constantValue := 0 }, { name := "LOG2_ARRAY_BYTE_INDEX_SCALE", type := .int, accessFlags := 25, slot := 3, constantValue := 0 }, { name := "LOG2_ARRAY_CHAR_INDEX_SCALE", type := .int, accessFlags := 25, slot := 4, constantValue := 0 }, { name := "LOG2_ARRAY_SHORT_INDEX_SCALE", type := .int, accessFlags := 25, slot := 5, constantValue := 0 }, { name := "LOG2_ARRAY_INT_INDEX_SCALE", type := .int, accessFlags := 25, slot := 6, constantValue := 0 }, { name := "LOG2_ARRAY_LONG_INDEX_SCALE", type := .int, accessFlags := 25, slot := 7, constantValue := 0 }, { name := "LOG2_ARRAY_FLOAT_INDEX_SCALE", type := .int, accessFlags := 25, slot := 8, constantValue := 0 }, { name := "LOG2_ARRAY_DOUBLE_INDEX_SCALE", type := .int, accessFlags := 25, slot := 9, constantValue := 0 }, { name := "LOG2_BYTE_BIT_SIZE", type := .int, accessFlags := 26, slot := 10, constantValue := 0 }, { name := "T_BOOLEAN", type := .int, accessFlags := 25, slot := 11, constantValue := 0 }, { name := "T_CHAR", type := .int, accessFlags := 25, slot := 12, constantValue := 0 }, { name := "T_FLOAT", type := .int, accessFlags := 25, slot := 13, constantValue := 0 }, { name := "T_DOUBLE", type := .int, accessFlags := 25, slot := 14, constantValue := 0 }, { name := "T_BYTE", type := .int, accessFlags := 25, slot := 15, constantValue := 0 }, { name := "T_SHORT", type := .int, accessFlags := 25, slot := 16, constantValue := 0 }, { name := "T_INT", type := .int, accessFlags := 25, slot := 17, constantValue := 0 }, { name := "T_LONG", type := .int, accessFlags := 25, slot := 18, constantValue := 0 }, { name := "JLA", type := (.object "jdk/internal/access/JavaLangAccess"), accessFlags := 26, slot := 19, constantValue := 0 }, { name := "SOFT_MAX_ARRAY_LENGTH", type := .int, accessFlags := 25, slot := 20, constantValue := 0 }]
  methods := #[k15m0]
  instanceTypes := #[]
  staticTypes := #[(.object "jdk/internal/misc/Unsafe"), .boolean, .int, .int, .int, .int, .int, .int, .int, .int, .int, .int, .int, .int, .int, .int, .int, .int, .int, (.object "jdk/internal/access/JavaLangAccess"), .int]
  resolved := Array.replicate 378 none
  statics := none }

def pool16 : Array CpInfo := pool [(1, u "java/lang/Cloneable"), (0, .class_ 1), (0, u "java/lang/Object"), (0, .class_ 3)] 3

/-- java/lang/Cloneable -/
def k16 : Class := { plain "java/lang/Cloneable" (some 0) with
  accessFlags := 1537
  interfaces := #[]
  cf := some (fileOf pool16 2 #[] #[] 1537 4 #[] #[])
  fields := #[]
  methods := #[]
  instanceTypes := #[]
  staticTypes := #[]
  resolved := Array.replicate 8 none
  statics := none }

/-- the primitive byte -/
def k17 : Class := { plain "byte" none with kind := .primitive 'B', accessFlags := 0x411 }
/-- [B -/
def k18 : Class := { plain "[B" (some 0) with kind := .array 17 .byte, interfaces := #[16, 2], accessFlags := 1041 }

/-- the primitive char -/
def k19 : Class := { plain "char" none with kind := .primitive 'C', accessFlags := 0x411 }
/-- [C -/
def k20 : Class := { plain "[C" (some 0) with kind := .array 19 .char, interfaces := #[16, 2], accessFlags := 1041 }

/-- the primitive int -/
def k21 : Class := { plain "int" none with kind := .primitive 'I', accessFlags := 0x411 }
/-- [I -/
def k22 : Class := { plain "[I" (some 0) with kind := .array 21 .int, interfaces := #[16, 2], accessFlags := 1041 }

def heap : Heap := #[{ cls := 7, slots := #[.long 0, .int 1, .null, .int 0, .null, .int 0, .int 0], vm := .statics 7 },
  { cls := 10, slots := #[.ref 5, .ref 6, .ref 4, .ref 7, .ref 8, .ref 9, .null, .null], vm := .statics 10 },
  { cls := 13, slots := #[.int 0, .int 8, .int 0, .int 1], vm := .statics 13 },
  { cls := 14, slots := #[.null, .null, .null], vm := .statics 14 },
  { cls := 10, slots := #[.null, .int 2, .int 0], vm := .none },
  { cls := 10, slots := #[.null, .int 0, .int 0], vm := .none },
  { cls := 10, slots := #[.null, .int 1, .int 0], vm := .none },
  { cls := 10, slots := #[.null, .int 3, .int 0], vm := .none },
  { cls := 10, slots := #[.null, .int 4, .int 0], vm := .none },
  { cls := 10, slots := #[.null, .int 5, .int 0], vm := .none }]
def classes : Array Class := #[k0, k1, k2, k3, k4, k5, k6, k7, k8, k9, k10, k11, k12, k13, k14, k15, k16, k17, k18, k19, k20, k21, k22]
def interned : List (Array UInt16 × Addr) := []
def slotsUsed : Nat := 40
def theMethod : MethodId := ⟨1, 1⟩
def args0 : Array Value := #[.int 2, .int 65, .int 300, .int 7]
def aboutOver (below : List Frame) : State where
  vm := { classes := classes, interned := interned.toArray }
  heap := heap
  slotsUsed := slotsUsed
  threads := #[{ frames := .invoking theMethod args0 :: below }]
def below0 : List Frame := [.native { method := ⟨0, 0⟩, args := #[] }]
def about1 : State := aboutOver below0
def p0 : Program := .bare "" "" ""
def e0 : Env := launch0.env 0 0 0
theorem w_frames : about1.frames = Frame.invoking theMethod args0 :: below0 := rfl
set_option maxRecDepth 65536 in
theorem w_args : argsFit about1.vm theMethod args0 = true := by decide +kernel
set_option maxRecDepth 65536 in
theorem w_heap : heapFits about1 = true := by decide +kernel
set_option maxRecDepth 65536 in
theorem w_runnable : about1.curStatus? = some .runnable := by decide +kernel
set_option maxRecDepth 65536 in
theorem w_alone : about1.alone = true := by decide +kernel
set_option maxRecDepth 65536 in
theorem w_named : about1.methodNamed? x = some theMethod := by decide +kernel
set_option maxRecDepth 65536 in
theorem w_hears : about1.hears theMethod below0 = true := by decide +kernel
set_option maxRecDepth 65536 in
theorem w_ripe : about1.ripe theMethod args0 below0 = true := by decide +kernel
theorem w_running : about1.status = .running := rfl
set_option maxRecDepth 65536 in
theorem w_room : about1.hasRoom e0.platform room_1 = true :=
  launch0.hasRoom_least _ room_1 (by decide +kernel) (by decide +kernel) (by decide +kernel) (by decide +kernel) (by decide +kernel) (by decide +kernel)
theorem allAtoms_all (ts : List Jvm.Cond) (a : Array Jvm.Value) (st : Jvm.State) : (allAtoms ts).before a st = ts.all (fun c => c.before a st) := by
  induction ts with
  | nil => rfl
  | cons c t ih =>
    show (Jvm.Cond.and c (allAtoms t)).before a st = _
    rw [Jvm.Cond.before_and, ih, List.all_cons]
def words1 : List Jvm.Cond := Jvm.Cond.code x code maxLocals ret :: tables_1
/-- a 'code' word, met by the world's own term for the bytes: nothing is compared byte by byte -/
theorem code_word {y : MethodName} {bytes : ByteArray} {mx : Nat} {rt : Option FieldType} {a : Array Value} {s : State} {m : MethodId} {meth : Method} {c : Code} (h1 : s.methodNamed? y = some m) (h2 : s.vm.method? m = some meth) (h3 : meth.code = some c) (h4 : c.code = bytes)
    (h5 : (c.maxLocals == mx && c.exceptionTable.isEmpty && decide (c.maxStack ≤ mostOperands) && decide (meth.sig.returnType = rt) && !meth.locks && decide (parseMethodDescriptor y.desc = some meth.sig)) = true) : (Jvm.Cond.code y bytes mx rt).before a s = true := by
  simp only [Bool.and_eq_true, beq_iff_eq, Bool.not_eq_true', decide_eq_true_eq] at h5
  obtain ⟨⟨⟨⟨⟨g1, g2⟩, g3⟩, g4⟩, g5⟩, g6⟩ := h5
  simp [Cond.before, Cond.holds, Cond.value, h1, h2, h3, h4, g1, g2, g3, g4, g5, g6]
def isCode : Jvm.Cond → Bool
  | .code _ _ _ _ => true
  | _ => false
theorem all_split {L : List Jvm.Cond} {P : Jvm.Cond → Bool} (h1 : L.all (fun c => isCode c || P c) = true) (h2 : ∀ c ∈ L.filter isCode, P c = true) : L.all P = true := by
  refine List.all_eq_true.mpr fun c hc => ?_
  have h := List.all_eq_true.mp h1 c hc
  rcases Bool.eq_false_or_eq_true (isCode c) with hi | hi
  · exact h2 c (List.mem_filter.mpr ⟨hc, hi⟩)
  · simpa [hi] using h
set_option maxRecDepth 65536 in
theorem w_c0 : (Jvm.Cond.code x code maxLocals ret).before args0 about1 = true := code_word (m := ⟨1, 1⟩) (meth := k1m1) (c := k1c1) (by decide +kernel) rfl rfl rfl (by decide +kernel)
set_option maxRecDepth 65536 in
theorem w_c1 : (Jvm.Cond.code ({ cls := "com/example/charterbook/charterbook/book/JsonValueTextPinLaw", name := "make", desc := "(ICCC)[C" } : Jvm.MethodName) method_3_code (4 : Nat) (Option.some (Jvm.ClassFile.FieldType.array Jvm.ClassFile.FieldType.char))).before args0 about1 = true := code_word (m := ⟨1, 2⟩) (meth := k1m2) (c := k1c2) (by decide +kernel) rfl rfl rfl (by decide +kernel)
set_option maxRecDepth 65536 in
theorem w_c2 : (Jvm.Cond.code ({ cls := "java/lang/String", name := "<init>", desc := "([C)V" } : Jvm.MethodName) jdk_42_method_3_code (2 : Nat) (Option.none : Option Jvm.ClassFile.FieldType)).before args0 about1 = true := code_word (m := ⟨7, 1⟩) (meth := k7m1) (c := k7c1) (by decide +kernel) rfl rfl rfl (by decide +kernel)
set_option maxRecDepth 65536 in
theorem w_c3 : (Jvm.Cond.code ({ cls := "java/lang/String", name := "<init>", desc := "([CIILjava/lang/Void;)V" } : Jvm.MethodName) jdk_42_method_149_code (6 : Nat) (Option.none : Option Jvm.ClassFile.FieldType)).before args0 about1 = true := code_word (m := ⟨7, 4⟩) (meth := k7m4) (c := k7c4) (by decide +kernel) rfl rfl rfl (by decide +kernel)
set_option maxRecDepth 65536 in
theorem w_c4 : (Jvm.Cond.code ({ cls := "java/lang/Object", name := "<init>", desc := "()V" } : Jvm.MethodName) object_method_1_code (1 : Nat) (Option.none : Option Jvm.ClassFile.FieldType)).before args0 about1 = true := code_word (m := ⟨0, 0⟩) (meth := k0m0) (c := k0c0) (by decide +kernel) rfl rfl rfl (by decide +kernel)
set_option maxRecDepth 65536 in
theorem w_c5 : (Jvm.Cond.code ({ cls := "com/example/charterbook/charterbook/book/JsonValue", name := "text", desc := "(Ljava/lang/String;)Lcom/example/charterbook/charterbook/book/JsonValue;" } : Jvm.MethodName) prog_21_method_4_code (1 : Nat) (Option.some (Jvm.ClassFile.FieldType.object "com/example/charterbook/charterbook/book/JsonValue"))).before args0 about1 = true := code_word (m := ⟨8, 1⟩) (meth := k8m1) (c := k8c1) (by decide +kernel) rfl rfl rfl (by decide +kernel)
set_option maxRecDepth 65536 in
theorem w_c6 : (Jvm.Cond.code ({ cls := "java/util/Objects", name := "requireNonNull", desc := "(Ljava/lang/Object;Ljava/lang/String;)Ljava/lang/Object;" } : Jvm.MethodName) jdk_31_method_11_code (2 : Nat) (Option.some (Jvm.ClassFile.FieldType.object "java/lang/Object"))).before args0 about1 = true := code_word (m := ⟨11, 1⟩) (meth := k11m1) (c := k11c1) (by decide +kernel) rfl rfl rfl (by decide +kernel)
set_option maxRecDepth 65536 in
theorem w_c7 : (Jvm.Cond.code ({ cls := "com/example/charterbook/charterbook/book/JsonValue", name := "<init>", desc := "(Lcom/example/charterbook/charterbook/book/JsonValue$Kind;Ljava/util/Map;Ljava/util/List;Ljava/lang/String;Ljava/math/BigDecimal;Z)V" } : Jvm.MethodName) prog_21_method_1_code (7 : Nat) (Option.none : Option Jvm.ClassFile.FieldType)).before args0 about1 = true := code_word (m := ⟨8, 0⟩) (meth := k8m0) (c := k8c0) (by decide +kernel) rfl rfl rfl (by decide +kernel)
set_option maxRecDepth 65536 in
theorem w_c8 : (Jvm.Cond.code ({ cls := "com/example/charterbook/charterbook/book/JsonValue", name := "text", desc := "()Ljava/lang/String;" } : Jvm.MethodName) prog_21_method_20_code (1 : Nat) (Option.some (Jvm.ClassFile.FieldType.object "java/lang/String"))).before args0 about1 = true := code_word (m := ⟨8, 8⟩) (meth := k8m8) (c := k8c8) (by decide +kernel) rfl rfl rfl (by decide +kernel)
set_option maxRecDepth 65536 in
theorem w_c9 : (Jvm.Cond.code ({ cls := "com/example/charterbook/charterbook/book/JsonValue", name := "requireKind", desc := "(Lcom/example/charterbook/charterbook/book/JsonValue$Kind;)V" } : Jvm.MethodName) prog_21_method_31_code (2 : Nat) (Option.none : Option Jvm.ClassFile.FieldType)).before args0 about1 = true := code_word (m := ⟨8, 9⟩) (meth := k8m9) (c := k8c9) (by decide +kernel) rfl rfl rfl (by decide +kernel)
set_option maxRecDepth 65536 in
theorem w_c10 : (Jvm.Cond.code ({ cls := "com/example/charterbook/charterbook/book/JsonValue", name := "isText", desc := "()Z" } : Jvm.MethodName) prog_21_method_11_code (1 : Nat) (Option.some Jvm.ClassFile.FieldType.boolean)).before args0 about1 = true := code_word (m := ⟨8, 4⟩) (meth := k8m4) (c := k8c4) (by decide +kernel) rfl rfl rfl (by decide +kernel)
set_option maxRecDepth 65536 in
theorem w_c11 : (Jvm.Cond.code ({ cls := "java/lang/String", name := "equals", desc := "(Ljava/lang/Object;)Z" } : Jvm.MethodName) jdk_42_method_66_code (3 : Nat) (Option.some Jvm.ClassFile.FieldType.boolean)).before args0 about1 = true := code_word (m := ⟨7, 3⟩) (meth := k7m3) (c := k7c3) (by decide +kernel) rfl rfl rfl (by decide +kernel)
set_option maxRecDepth 65536 in
theorem w_c12 : (Jvm.Cond.code ({ cls := "java/lang/StringLatin1", name := "equals", desc := "([B[B)Z" } : Jvm.MethodName) jdk_43_method_13_code (3 : Nat) (Option.some Jvm.ClassFile.FieldType.boolean)).before args0 about1 = true := code_word (m := ⟨12, 1⟩) (meth := k12m1) (c := k12c1) (by decide +kernel) rfl rfl rfl (by decide +kernel)
set_option maxRecDepth 65536 in
theorem w_c13 : (Jvm.Cond.code ({ cls := "java/lang/String", name := "length", desc := "()I" } : Jvm.MethodName) jdk_42_method_54_code (1 : Nat) (Option.some Jvm.ClassFile.FieldType.int)).before args0 about1 = true := code_word (m := ⟨7, 2⟩) (meth := k7m2) (c := k7c2) (by decide +kernel) rfl rfl rfl (by decide +kernel)
set_option maxRecDepth 65536 in
theorem w_c14 : (Jvm.Cond.code ({ cls := "java/lang/String", name := "coder", desc := "()B" } : Jvm.MethodName) jdk_42_method_152_code (1 : Nat) (Option.some Jvm.ClassFile.FieldType.byte)).before args0 about1 = true := code_word (m := ⟨7, 5⟩) (meth := k7m5) (c := k7c5) (by decide +kernel) rfl rfl rfl (by decide +kernel)
set_option maxRecDepth 65536 in
theorem w_c15 : (Jvm.Cond.code ({ cls := "com/example/charterbook/charterbook/book/JsonValue", name := "isObject", desc := "()Z" } : Jvm.MethodName) prog_21_method_9_code (1 : Nat) (Option.some Jvm.ClassFile.FieldType.boolean)).before args0 about1 = true := code_word (m := ⟨8, 2⟩) (meth := k8m2) (c := k8c2) (by decide +kernel) rfl rfl rfl (by decide +kernel)
set_option maxRecDepth 65536 in
theorem w_c16 : (Jvm.Cond.code ({ cls := "com/example/charterbook/charterbook/book/JsonValue", name := "isList", desc := "()Z" } : Jvm.MethodName) prog_21_method_10_code (1 : Nat) (Option.some Jvm.ClassFile.FieldType.boolean)).before args0 about1 = true := code_word (m := ⟨8, 3⟩) (meth := k8m3) (c := k8c3) (by decide +kernel) rfl rfl rfl (by decide +kernel)
set_option maxRecDepth 65536 in
theorem w_c17 : (Jvm.Cond.code ({ cls := "com/example/charterbook/charterbook/book/JsonValue", name := "isNumber", desc := "()Z" } : Jvm.MethodName) prog_21_method_12_code (1 : Nat) (Option.some Jvm.ClassFile.FieldType.boolean)).before args0 about1 = true := code_word (m := ⟨8, 5⟩) (meth := k8m5) (c := k8c5) (by decide +kernel) rfl rfl rfl (by decide +kernel)
set_option maxRecDepth 65536 in
theorem w_c18 : (Jvm.Cond.code ({ cls := "com/example/charterbook/charterbook/book/JsonValue", name := "isWholeNumber", desc := "()Z" } : Jvm.MethodName) prog_21_method_13_code (1 : Nat) (Option.some Jvm.ClassFile.FieldType.boolean)).before args0 about1 = true := code_word (m := ⟨8, 6⟩) (meth := k8m6) (c := k8c6) (by decide +kernel) rfl rfl rfl (by decide +kernel)
set_option maxRecDepth 65536 in
theorem w_c19 : (Jvm.Cond.code ({ cls := "com/example/charterbook/charterbook/book/JsonValue", name := "isBoolean", desc := "()Z" } : Jvm.MethodName) prog_21_method_14_code (1 : Nat) (Option.some Jvm.ClassFile.FieldType.boolean)).before args0 about1 = true := code_word (m := ⟨8, 7⟩) (meth := k8m7) (c := k8c7) (by decide +kernel) rfl rfl rfl (by decide +kernel)
set_option maxRecDepth 65536 in
theorem w_c20 : (Jvm.Cond.code ({ cls := "java/lang/StringUTF16", name := "compress", desc := "([CII)[B" } : Jvm.MethodName) jdk_52_method_16_code (6 : Nat) (Option.some (Jvm.ClassFile.FieldType.array Jvm.ClassFile.FieldType.byte))).before args0 about1 = true := code_word (m := ⟨13, 7⟩) (meth := k13m7) (c := k13c7) (by decide +kernel) rfl rfl rfl (by decide +kernel)
set_option maxRecDepth 65536 in
theorem w_c21 : (Jvm.Cond.code ({ cls := "java/lang/StringUTF16", name := "compress", desc := "([CI[BII)I" } : Jvm.MethodName) jdk_52_method_21_code (7 : Nat) (Option.some Jvm.ClassFile.FieldType.int)).before args0 about1 = true := code_word (m := ⟨13, 8⟩) (meth := k13m8) (c := k13c8) (by decide +kernel) rfl rfl rfl (by decide +kernel)
set_option maxRecDepth 65536 in
theorem w_c22 : (Jvm.Cond.code ({ cls := "java/lang/StringUTF16", name := "coderFromArrayLen", desc := "([BI)B" } : Jvm.MethodName) jdk_52_method_15_code (2 : Nat) (Option.some Jvm.ClassFile.FieldType.byte)).before args0 about1 = true := code_word (m := ⟨13, 6⟩) (meth := k13m6) (c := k13c6) (by decide +kernel) rfl rfl rfl (by decide +kernel)
set_option maxRecDepth 65536 in
theorem w_c23 : (Jvm.Cond.code ({ cls := "java/lang/StringUTF16", name := "toBytes", desc := "([CII)[B" } : Jvm.MethodName) jdk_52_method_14_code (5 : Nat) (Option.some (Jvm.ClassFile.FieldType.array Jvm.ClassFile.FieldType.byte))).before args0 about1 = true := code_word (m := ⟨13, 5⟩) (meth := k13m5) (c := k13c5) (by decide +kernel) rfl rfl rfl (by decide +kernel)
set_option maxRecDepth 65536 in
theorem w_c24 : (Jvm.Cond.code ({ cls := "java/lang/StringUTF16", name := "newBytesFor", desc := "(I)[B" } : Jvm.MethodName) jdk_52_method_2_code (1 : Nat) (Option.some (Jvm.ClassFile.FieldType.array Jvm.ClassFile.FieldType.byte))).before args0 about1 = true := code_word (m := ⟨13, 1⟩) (meth := k13m1) (c := k13c1) (by decide +kernel) rfl rfl rfl (by decide +kernel)
set_option maxRecDepth 65536 in
theorem w_c25 : (Jvm.Cond.code ({ cls := "java/lang/StringUTF16", name := "newBytesLength", desc := "(I)I" } : Jvm.MethodName) jdk_52_method_3_code (1 : Nat) (Option.some Jvm.ClassFile.FieldType.int)).before args0 about1 = true := code_word (m := ⟨13, 2⟩) (meth := k13m2) (c := k13c2) (by decide +kernel) rfl rfl rfl (by decide +kernel)
set_option maxRecDepth 65536 in
theorem w_c26 : (Jvm.Cond.code ({ cls := "java/lang/StringUTF16", name := "putChar", desc := "([BII)V" } : Jvm.MethodName) jdk_52_method_4_code (3 : Nat) (Option.none : Option Jvm.ClassFile.FieldType)).before args0 about1 = true := code_word (m := ⟨13, 3⟩) (meth := k13m3) (c := k13c3) (by decide +kernel) rfl rfl rfl (by decide +kernel)
set_option maxRecDepth 65536 in
theorem w_c27 : (Jvm.Cond.code ({ cls := "java/lang/StringUTF16", name := "getChar", desc := "([BI)C" } : Jvm.MethodName) jdk_52_method_5_code (2 : Nat) (Option.some Jvm.ClassFile.FieldType.char)).before args0 about1 = true := code_word (m := ⟨13, 4⟩) (meth := k13m4) (c := k13c4) (by decide +kernel) rfl rfl rfl (by decide +kernel)
def codes1 : List Jvm.Cond := [Jvm.Cond.code x code maxLocals ret, Jvm.Cond.code ({ cls := "com/example/charterbook/charterbook/book/JsonValueTextPinLaw", name := "make", desc := "(ICCC)[C" } : Jvm.MethodName) method_3_code (4 : Nat) (Option.some (Jvm.ClassFile.FieldType.array Jvm.ClassFile.FieldType.char)), Jvm.Cond.code ({ cls := "java/lang/String", name := "<init>", desc := "([C)V" } : Jvm.MethodName) jdk_42_method_3_code (2 : Nat) (Option.none : Option Jvm.ClassFile.FieldType), Jvm.Cond.code ({ cls := "java/lang/String", name := "<init>", desc := "([CIILjava/lang/Void;)V" } : Jvm.MethodName) jdk_42_method_149_code (6 : Nat) (Option.none : Option Jvm.ClassFile.FieldType), Jvm.Cond.code ({ cls := "java/lang/Object", name := "<init>", desc := "()V" } : Jvm.MethodName) object_method_1_code (1 : Nat) (Option.none : Option Jvm.ClassFile.FieldType), Jvm.Cond.code ({ cls := "com/example/charterbook/charterbook/book/JsonValue", name := "text", desc := "(Ljava/lang/String;)Lcom/example/charterbook/charterbook/book/JsonValue;" } : Jvm.MethodName) prog_21_method_4_code (1 : Nat) (Option.some (Jvm.ClassFile.FieldType.object "com/example/charterbook/charterbook/book/JsonValue")), Jvm.Cond.code ({ cls := "java/util/Objects", name := "requireNonNull", desc := "(Ljava/lang/Object;Ljava/lang/String;)Ljava/lang/Object;" } : Jvm.MethodName) jdk_31_method_11_code (2 : Nat) (Option.some (Jvm.ClassFile.FieldType.object "java/lang/Object")), Jvm.Cond.code ({ cls := "com/example/charterbook/charterbook/book/JsonValue", name := "<init>", desc := "(Lcom/example/charterbook/charterbook/book/JsonValue$Kind;Ljava/util/Map;Ljava/util/List;Ljava/lang/String;Ljava/math/BigDecimal;Z)V" } : Jvm.MethodName) prog_21_method_1_code (7 : Nat) (Option.none : Option Jvm.ClassFile.FieldType), Jvm.Cond.code ({ cls := "com/example/charterbook/charterbook/book/JsonValue", name := "text", desc := "()Ljava/lang/String;" } : Jvm.MethodName) prog_21_method_20_code (1 : Nat) (Option.some (Jvm.ClassFile.FieldType.object "java/lang/String")), Jvm.Cond.code ({ cls := "com/example/charterbook/charterbook/book/JsonValue", name := "requireKind", desc := "(Lcom/example/charterbook/charterbook/book/JsonValue$Kind;)V" } : Jvm.MethodName) prog_21_method_31_code (2 : Nat) (Option.none : Option Jvm.ClassFile.FieldType), Jvm.Cond.code ({ cls := "com/example/charterbook/charterbook/book/JsonValue", name := "isText", desc := "()Z" } : Jvm.MethodName) prog_21_method_11_code (1 : Nat) (Option.some Jvm.ClassFile.FieldType.boolean), Jvm.Cond.code ({ cls := "java/lang/String", name := "equals", desc := "(Ljava/lang/Object;)Z" } : Jvm.MethodName) jdk_42_method_66_code (3 : Nat) (Option.some Jvm.ClassFile.FieldType.boolean), Jvm.Cond.code ({ cls := "java/lang/StringLatin1", name := "equals", desc := "([B[B)Z" } : Jvm.MethodName) jdk_43_method_13_code (3 : Nat) (Option.some Jvm.ClassFile.FieldType.boolean), Jvm.Cond.code ({ cls := "java/lang/String", name := "length", desc := "()I" } : Jvm.MethodName) jdk_42_method_54_code (1 : Nat) (Option.some Jvm.ClassFile.FieldType.int), Jvm.Cond.code ({ cls := "java/lang/String", name := "coder", desc := "()B" } : Jvm.MethodName) jdk_42_method_152_code (1 : Nat) (Option.some Jvm.ClassFile.FieldType.byte), Jvm.Cond.code ({ cls := "com/example/charterbook/charterbook/book/JsonValue", name := "isObject", desc := "()Z" } : Jvm.MethodName) prog_21_method_9_code (1 : Nat) (Option.some Jvm.ClassFile.FieldType.boolean), Jvm.Cond.code ({ cls := "com/example/charterbook/charterbook/book/JsonValue", name := "isList", desc := "()Z" } : Jvm.MethodName) prog_21_method_10_code (1 : Nat) (Option.some Jvm.ClassFile.FieldType.boolean), Jvm.Cond.code ({ cls := "com/example/charterbook/charterbook/book/JsonValue", name := "isNumber", desc := "()Z" } : Jvm.MethodName) prog_21_method_12_code (1 : Nat) (Option.some Jvm.ClassFile.FieldType.boolean), Jvm.Cond.code ({ cls := "com/example/charterbook/charterbook/book/JsonValue", name := "isWholeNumber", desc := "()Z" } : Jvm.MethodName) prog_21_method_13_code (1 : Nat) (Option.some Jvm.ClassFile.FieldType.boolean), Jvm.Cond.code ({ cls := "com/example/charterbook/charterbook/book/JsonValue", name := "isBoolean", desc := "()Z" } : Jvm.MethodName) prog_21_method_14_code (1 : Nat) (Option.some Jvm.ClassFile.FieldType.boolean), Jvm.Cond.code ({ cls := "java/lang/StringUTF16", name := "compress", desc := "([CII)[B" } : Jvm.MethodName) jdk_52_method_16_code (6 : Nat) (Option.some (Jvm.ClassFile.FieldType.array Jvm.ClassFile.FieldType.byte)), Jvm.Cond.code ({ cls := "java/lang/StringUTF16", name := "compress", desc := "([CI[BII)I" } : Jvm.MethodName) jdk_52_method_21_code (7 : Nat) (Option.some Jvm.ClassFile.FieldType.int), Jvm.Cond.code ({ cls := "java/lang/StringUTF16", name := "coderFromArrayLen", desc := "([BI)B" } : Jvm.MethodName) jdk_52_method_15_code (2 : Nat) (Option.some Jvm.ClassFile.FieldType.byte), Jvm.Cond.code ({ cls := "java/lang/StringUTF16", name := "toBytes", desc := "([CII)[B" } : Jvm.MethodName) jdk_52_method_14_code (5 : Nat) (Option.some (Jvm.ClassFile.FieldType.array Jvm.ClassFile.FieldType.byte)), Jvm.Cond.code ({ cls := "java/lang/StringUTF16", name := "newBytesFor", desc := "(I)[B" } : Jvm.MethodName) jdk_52_method_2_code (1 : Nat) (Option.some (Jvm.ClassFile.FieldType.array Jvm.ClassFile.FieldType.byte)), Jvm.Cond.code ({ cls := "java/lang/StringUTF16", name := "newBytesLength", desc := "(I)I" } : Jvm.MethodName) jdk_52_method_3_code (1 : Nat) (Option.some Jvm.ClassFile.FieldType.int), Jvm.Cond.code ({ cls := "java/lang/StringUTF16", name := "putChar", desc := "([BII)V" } : Jvm.MethodName) jdk_52_method_4_code (3 : Nat) (Option.none : Option Jvm.ClassFile.FieldType), Jvm.Cond.code ({ cls := "java/lang/StringUTF16", name := "getChar", desc := "([BI)C" } : Jvm.MethodName) jdk_52_method_5_code (2 : Nat) (Option.some Jvm.ClassFile.FieldType.char)]
set_option maxRecDepth 65536 in
theorem codes_eq : words1.filter isCode = codes1 := rfl
theorem w_codes : ∀ c ∈ words1.filter isCode, c.before args0 about1 = true := by
  rw [codes_eq]
  intro c hc
  simp only [codes1, List.mem_cons, List.not_mem_nil, or_false] at hc
  rcases hc with rfl | rfl | rfl | rfl | rfl | rfl | rfl | rfl | rfl | rfl | rfl | rfl | rfl | rfl | rfl | rfl | rfl | rfl | rfl | rfl | rfl | rfl | rfl | rfl | rfl | rfl | rfl | rfl
  · exact w_c0
  · exact w_c1
  · exact w_c2
  · exact w_c3
  · exact w_c4
  · exact w_c5
  · exact w_c6
  · exact w_c7
  · exact w_c8
  · exact w_c9
  · exact w_c10
  · exact w_c11
  · exact w_c12
  · exact w_c13
  · exact w_c14
  · exact w_c15
  · exact w_c16
  · exact w_c17
  · exact w_c18
  · exact w_c19
  · exact w_c20
  · exact w_c21
  · exact w_c22
  · exact w_c23
  · exact w_c24
  · exact w_c25
  · exact w_c26
  · exact w_c27
set_option maxRecDepth 65536 in
theorem w_t1 : (words1.take 24).all (fun c => isCode c || c.before args0 about1) = true := by decide +kernel
set_option maxRecDepth 65536 in
theorem w_t2 : ((words1.drop 24).take 24).all (fun c => isCode c || c.before args0 about1) = true := by decide +kernel
set_option maxRecDepth 65536 in
theorem w_t3 : (((words1.drop 24).drop 24).take 24).all (fun c => isCode c || c.before args0 about1) = true := by decide +kernel
set_option maxRecDepth 65536 in
theorem w_t4 : ((((words1.drop 24).drop 24).drop 24).take 24).all (fun c => isCode c || c.before args0 about1) = true := by decide +kernel
set_option maxRecDepth 65536 in
theorem w_t5 : (((((words1.drop 24).drop 24).drop 24).drop 24).take 24).all (fun c => isCode c || c.before args0 about1) = true := by decide +kernel
set_option maxRecDepth 65536 in
theorem w_t6 : ((((((words1.drop 24).drop 24).drop 24).drop 24).drop 24).take 24).all (fun c => isCode c || c.before args0 about1) = true := by decide +kernel
set_option maxRecDepth 65536 in
theorem w_t7 : ((((((words1.drop 24).drop 24).drop 24).drop 24).drop 24).drop 24).all (fun c => isCode c || c.before args0 about1) = true := by decide +kernel
theorem w_tables : (allAtoms (Jvm.Cond.code x code maxLocals ret :: tables_1)).before args0 about1 = true := by
  rw [allAtoms_all]
  show words1.all (fun c => c.before args0 about1) = true
  refine all_split ?_ w_codes
  rw [← List.take_append_drop 24 words1, List.all_append, w_t1, ← List.take_append_drop 24 (words1.drop 24), List.all_append, w_t2, ← List.take_append_drop 24 ((words1.drop 24).drop 24), List.all_append, w_t3, ← List.take_append_drop 24 (((words1.drop 24).drop 24).drop 24), List.all_append, w_t4, ← List.take_append_drop 24 ((((words1.drop 24).drop 24).drop 24).drop 24), List.all_append, w_t5, ← List.take_append_drop 24 (((((words1.drop 24).drop 24).drop 24).drop 24).drop 24), List.all_append, w_t6, w_t7]
  rfl
set_option maxRecDepth 65536 in
theorem w_rest : rest_1_c.before args0 about1 = true := by decide +kernel
set_option maxRecDepth 65536 in
theorem w_case : (Jvm.Cond.and given_1 narrow_1).before args0 about1 = true := by decide +kernel
set_option maxRecDepth 65536 in
theorem w_consts : constsHeld consts_1 about1 := Jvm.Lit.constsHeldB_iff.mp (by decide +kernel)
theorem w_applies : (headSpec (Jvm.Cond.code x code maxLocals ret :: tables_1) room_1).applies x e0.platform about1 = true :=
  (Spec.applies_iff w_frames).mpr ⟨w_running, w_runnable, w_alone, w_named, w_hears, w_ripe, w_room, w_tables⟩
theorem atStart : AtStart classFile x code maxLocals ret World_1 tables_1 room_1 Calls_1 rest_1 Pre_1 launch0 p0 e0 about1 theMethod args0 below0 :=
  ⟨lists_1, trivial, launch0.admits_env _ _ _, launch0.least_env, fairChoices_fair.cas, fairChoices_fair.clock, w_frames, w_args, w_heap, w_applies, ⟨w_consts, trivial⟩, w_rest, w_case⟩
end start1
theorem witness_1 : WitnessClaimed_1 := ⟨start1.p0, start1.e0, start1.about1, start1.theMethod, start1.args0, start1.below0, start1.atStart⟩
end Jvm.Pilot.@@N@@
