import JvmDerived
import JvmDerived.Pilot.@@N@@Statement
import JvmDerived.Pilot.@@N@@Code
set_option linter.unusedVariables false
set_option linter.unusedSimpArgs false
namespace Jvm.OwnKit
open Sem ClassFile Op Lib Jvm.Stand Jvm.Free Jvm.LawKit Jvm.RoadKit
/-- what is fixed in the whole proof: the launch, the start (whose tables the words speak of), its arguments, the least new address -/
abbrev Gx := Launch × State × Array Value × Nat
abbrev Gx.l (G : Gx) : Launch := G.1
abbrev Gx.Z (G : Gx) : State := G.2.1
abbrev Gx.a0 (G : Gx) : Array Value := G.2.2.1
abbrev Gx.n0 (G : Gx) : Nat := G.2.2.2
/-- what is fixed in one body's walk -/
abbrev Kx := Program × Env × State × MethodId × Array Value × List Frame × Method × Code
abbrev Kx.p (K : Kx) : Program := K.1
abbrev Kx.e (K : Kx) : Env := K.2.1
abbrev Kx.s (K : Kx) : State := K.2.2.1
abbrev Kx.m (K : Kx) : MethodId := K.2.2.2.1
abbrev Kx.args (K : Kx) : Array Value := K.2.2.2.2.1
abbrev Kx.below (K : Kx) : List Frame := K.2.2.2.2.2.1
abbrev Kx.meth (K : Kx) : Method := K.2.2.2.2.2.2.1
abbrev Kx.c (K : Kx) : Code := K.2.2.2.2.2.2.2
def Cx (G : Gx) (K : Kx) (own nm : String) (bytes : ByteArray) (maxL : Nat) (ret : Option FieldType) (W : List Jvm.Cond) : Prop :=
  K.p.tables.exec = Jvm.exec ∧ G.Z.Warmed39 K.s.vm ∧ K.c.code = bytes ∧ K.c.maxLocals = maxL ∧ K.s.vm.findClass own = some K.m.cls ∧ K.meth.name = nm ∧ K.meth.sig.returnType = ret ∧ K.meth.locks = false ∧ ∀ d ∈ W, d.before G.a0 G.Z = true
section Cxs
variable {G : Gx} {K : Kx} {own nm : String} {bytes : ByteArray} {maxL : Nat} {ret : Option FieldType} {W : List Jvm.Cond}
theorem Cx.hx (C : Cx G K own nm bytes maxL ret W) : K.p.tables.exec = Jvm.exec := C.1
theorem Cx.hZ (C : Cx G K own nm bytes maxL ret W) : G.Z.Warmed39 K.s.vm := C.2.1
theorem Cx.by (C : Cx G K own nm bytes maxL ret W) : K.c.code = bytes := C.2.2.1
theorem Cx.ml (C : Cx G K own nm bytes maxL ret W) : K.c.maxLocals = maxL := C.2.2.2.1
theorem Cx.ow (C : Cx G K own nm bytes maxL ret W) : K.s.vm.findClass own = some K.m.cls := C.2.2.2.2.1
theorem Cx.name (C : Cx G K own nm bytes maxL ret W) : K.meth.name = nm := C.2.2.2.2.2.1
theorem Cx.rt (C : Cx G K own nm bytes maxL ret W) : K.meth.sig.returnType = ret := C.2.2.2.2.2.2.1
theorem Cx.lk (C : Cx G K own nm bytes maxL ret W) : K.meth.locks = false := C.2.2.2.2.2.2.2.1
theorem Cx.w (C : Cx G K own nm bytes maxL ret W) {i : Nat} {d : Jvm.Cond} (h : W[i]? = some d) : d.before G.a0 G.Z = true := C.2.2.2.2.2.2.2.2 d (List.mem_of_getElem? h)
end Cxs
/-- the run stands in this body at pc with these locals and this stack, over the heap h, having made so many cells and slots: it ends as Q says -/
def N (G : Gx) (K : Kx) (rm : Room) (Q : Option Value → Heap → Prop) (h : Heap) (cells slots pc : Nat) (ls : Array Slot) (st : List Value) : Prop :=
  ∀ (T : State) (locs : List Loc), Stand K.p G.l K.e rm K.s K.m K.args K.below K.meth K.c T locs cells slots → T.heap = h → Fr G.n0 locs →
    ∃ s₂ o, Steps K.p.tables K.e K.below (T.setTop (mkF K.m pc ls st)) s₂ ∧ s₂.status = .running ∧ Ended s₂ K.below o ∧ ∃ v L, o = .returned v ∧ (Q v s₂.heap ∧ Fr G.n0 L) ∧ FrameEnd K.s o s₂ L rm.cells rm.slots
/-- a body's contract -/
def Con (G : Gx) (y : MethodName) (bytes : ByteArray) (maxL : Nat) (ret : Option FieldType) (rm : Room) (as : Array Value) (h : Heap) (Q : Option Value → Heap → Prop) : Prop :=
  ∀ ws : List Jvm.Cond, MetFree G.l y (head1 (Jvm.Cond.code y bytes maxL ret :: ws) rm) (fun a U => a = as ∧ G.Z.Warmed39 U.vm ∧ U.heap = h) (fun _ _ _ _ _ => True) (fun _ U o U' => ∃ v L, o = .returned v ∧ (Q v U'.heap ∧ Fr G.n0 L) ∧ FrameEnd U o U' L rm.cells rm.slots)
theorem Con.of {G : Gx} {y : MethodName} {bytes : ByteArray} {maxL : Nat} {ret : Option FieldType} {rm : Room} {as : Array Value} {h : Heap} {Q : Option Value → Heap → Prop} {W : List Jvm.Cond} {ls : Array Slot} (hpl : plainFor y = true) (hW : ∀ d ∈ W, d.before G.a0 G.Z = true)
    (he : ∀ m, entryFrame m as maxL = mkF m 0 ls []) (body : ∀ K : Kx, Cx G K y.cls y.name bytes maxL ret W → N G K rm Q h 0 0 0 ls []) : Con G y bytes maxL ret rm as h Q := fun ws => by
  refine MetFree.of_bodySF hpl hisR ?_
  intro p e s m args below meth c s₁ Bd hml hP hK
  obtain ⟨rfl, hZ, hh⟩ := hP
  have X0 : Stand p G.l e rm s m args below meth c s₁ [] 0 0 := Stand.of_body Bd
  obtain ⟨s₂, o, h1, h2, h3, h4⟩ := body (p, e, s, m, args, below, meth, c) ⟨Bd.exec, hZ, Bd.bytes, hml, findClass_of_methodNamed Bd.named, (name_of_methodNamed Bd.named Bd.method).1, Bd.returns, BodyLoose.notSynchronized Bd, hW⟩ s₁ [] X0 (by rw [← hh, Bd.state]; rfl) (Fr.nil _)
  exact ⟨s₂, o, castTop (he m) h1, h2, h3, h4⟩
theorem Con.mono {G : Gx} {y : MethodName} {bytes : ByteArray} {maxL : Nat} {ret : Option FieldType} {rm : Room} {as : Array Value} {h : Heap} {Q Q' : Option Value → Heap → Prop} (M : Con G y bytes maxL ret rm as h Q) (f : ∀ v h', Q v h' → Q' v h') : Con G y bytes maxL ret rm as h Q' := fun ws p e ha hc hk s m args below hf happ hP hK => by
  obtain ⟨n, o, h1, h2, h3, v, L, h4, ⟨h5, h6⟩, h7⟩ := M ws p e ha hc hk s m args below hf happ hP hK
  exact ⟨n, o, h1, h2, h3, v, L, h4, ⟨f _ _ h5, h6⟩, h7⟩
def cmpP : ClassFile.Cond → Int32 → Int32 → Prop
  | .eq, x, y => x = y
  | .ne, x, y => ¬ x = y
  | .lt, x, y => x.toInt < y.toInt
  | .ge, x, y => y.toInt ≤ x.toInt
  | .gt, x, y => y.toInt < x.toInt
  | .le, x, y => x.toInt ≤ y.toInt
def cmpN : ClassFile.Cond → Int32 → Int32 → Prop
  | .eq, x, y => ¬ x = y
  | .ne, x, y => x = y
  | .lt, x, y => y.toInt ≤ x.toInt
  | .ge, x, y => x.toInt < y.toInt
  | .gt, x, y => x.toInt ≤ y.toInt
  | .le, x, y => y.toInt < x.toInt
theorem cmp_or (cd : ClassFile.Cond) (x y : Int32) : (if_icmp.holds cd x y = true ∧ cmpP cd x y) ∨ (if_icmp.holds cd x y = false ∧ cmpN cd x y) := by
  have e1 := @Int32.lt_iff_toInt_lt x y
  have e2 := @Int32.lt_iff_toInt_lt y x
  by_cases h1 : x < y
  · obtain ⟨a1, a2, a3, a4⟩ := tlt h1
    have q := e1.mp h1
    have n : ¬ x = y := fun e => by subst e; omega
    obtain ⟨b1, b2⟩ := feq n
    have n' : ¬ y < x := fun z => by have := e2.mp z; omega
    obtain ⟨c1, c2, c3, c4⟩ := flt n'
    cases cd <;> simp only [cmpP, cmpN] <;> simp_all <;> omega
  · obtain ⟨a1, a2, a3, a4⟩ := flt h1
    have q : ¬ x.toInt < y.toInt := fun z => h1 (e1.mpr z)
    by_cases h2 : x = y
    · obtain ⟨b1, b2⟩ := teq h2
      subst h2
      obtain ⟨c1, c2, c3, c4⟩ := flt h1
      cases cd <;> simp only [cmpP, cmpN] <;> simp_all
    · obtain ⟨b1, b2⟩ := feq h2
      have q2 : ¬ x.toInt = y.toInt := fun z => h2 (Int32.toInt_inj.mp z)
      obtain ⟨c1, c2, c3, c4⟩ := tlt (e2.mpr (by omega : y.toInt < x.toInt))
      cases cd <;> simp only [cmpP, cmpN] <;> simp_all <;> omega
def cmpPL : ClassFile.Cond → Int64 → Int64 → Prop
  | .eq, x, y => x = y
  | .ne, x, y => ¬ x = y
  | .lt, x, y => x.toInt < y.toInt
  | .ge, x, y => y.toInt ≤ x.toInt
  | .gt, x, y => y.toInt < x.toInt
  | .le, x, y => x.toInt ≤ y.toInt
def cmpNL : ClassFile.Cond → Int64 → Int64 → Prop
  | .eq, x, y => ¬ x = y
  | .ne, x, y => x = y
  | .lt, x, y => y.toInt ≤ x.toInt
  | .ge, x, y => x.toInt < y.toInt
  | .gt, x, y => x.toInt ≤ y.toInt
  | .le, x, y => y.toInt < x.toInt
theorem cmp_orL (cd : ClassFile.Cond) (x y : Int64) : (ifCond.holds cd (lcmpW x y) = true ∧ cmpPL cd x y) ∨ (ifCond.holds cd (lcmpW x y) = false ∧ cmpNL cd x y) := by
  have hl : (lcmpW x y).toInt < (0 : Int32).toInt ↔ x.toInt < y.toInt := by rw [← Int32.lt_iff_toInt_lt, ← Int64.lt_iff_toInt_lt]; exact lw_lt x y
  have hg : (0 : Int32).toInt < (lcmpW x y).toInt ↔ y.toInt < x.toInt := by rw [← Int32.lt_iff_toInt_lt, ← Int64.lt_iff_toInt_lt]; exact lw_gt x y
  have he := lw_eq x y
  generalize lcmpW x y = z at *
  rw [if0]
  rcases cmp_or cd z 0 with ⟨h1, h2⟩ | ⟨h1, h2⟩
  · refine Or.inl ⟨h1, ?_⟩
    cases cd <;> simp only [cmpP, cmpPL] at h2 ⊢ <;> first | exact he.mp h2 | exact fun q => h2 (he.mpr q) | omega
  · refine Or.inr ⟨h1, ?_⟩
    cases cd <;> simp only [cmpN, cmpNL] at h2 ⊢ <;> first | exact he.mp h2 | exact fun q => h2 (he.mpr q) | omega
/-- the array at x, of that type, holds just these -/
def Av (Z : State) (h : Heap) (x : Addr) (ty : FieldType) (vs : List Value) : Prop := ∃ c : Cell, Arr Z h x c ty ∧ c.slots.toList = vs
theorem ix {j : Int32} {i : Nat} (h : j.toInt = (i : Int)) : ¬ j < 0 ∧ j.toNatClampNeg = i := by
  refine ⟨fun q => ?_, ?_⟩
  · have := Int32.lt_iff_toInt_lt.mp q
    have e0 : (0 : Int32).toInt = 0 := by decide
    omega
  · show j.toInt.toNat = i
    omega
theorem ixin {j : Int32} {i n : Nat} (h : j.toInt = (i : Int)) (hi : i < n) : ¬ (j < 0 ∨ n ≤ j.toNatClampNeg) := by
  obtain ⟨h1, h2⟩ := ix h
  rintro (q | q)
  · exact h1 q
  · omega
theorem eqI {x y : Int32} (h : x = y) : x.toInt = y.toInt := h ▸ rfl
theorem neI {x y : Int32} (h : ¬ x = y) : ¬ x.toInt = y.toInt := fun q => h (Int32.toInt_inj.mp q)
theorem eqL {x y : Int64} (h : x = y) : x.toInt = y.toInt := h ▸ rfl
theorem neL {x y : Int64} (h : ¬ x = y) : ¬ x.toInt = y.toInt := fun q => h (Int64.toInt_inj.mp q)
section Avs
variable {Z : State} {h h' : Heap} {x y : Addr} {ty : FieldType} {vs : List Value} {i : Nat} {v : Value} {sl : Nat} {ws : List Addr}
theorem Av.lt (A : Av Z h x ty vs) : x < h.size := by obtain ⟨c, A, -⟩ := A; exact A.lt
theorem Av.ext (A : Av Z h x ty vs) (E : Ext h h') : Av Z h' x ty vs := by obtain ⟨c, A, r⟩ := A; exact ⟨c, A.ext E, r⟩
theorem Av.other (A : Av Z h x ty vs) (W : Wr h h' y sl v) (q : x ≠ y) : Av Z h' x ty vs := by obtain ⟨c, A, r⟩ := A; exact ⟨c, A.other W q, r⟩
theorem Av.keep (A : Av Z h x ty vs) (K : Keep h h' ws) (q : x ∉ ws) : Av Z h' x ty vs := by obtain ⟨c, A, r⟩ := A; exact ⟨c, ⟨K.2.1 x c A.1 q, A.2⟩, r⟩
theorem Av.same (A : Av Z h x ty vs) (W : Wr h h' x i v) : Av Z h' x ty (vs.set i v) := by
  obtain ⟨c, A, rfl⟩ := A
  exact ⟨_, A.same W, by simp [Cell.setSlot]⟩
theorem Av.new {k : ClassId} {z : Int32} (A : Arr Z h x (newA k ty z) ty) : Av Z h x ty (List.replicate z.toNatClampNeg (defaultValue ty)) := ⟨_, A, by simp [newA]⟩
end Avs
section Rules
variable {G : Gx} {K : Kx} {rm : Room} {own nm : String} {bytes : ByteArray} {maxL : Nat} {ret : Option FieldType} {W : List Jvm.Cond} {Q Q' : Option Value → Heap → Prop} {h : Heap} {a b pc pc' : Nat} {ls ls' : Array Slot} {st st' : List Value}
theorem N.step (f : ∀ T, At T K.m K.c K.below → ∀ t, Steps K.p.tables K.e K.below (T.setTop (mkF K.m pc' ls' st')) t → Steps K.p.tables K.e K.below (T.setTop (mkF K.m pc ls st)) t) (k : N G K rm Q h a b pc' ls' st') : N G K rm Q h a b pc ls st := fun T locs X e F => by
  obtain ⟨s₂, o, hs, r⟩ := k T locs X e F
  exact ⟨s₂, o, f T X.here _ hs, r⟩
theorem N.stX (f : ∀ (T : State) (locs : List Loc), Stand K.p G.l K.e rm K.s K.m K.args K.below K.meth K.c T locs a b → T.heap = h → ∀ t, Steps K.p.tables K.e K.below (T.setTop (mkF K.m pc' ls' st')) t → Steps K.p.tables K.e K.below (T.setTop (mkF K.m pc ls st)) t) (k : N G K rm Q h a b pc' ls' st') : N G K rm Q h a b pc ls st := fun T locs X e F => by
  obtain ⟨s₂, o, hs, r⟩ := k T locs X e F
  exact ⟨s₂, o, f T locs X e _ hs, r⟩
theorem N.mono (k : N G K rm Q h a b pc ls st) (f : ∀ v h', Q v h' → Q' v h') : N G K rm Q' h a b pc ls st := fun T locs X e F => by
  obtain ⟨s₂, o, h1, h2, h3, v, L, h4, ⟨h5, h6⟩, h7⟩ := k T locs X e F
  exact ⟨s₂, o, h1, h2, h3, v, L, h4, ⟨f _ _ h5, h6⟩, h7⟩
theorem N.more {a' b' : Nat} (k : N G K rm Q h a' b' pc ls st) (ha : a ≤ a') (hb : b ≤ b') : N G K rm Q h a b pc ls st := fun T locs X e F => k T locs (X.more ha hb) e F

theorem N.iload (C : Cx G K own nm bytes maxL ret W) {k : Nat} {v : Int32} (hd : decode bytes pc = .ok (.iload k, 2)) (hl : ls[k]? = some (.val (.int v))) (hp : pc + 2 = pc') (k : N G K rm Q h a b pc' ls (.int v :: st)) : N G K rm Q h a b pc ls (st) := by
  subst hp; exact N.step (fun T A t ht => XS.iload A C.hx rfl (hb C.by hd) hl ht) k
theorem N.iloadN (C : Cx G K own nm bytes maxL ret W) {k : Fin 4} {v : Int32} (hd : decode bytes pc = .ok (.iload_n k, 1)) (hl : ls[k.val]? = some (.val (.int v))) (hp : pc + 1 = pc') (k : N G K rm Q h a b pc' ls (.int v :: st)) : N G K rm Q h a b pc ls (st) := by
  subst hp; exact N.step (fun T A t ht => XS.iloadN A C.hx rfl (hb C.by hd) hl ht) k
theorem N.istore (C : Cx G K own nm bytes maxL ret W) {k : Nat} {v : Int32} (hd : decode bytes pc = .ok (.istore k, 2)) (hl : storeLocals ls k (.int v) = some ls') (hp : pc + 2 = pc') (k : N G K rm Q h a b pc' ls' (st)) : N G K rm Q h a b pc ls (.int v :: st) := by
  subst hp; exact N.step (fun T A t ht => XS.istore A C.hx rfl (hb C.by hd) rfl hl ht) k
theorem N.istoreN (C : Cx G K own nm bytes maxL ret W) {k : Fin 4} {v : Int32} (hd : decode bytes pc = .ok (.istore_n k, 1)) (hl : storeLocals ls k.val (.int v) = some ls') (hp : pc + 1 = pc') (k : N G K rm Q h a b pc' ls' (st)) : N G K rm Q h a b pc ls (.int v :: st) := by
  subst hp; exact N.step (fun T A t ht => XS.istoreN A C.hx rfl (hb C.by hd) rfl hl ht) k
theorem N.iadd (C : Cx G K own nm bytes maxL ret W) {x y : Int32} (hd : decode bytes pc = .ok (.iadd, 1)) (hp : pc + 1 = pc') (k : N G K rm Q h a b pc' ls (.int (x + y) :: st)) : N G K rm Q h a b pc ls (.int y :: .int x :: st) := by
  subst hp; exact N.step (fun T A t ht => XS.iadd A C.hx rfl (hb C.by hd) rfl ht) k
theorem N.isub (C : Cx G K own nm bytes maxL ret W) {x y : Int32} (hd : decode bytes pc = .ok (.isub, 1)) (hp : pc + 1 = pc') (k : N G K rm Q h a b pc' ls (.int (x - y) :: st)) : N G K rm Q h a b pc ls (.int y :: .int x :: st) := by
  subst hp; exact N.step (fun T A t ht => XS.isub A C.hx rfl (hb C.by hd) rfl ht) k
theorem N.imul (C : Cx G K own nm bytes maxL ret W) {x y : Int32} (hd : decode bytes pc = .ok (.imul, 1)) (hp : pc + 1 = pc') (k : N G K rm Q h a b pc' ls (.int (x * y) :: st)) : N G K rm Q h a b pc ls (.int y :: .int x :: st) := by
  subst hp; exact N.step (fun T A t ht => XS.imul A C.hx rfl (hb C.by hd) rfl ht) k
theorem N.iand (C : Cx G K own nm bytes maxL ret W) {x y : Int32} (hd : decode bytes pc = .ok (.iand, 1)) (hp : pc + 1 = pc') (k : N G K rm Q h a b pc' ls (.int (x &&& y) :: st)) : N G K rm Q h a b pc ls (.int y :: .int x :: st) := by
  subst hp; exact N.step (fun T A t ht => XS.iand A C.hx rfl (hb C.by hd) rfl ht) k
theorem N.ior (C : Cx G K own nm bytes maxL ret W) {x y : Int32} (hd : decode bytes pc = .ok (.ior, 1)) (hp : pc + 1 = pc') (k : N G K rm Q h a b pc' ls (.int (x ||| y) :: st)) : N G K rm Q h a b pc ls (.int y :: .int x :: st) := by
  subst hp; exact N.step (fun T A t ht => XS.ior A C.hx rfl (hb C.by hd) rfl ht) k
theorem N.ixor (C : Cx G K own nm bytes maxL ret W) {x y : Int32} (hd : decode bytes pc = .ok (.ixor, 1)) (hp : pc + 1 = pc') (k : N G K rm Q h a b pc' ls (.int (x ^^^ y) :: st)) : N G K rm Q h a b pc ls (.int y :: .int x :: st) := by
  subst hp; exact N.step (fun T A t ht => XS.ixor A C.hx rfl (hb C.by hd) rfl ht) k
theorem N.idiv (C : Cx G K own nm bytes maxL ret W) {x y : Int32} (hd : decode bytes pc = .ok (.idiv, 1)) (hy : y ≠ 0) (hp : pc + 1 = pc') (k : N G K rm Q h a b pc' ls (.int (x / y) :: st)) : N G K rm Q h a b pc ls (.int y :: .int x :: st) := by
  subst hp; exact N.step (fun T A t ht => XS.idiv A C.hx rfl (hb C.by hd) rfl hy ht) k
theorem N.ineg (C : Cx G K own nm bytes maxL ret W) {x : Int32} (hd : decode bytes pc = .ok (.ineg, 1)) (hp : pc + 1 = pc') (k : N G K rm Q h a b pc' ls (.int (-x) :: st)) : N G K rm Q h a b pc ls (.int x :: st) := by
  subst hp; exact N.step (fun T A t ht => XS.ineg A C.hx rfl (hb C.by hd) rfl ht) k
theorem N.lload (C : Cx G K own nm bytes maxL ret W) {k : Nat} {v : Int64} (hd : decode bytes pc = .ok (.lload k, 2)) (hl : ls[k]? = some (.val (.long v))) (hp : pc + 2 = pc') (k : N G K rm Q h a b pc' ls (.long v :: st)) : N G K rm Q h a b pc ls (st) := by
  subst hp; exact N.step (fun T A t ht => XS.lload A C.hx rfl (hb C.by hd) hl ht) k
theorem N.lloadN (C : Cx G K own nm bytes maxL ret W) {k : Fin 4} {v : Int64} (hd : decode bytes pc = .ok (.lload_n k, 1)) (hl : ls[k.val]? = some (.val (.long v))) (hp : pc + 1 = pc') (k : N G K rm Q h a b pc' ls (.long v :: st)) : N G K rm Q h a b pc ls (st) := by
  subst hp; exact N.step (fun T A t ht => XS.lloadN A C.hx rfl (hb C.by hd) hl ht) k
theorem N.lstore (C : Cx G K own nm bytes maxL ret W) {k : Nat} {v : Int64} (hd : decode bytes pc = .ok (.lstore k, 2)) (hl : storeLocals ls k (.long v) = some ls') (hp : pc + 2 = pc') (k : N G K rm Q h a b pc' ls' (st)) : N G K rm Q h a b pc ls (.long v :: st) := by
  subst hp; exact N.step (fun T A t ht => XS.lstore A C.hx rfl (hb C.by hd) rfl hl ht) k
theorem N.lstoreN (C : Cx G K own nm bytes maxL ret W) {k : Fin 4} {v : Int64} (hd : decode bytes pc = .ok (.lstore_n k, 1)) (hl : storeLocals ls k.val (.long v) = some ls') (hp : pc + 1 = pc') (k : N G K rm Q h a b pc' ls' (st)) : N G K rm Q h a b pc ls (.long v :: st) := by
  subst hp; exact N.step (fun T A t ht => XS.lstoreN A C.hx rfl (hb C.by hd) rfl hl ht) k
theorem N.ladd (C : Cx G K own nm bytes maxL ret W) {x y : Int64} (hd : decode bytes pc = .ok (.ladd, 1)) (hp : pc + 1 = pc') (k : N G K rm Q h a b pc' ls (.long (x + y) :: st)) : N G K rm Q h a b pc ls (.long y :: .long x :: st) := by
  subst hp; exact N.step (fun T A t ht => XS.ladd A C.hx rfl (hb C.by hd) rfl ht) k
theorem N.lsub (C : Cx G K own nm bytes maxL ret W) {x y : Int64} (hd : decode bytes pc = .ok (.lsub, 1)) (hp : pc + 1 = pc') (k : N G K rm Q h a b pc' ls (.long (x - y) :: st)) : N G K rm Q h a b pc ls (.long y :: .long x :: st) := by
  subst hp; exact N.step (fun T A t ht => XS.lsub A C.hx rfl (hb C.by hd) rfl ht) k
theorem N.lmul (C : Cx G K own nm bytes maxL ret W) {x y : Int64} (hd : decode bytes pc = .ok (.lmul, 1)) (hp : pc + 1 = pc') (k : N G K rm Q h a b pc' ls (.long (x * y) :: st)) : N G K rm Q h a b pc ls (.long y :: .long x :: st) := by
  subst hp; exact N.step (fun T A t ht => XS.lmul A C.hx rfl (hb C.by hd) rfl ht) k
theorem N.land (C : Cx G K own nm bytes maxL ret W) {x y : Int64} (hd : decode bytes pc = .ok (.land, 1)) (hp : pc + 1 = pc') (k : N G K rm Q h a b pc' ls (.long (x &&& y) :: st)) : N G K rm Q h a b pc ls (.long y :: .long x :: st) := by
  subst hp; exact N.step (fun T A t ht => XS.land A C.hx rfl (hb C.by hd) rfl ht) k
theorem N.lor (C : Cx G K own nm bytes maxL ret W) {x y : Int64} (hd : decode bytes pc = .ok (.lor, 1)) (hp : pc + 1 = pc') (k : N G K rm Q h a b pc' ls (.long (x ||| y) :: st)) : N G K rm Q h a b pc ls (.long y :: .long x :: st) := by
  subst hp; exact N.step (fun T A t ht => XS.lor A C.hx rfl (hb C.by hd) rfl ht) k
theorem N.lxor (C : Cx G K own nm bytes maxL ret W) {x y : Int64} (hd : decode bytes pc = .ok (.lxor, 1)) (hp : pc + 1 = pc') (k : N G K rm Q h a b pc' ls (.long (x ^^^ y) :: st)) : N G K rm Q h a b pc ls (.long y :: .long x :: st) := by
  subst hp; exact N.step (fun T A t ht => XS.lxor A C.hx rfl (hb C.by hd) rfl ht) k
theorem N.ldiv (C : Cx G K own nm bytes maxL ret W) {x y : Int64} (hd : decode bytes pc = .ok (.ldiv, 1)) (hy : y ≠ 0) (hp : pc + 1 = pc') (k : N G K rm Q h a b pc' ls (.long (x / y) :: st)) : N G K rm Q h a b pc ls (.long y :: .long x :: st) := by
  subst hp; exact N.step (fun T A t ht => XS.ldiv A C.hx rfl (hb C.by hd) rfl hy ht) k
theorem N.lneg (C : Cx G K own nm bytes maxL ret W) {x : Int64} (hd : decode bytes pc = .ok (.lneg, 1)) (hp : pc + 1 = pc') (k : N G K rm Q h a b pc' ls (.long (-x) :: st)) : N G K rm Q h a b pc ls (.long x :: st) := by
  subst hp; exact N.step (fun T A t ht => XS.lneg A C.hx rfl (hb C.by hd) rfl ht) k
theorem N.irem (C : Cx G K own nm bytes maxL ret W) {x y : Int32} (hd : decode bytes pc = .ok (.irem, 1)) (hy : y ≠ 0) (hp : pc + 1 = pc') (k : N G K rm Q h a b pc' ls (.int (x % y) :: st)) : N G K rm Q h a b pc ls (.int y :: .int x :: st) := by
  subst hp; exact N.step (fun T A t ht => XS.irem A C.hx rfl (hb C.by hd) rfl hy (by rw [irem_eq_mod]; exact ht)) k
theorem N.lrem (C : Cx G K own nm bytes maxL ret W) {x y : Int64} (hd : decode bytes pc = .ok (.lrem, 1)) (hy : y ≠ 0) (hp : pc + 1 = pc') (k : N G K rm Q h a b pc' ls (.long (x % y) :: st)) : N G K rm Q h a b pc ls (.long y :: .long x :: st) := by
  subst hp; exact N.step (fun T A t ht => XS.lrem A C.hx rfl (hb C.by hd) rfl hy (by rw [lrem_mod]; exact ht)) k
theorem N.aload (C : Cx G K own nm bytes maxL ret W) {k : Nat} {v : Value} (hd : decode bytes pc = .ok (.aload k, 2)) (hl : ls[k]? = some (.val v)) (hv : v.isRef = true) (hp : pc + 2 = pc') (k : N G K rm Q h a b pc' ls (v :: st)) : N G K rm Q h a b pc ls (st) := by
  subst hp; exact N.step (fun T A t ht => XS.aload A C.hx rfl (hb C.by hd) hl hv ht) k
theorem N.aloadN (C : Cx G K own nm bytes maxL ret W) {k : Fin 4} {v : Value} (hd : decode bytes pc = .ok (.aload_n k, 1)) (hl : ls[k.val]? = some (.val v)) (hv : v.isRef = true) (hp : pc + 1 = pc') (k : N G K rm Q h a b pc' ls (v :: st)) : N G K rm Q h a b pc ls (st) := by
  subst hp; exact N.step (fun T A t ht => XS.aloadN A C.hx rfl (hb C.by hd) hl hv ht) k
theorem N.astore (C : Cx G K own nm bytes maxL ret W) {k : Nat} {v : Value} (hd : decode bytes pc = .ok (.astore k, 2)) (hv : v.isRef = true) (hl : storeLocals ls k v = some ls') (hp : pc + 2 = pc') (k : N G K rm Q h a b pc' ls' (st)) : N G K rm Q h a b pc ls (v :: st) := by
  subst hp; exact N.step (fun T A t ht => XS.astore A C.hx rfl (hb C.by hd) rfl hv hl ht) k
theorem N.astoreN (C : Cx G K own nm bytes maxL ret W) {k : Fin 4} {v : Value} (hd : decode bytes pc = .ok (.astore_n k, 1)) (hv : v.isRef = true) (hl : storeLocals ls k.val v = some ls') (hp : pc + 1 = pc') (k : N G K rm Q h a b pc' ls' (st)) : N G K rm Q h a b pc ls (v :: st) := by
  subst hp; exact N.step (fun T A t ht => XS.astoreN A C.hx rfl (hb C.by hd) rfl hv hl ht) k
theorem N.iconst (C : Cx G K own nm bytes maxL ret W) {i : Int} {z : Int32} (hd : decode bytes pc = .ok (.iconst i, 1)) (hz : Int32.ofInt i = z) (hp : pc + 1 = pc') (k : N G K rm Q h a b pc' ls (.int z :: st)) : N G K rm Q h a b pc ls st := by
  subst hp hz; exact N.step (fun T A t ht => XS.iconst A C.hx rfl (hb C.by hd) ht) k
theorem N.bipush (C : Cx G K own nm bytes maxL ret W) {i : Int} {z : Int32} (hd : decode bytes pc = .ok (.bipush i, 2)) (hz : (Int8.ofInt i).toInt32 = z) (hp : pc + 2 = pc') (k : N G K rm Q h a b pc' ls (.int z :: st)) : N G K rm Q h a b pc ls st := by
  subst hp hz; exact N.step (fun T A t ht => XS.bipush A C.hx rfl (hb C.by hd) ht) k
theorem N.sipush (C : Cx G K own nm bytes maxL ret W) {i : Int} {z : Int32} (hd : decode bytes pc = .ok (.sipush i, 3)) (hz : (Int16.ofInt i).toInt32 = z) (hp : pc + 3 = pc') (k : N G K rm Q h a b pc' ls (.int z :: st)) : N G K rm Q h a b pc ls st := by
  subst hp hz; exact N.step (fun T A t ht => XS.sipush A C.hx rfl (hb C.by hd) ht) k
theorem N.lconst (C : Cx G K own nm bytes maxL ret W) {k : Fin 2} {z : Int64} (hd : decode bytes pc = .ok (.lconst k, 1)) (hz : Int64.ofNat k = z) (hp : pc + 1 = pc') (k : N G K rm Q h a b pc' ls (.long z :: st)) : N G K rm Q h a b pc ls st := by
  subst hp hz; exact N.step (fun T A t ht => XS.lconst A C.hx rfl (hb C.by hd) ht) k
theorem N.aconst_null (C : Cx G K own nm bytes maxL ret W)  (hd : decode bytes pc = .ok (.aconst_null, 1)) (hp : pc + 1 = pc') (k : N G K rm Q h a b pc' ls (.null :: st)) : N G K rm Q h a b pc ls (st) := by
  subst hp; exact N.step (fun T A t ht => XS.aconstNull A C.hx rfl (hb C.by hd)  ht) k
theorem N.dup (C : Cx G K own nm bytes maxL ret W) {v : Value} (hd : decode bytes pc = .ok (.dup, 1)) (hc : v.category = 1) (hp : pc + 1 = pc') (k : N G K rm Q h a b pc' ls (v :: v :: st)) : N G K rm Q h a b pc ls (v :: st) := by
  subst hp; exact N.step (fun T A t ht => XS.dup A C.hx rfl (hb C.by hd) rfl hc ht) k
theorem N.pop (C : Cx G K own nm bytes maxL ret W) {v : Value} (hd : decode bytes pc = .ok (.pop, 1)) (hc : v.category = 1) (hp : pc + 1 = pc') (k : N G K rm Q h a b pc' ls (st)) : N G K rm Q h a b pc ls (v :: st) := by
  subst hp; exact N.step (fun T A t ht => XS.pop A C.hx rfl (hb C.by hd) rfl hc ht) k
theorem N.dup_x1 (C : Cx G K own nm bytes maxL ret W) {v w : Value} (hd : decode bytes pc = .ok (.dup_x1, 1)) (hc : v.category = 1) (hc' : w.category = 1) (hp : pc + 1 = pc') (k : N G K rm Q h a b pc' ls (v :: w :: v :: st)) : N G K rm Q h a b pc ls (v :: w :: st) := by
  subst hp; exact N.step (fun T A t ht => XS.dupX1 A C.hx rfl (hb C.by hd) rfl hc hc' ht) k
theorem N.dup2 (C : Cx G K own nm bytes maxL ret W) {v w : Value} (hd : decode bytes pc = .ok (.dup2, 1)) (hc : v.category = 1) (hc' : w.category = 1) (hp : pc + 1 = pc') (k : N G K rm Q h a b pc' ls (v :: w :: v :: w :: st)) : N G K rm Q h a b pc ls (v :: w :: st) := by
  subst hp; exact N.step (fun T A t ht => XT.dup2 A C.hx rfl (hb C.by hd) rfl hc hc' ht) k
theorem N.dup2L (C : Cx G K own nm bytes maxL ret W) {x : Int64} (hd : decode bytes pc = .ok (.dup2, 1)) (hp : pc + 1 = pc') (k : N G K rm Q h a b pc' ls (.long x :: .long x :: st)) : N G K rm Q h a b pc ls (.long x :: st) := by
  subst hp; exact N.step (fun T A t ht => XT.dup2L A C.hx rfl (hb C.by hd) rfl ht) k
theorem N.i2l (C : Cx G K own nm bytes maxL ret W) {x : Int32} (hd : decode bytes pc = .ok (.i2l, 1)) (hp : pc + 1 = pc') (k : N G K rm Q h a b pc' ls (.long (x.toInt64) :: st)) : N G K rm Q h a b pc ls (.int x :: st) := by
  subst hp; exact N.step (fun T A t ht => XS.i2l A C.hx rfl (hb C.by hd) rfl ht) k
theorem N.l2i (C : Cx G K own nm bytes maxL ret W) {x : Int64} (hd : decode bytes pc = .ok (.l2i, 1)) (hp : pc + 1 = pc') (k : N G K rm Q h a b pc' ls (.int (x.toInt32) :: st)) : N G K rm Q h a b pc ls (.long x :: st) := by
  subst hp; exact N.step (fun T A t ht => XS.l2i A C.hx rfl (hb C.by hd) rfl ht) k
theorem N.i2b (C : Cx G K own nm bytes maxL ret W) {x : Int32} (hd : decode bytes pc = .ok (.i2b, 1)) (hp : pc + 1 = pc') (k : N G K rm Q h a b pc' ls (.int (x.toInt8.toInt32) :: st)) : N G K rm Q h a b pc ls (.int x :: st) := by
  subst hp; exact N.step (fun T A t ht => XS.i2b A C.hx rfl (hb C.by hd) rfl ht) k
theorem N.i2s (C : Cx G K own nm bytes maxL ret W) {x : Int32} (hd : decode bytes pc = .ok (.i2s, 1)) (hp : pc + 1 = pc') (k : N G K rm Q h a b pc' ls (.int (x.toInt16.toInt32) :: st)) : N G K rm Q h a b pc ls (.int x :: st) := by
  subst hp; exact N.step (fun T A t ht => XS.i2s A C.hx rfl (hb C.by hd) rfl ht) k
theorem N.i2c (C : Cx G K own nm bytes maxL ret W) {x : Int32} (hd : decode bytes pc = .ok (.i2c, 1)) (hp : pc + 1 = pc') (k : N G K rm Q h a b pc' ls (.int (x.toUInt32.toUInt16.toUInt32.toInt32) :: st)) : N G K rm Q h a b pc ls (.int x :: st) := by
  subst hp; exact N.step (fun T A t ht => XS.i2c A C.hx rfl (hb C.by hd) rfl ht) k
theorem N.ishl (C : Cx G K own nm bytes maxL ret W) {x y : Int32} (hd : decode bytes pc = .ok (.ishl, 1)) (hp : pc + 1 = pc') (k : N G K rm Q h a b pc' ls (.int (x <<< (y &&& 31)) :: st)) : N G K rm Q h a b pc ls (.int y :: .int x :: st) := by
  subst hp; exact N.step (fun T A t ht => XS.ishl A C.hx rfl (hb C.by hd) rfl ht) k
theorem N.ishr (C : Cx G K own nm bytes maxL ret W) {x y : Int32} (hd : decode bytes pc = .ok (.ishr, 1)) (hp : pc + 1 = pc') (k : N G K rm Q h a b pc' ls (.int (x >>> (y &&& 31)) :: st)) : N G K rm Q h a b pc ls (.int y :: .int x :: st) := by
  subst hp; exact N.step (fun T A t ht => XS.ishr A C.hx rfl (hb C.by hd) rfl ht) k
theorem N.iushr (C : Cx G K own nm bytes maxL ret W) {x y : Int32} (hd : decode bytes pc = .ok (.iushr, 1)) (hp : pc + 1 = pc') (k : N G K rm Q h a b pc' ls (.int ((x.toUInt32 >>> (y &&& 31).toUInt32).toInt32) :: st)) : N G K rm Q h a b pc ls (.int y :: .int x :: st) := by
  subst hp; exact N.step (fun T A t ht => XS.iushr A C.hx rfl (hb C.by hd) rfl ht) k
theorem N.lshl (C : Cx G K own nm bytes maxL ret W) {x : Int64} {y : Int32} (hd : decode bytes pc = .ok (.lshl, 1)) (hp : pc + 1 = pc') (k : N G K rm Q h a b pc' ls (.long (x <<< (y &&& 0x3f).toInt64) :: st)) : N G K rm Q h a b pc ls (.int y :: .long x :: st) := by
  subst hp; exact N.step (fun T A t ht => XS.lshl A C.hx rfl (hb C.by hd) rfl ht) k
theorem N.lshr (C : Cx G K own nm bytes maxL ret W) {x : Int64} {y : Int32} (hd : decode bytes pc = .ok (.lshr, 1)) (hp : pc + 1 = pc') (k : N G K rm Q h a b pc' ls (.long (x >>> (y &&& 0x3f).toInt64) :: st)) : N G K rm Q h a b pc ls (.int y :: .long x :: st) := by
  subst hp; exact N.step (fun T A t ht => XS.lshr A C.hx rfl (hb C.by hd) rfl ht) k
theorem N.lushr (C : Cx G K own nm bytes maxL ret W) {x : Int64} {y : Int32} (hd : decode bytes pc = .ok (.lushr, 1)) (hp : pc + 1 = pc') (k : N G K rm Q h a b pc' ls (.long ((x.toUInt64 >>> (y &&& 0x3f).toInt64.toUInt64).toInt64) :: st)) : N G K rm Q h a b pc ls (.int y :: .long x :: st) := by
  subst hp; exact N.step (fun T A t ht => XS.lushr A C.hx rfl (hb C.by hd) rfl ht) k
theorem N.lcmp (C : Cx G K own nm bytes maxL ret W) {x y : Int64} (hd : decode bytes pc = .ok (.lcmp, 1)) (hp : pc + 1 = pc') (k : N G K rm Q h a b pc' ls (.int (lcmpW x y) :: st)) : N G K rm Q h a b pc ls (.long y :: .long x :: st) := by
  subst hp; exact N.step (fun T A t ht => XS.lcmp A C.hx rfl (hb C.by hd) rfl ht) k
theorem N.iinc (C : Cx G K own nm bytes maxL ret W) {k : Nat} {cst : Int} {x z : Int32} (hd : decode bytes pc = .ok (.iinc k cst, 3)) (hl : ls[k]? = some (.val (.int x))) (hz : Int32.ofInt cst = z) (hl' : storeLocals ls k (.int (x + z)) = some ls') (hp : pc + 3 = pc') (k : N G K rm Q h a b pc' ls' st) : N G K rm Q h a b pc ls st := by
  subst hp hz; exact N.step (fun T A t ht => XS.iinc A C.hx rfl (hb C.by hd) hl hl' ht) k
theorem N.goto (C : Cx G K own nm bytes maxL ret W) {o : Int} (hd : decode bytes pc = .ok (.goto o, 3)) (hp : (pc : Int) + o = (pc' : Nat)) (k : N G K rm Q h a b pc' ls st) : N G K rm Q h a b pc ls st :=
  N.step (fun T A t ht => XS.goto A C.hx rfl (pc0 := pc) rfl (hb C.by hd) (by omega) (by omega) ht) k
theorem N.icmp (C : Cx G K own nm bytes maxL ret W) {cd : ClassFile.Cond} {o : Int} {x y : Int32} {pt pf : Nat} (hd : decode bytes pc = .ok (.if_icmp cd o, 3)) (ht : (pc : Int) + o = (pt : Nat)) (hf : pc + 3 = pf) (kt : cmpP cd x y → N G K rm Q h a b pt ls st) (kf : cmpN cd x y → N G K rm Q h a b pf ls st) : N G K rm Q h a b pc ls (.int y :: .int x :: st) := by
  subst hf
  rcases cmp_or cd x y with ⟨h1, h2⟩ | ⟨h1, h2⟩
  · exact N.step (fun T A t k => XS.icmpYes A C.hx rfl (pc0 := pc) rfl (hb C.by hd) rfl h1 (by omega) (by omega) k) (kt h2)
  · exact N.step (fun T A t k => XS.icmpNo A C.hx rfl (hb C.by hd) rfl h1 k) (kf h2)
theorem N.ifc (C : Cx G K own nm bytes maxL ret W) {cd : ClassFile.Cond} {o : Int} {x : Int32} {pt pf : Nat} (hd : decode bytes pc = .ok (.ifCond cd o, 3)) (ht : (pc : Int) + o = (pt : Nat)) (hf : pc + 3 = pf) (kt : cmpP cd x 0 → N G K rm Q h a b pt ls st) (kf : cmpN cd x 0 → N G K rm Q h a b pf ls st) : N G K rm Q h a b pc ls (.int x :: st) := by
  subst hf
  rcases cmp_or cd x 0 with ⟨h1, h2⟩ | ⟨h1, h2⟩
  · exact N.step (fun T A t k => XS.ifYes A C.hx rfl (pc0 := pc) rfl (hb C.by hd) rfl ((if0 _ _).trans h1) (by omega) (by omega) k) (kt h2)
  · exact N.step (fun T A t k => XS.ifNo A C.hx rfl (hb C.by hd) rfl ((if0 _ _).trans h1) k) (kf h2)
/-- behind lcmp -/
theorem N.lif (C : Cx G K own nm bytes maxL ret W) {cd : ClassFile.Cond} {o : Int} {x y : Int64} {pt pf : Nat} (hd : decode bytes pc = .ok (.ifCond cd o, 3)) (ht : (pc : Int) + o = (pt : Nat)) (hf : pc + 3 = pf) (kt : cmpPL cd x y → N G K rm Q h a b pt ls st) (kf : cmpNL cd x y → N G K rm Q h a b pf ls st) : N G K rm Q h a b pc ls (.int (lcmpW x y) :: st) := by
  subst hf
  rcases cmp_orL cd x y with ⟨h1, h2⟩ | ⟨h1, h2⟩
  · exact N.step (fun T A t k => XS.ifYes A C.hx rfl (pc0 := pc) rfl (hb C.by hd) rfl h1 (by omega) (by omega) k) (kt h2)
  · exact N.step (fun T A t k => XS.ifNo A C.hx rfl (hb C.by hd) rfl h1 k) (kf h2)
theorem N.ifnull0 (C : Cx G K own nm bytes maxL ret W) {o : Int} (hd : decode bytes pc = .ok (.ifnull o, 3)) (ht : (pc : Int) + o = (pc' : Nat)) (k : N G K rm Q h a b pc' ls st) : N G K rm Q h a b pc ls (.null :: st) :=
  N.step (fun T A t k => XS.ifnullYes A C.hx rfl (pc0 := pc) rfl (hb C.by hd) rfl (by omega) (by omega) k) k
theorem N.ifnull1 (C : Cx G K own nm bytes maxL ret W) {o : Int} {x : Addr} (hd : decode bytes pc = .ok (.ifnull o, 3)) (hp : pc + 3 = pc') (k : N G K rm Q h a b pc' ls st) : N G K rm Q h a b pc ls (.ref x :: st) := by
  subst hp; exact N.step (fun T A t k => XS.ifnullNo A C.hx rfl (hb C.by hd) rfl k) k
theorem N.ifnonnull1 (C : Cx G K own nm bytes maxL ret W) {o : Int} {x : Addr} (hd : decode bytes pc = .ok (.ifnonnull o, 3)) (ht : (pc : Int) + o = (pc' : Nat)) (k : N G K rm Q h a b pc' ls st) : N G K rm Q h a b pc ls (.ref x :: st) :=
  N.step (fun T A t k => XS.ifnonnullYes A C.hx rfl (pc0 := pc) rfl (hb C.by hd) rfl (by omega) (by omega) k) k
theorem N.ifnonnull0 (C : Cx G K own nm bytes maxL ret W) {o : Int} (hd : decode bytes pc = .ok (.ifnonnull o, 3)) (hp : pc + 3 = pc') (k : N G K rm Q h a b pc' ls st) : N G K rm Q h a b pc ls (.null :: st) := by
  subst hp; exact N.step (fun T A t k => XS.ifnonnullNo A C.hx rfl (hb C.by hd) rfl k) k
theorem N.acmp (C : Cx G K own nm bytes maxL ret W) {cd : ACond} {o : Int} {v w : Value} (same : Bool) (hd : decode bytes pc = .ok (.if_acmp cd o, 3)) (h1 : v.isRef = true) (h2 : w.isRef = true) (hq : decide (v = w) = same) (ho : 0 ≤ (pc : Int) + o) (hp : pc' = if acV cd same = true then ((pc : Int) + o).toNat else pc + 3) (k : N G K rm Q h a b pc' ls st) : N G K rm Q h a b pc ls (w :: v :: st) :=
  N.stX (fun T locs X e t ht => Jvm.RoadKit.acmp (g := mkF K.m pc ls (w :: v :: st)) X C.hx rfl h1 h2 rfl (hb C.by hd) rfl hq ho hp ht) k
theorem N.ldcI (C : Cx G K own nm bytes maxL ret W) {i : Nat} {v : Int32} (hd : decode bytes pc = .ok (.ldc i, 2)) (w : (Jvm.Cond.constant own i v).before G.a0 G.Z = true) (hp : pc + 2 = pc') (k : N G K rm Q h a b pc' ls (.int v :: st)) : N G K rm Q h a b pc ls st := by
  subst hp; exact N.stX (fun T locs X e t ht => X.ldcInt C.hx C.ow (mvT C.hZ w) (g := mkF K.m pc ls st) rfl (hb C.by hd) t ht) k
theorem N.ldcwI (C : Cx G K own nm bytes maxL ret W) {i : Nat} {v : Int32} (hd : decode bytes pc = .ok (.ldc_w i, 3)) (w : (Jvm.Cond.constant own i v).before G.a0 G.Z = true) (hp : pc + 3 = pc') (k : N G K rm Q h a b pc' ls (.int v :: st)) : N G K rm Q h a b pc ls st := by
  subst hp; exact N.stX (fun T locs X e t ht => X.ldcwInt C.hx C.ow (mvT C.hZ w) (g := mkF K.m pc ls st) rfl (hb C.by hd) t ht) k
theorem N.ldcL (C : Cx G K own nm bytes maxL ret W) {i : Nat} {v : Int64} (hd : decode bytes pc = .ok (.ldc2_w i, 3)) (w : (Jvm.Cond.constantLong own i v).before G.a0 G.Z = true) (hp : pc + 3 = pc') (k : N G K rm Q h a b pc' ls (.long v :: st)) : N G K rm Q h a b pc ls st := by
  subst hp; exact N.stX (fun T locs X e t ht => X.ldc2Long C.hx C.ow (mvT C.hZ w) (g := mkF K.m pc ls st) rfl (hb C.by hd) t ht) k
theorem N.getF (C : Cx G K own nm bytes maxL ret W) {O n d : String} {i : Nat} {x : Addr} {v : Value} (hd : decode bytes pc = .ok (.getfield i, 3)) (w : (Jvm.Cond.fieldLink own i O n d).before G.a0 G.Z = true) (F : Fld G.Z h x O n d v) (hp : pc + 3 = pc') (k : N G K rm Q h a b pc' ls (v :: st)) : N G K rm Q h a b pc ls (.ref x :: st) := fun T locs X e N0 => by
  subst hp
  obtain ⟨T', X', e', s'⟩ := Jvm.RoadKit.getF X C.hx C.hZ C.ow (host := "") (Or.inl w) Via.refl e F (g := mkF K.m pc ls (.ref x :: st)) rfl rfl (hb C.by hd)
  obtain ⟨s₂, o, hs, r⟩ := k T' locs X' e' N0
  exact ⟨s₂, o, s' _ hs, r⟩
theorem N.getFN (C : Cx G K own nm bytes maxL ret W) {O n d host : String} {i : Nat} {x : Addr} {v : Value} (hd : decode bytes pc = .ok (.getfield i, 3)) (w : (Jvm.Cond.fieldLinkNest own i O n d host).before G.a0 G.Z = true) (F : Fld G.Z h x O n d v) (hp : pc + 3 = pc') (k : N G K rm Q h a b pc' ls (v :: st)) : N G K rm Q h a b pc ls (.ref x :: st) := fun T locs X e N0 => by
  subst hp
  obtain ⟨T', X', e', s'⟩ := Jvm.RoadKit.getF X C.hx C.hZ C.ow (Or.inr w) Via.refl e F (g := mkF K.m pc ls (.ref x :: st)) rfl rfl (hb C.by hd)
  obtain ⟨s₂, o, hs, r⟩ := k T' locs X' e' N0
  exact ⟨s₂, o, s' _ hs, r⟩
theorem N.putF (C : Cx G K own nm bytes maxL ret W) {O n d Cn : String} {i kk : Nat} {ty : FieldType} {x : Addr} {v old : Value} (hd : decode bytes pc = .ok (.putfield i, 3)) (w : (Jvm.Cond.fieldLink own i O n d).before G.a0 G.Z = true) (F : Fld G.Z h x O n d old) (E : Exa G.Z h x Cn)
    (L : (Jvm.Cond.lays Cn O n d).before G.a0 G.Z = true ∨ ((Jvm.Cond.laysFinal Cn O n d).before G.a0 G.Z = true ∧ own = O ∧ nm = "<init>")) (wi : (Jvm.Cond.instantiable Cn kk).before G.a0 G.Z = true) (hty : parseFieldDescriptor d = some ty) (hn : narrow ty v = v) (hf : fits ty v = true) (hx : G.n0 ≤ x) (hp : pc + 3 = pc')
    (k : ∀ h', Wr h h' x (Jvm.RoadKit.slotOf G.Z O n d) v → N G K rm Q h' a b pc' ls st) : N G K rm Q h a b pc ls (v :: .ref x :: st) := fun T locs X e N0 => by
  subst hp
  obtain ⟨T', h', X', e', W', s'⟩ := Jvm.RoadKit.putF X C.hx C.hZ C.ow (host := "") (Or.inl w) Via.refl e F E (L.imp id fun q => ⟨q.1, q.2.1, C.name.trans q.2.2⟩) wi hty hn hf (g := mkF K.m pc ls (v :: .ref x :: st)) rfl rfl (hb C.by hd)
  obtain ⟨s₂, o, hs, r⟩ := k h' W' T' _ X' e' (Fr.snoc X' N0 hx)
  exact ⟨s₂, o, s' _ hs, r⟩
theorem N.putFN (C : Cx G K own nm bytes maxL ret W) {O n d Cn : String} {i kk : Nat} {ty : FieldType} {x : Addr} {v v' old : Value} (hd : decode bytes pc = .ok (.putfield i, 3)) (w : (Jvm.Cond.fieldLink own i O n d).before G.a0 G.Z = true) (F : Fld G.Z h x O n d old) (E : Exa G.Z h x Cn)
    (L : (Jvm.Cond.lays Cn O n d).before G.a0 G.Z = true ∨ ((Jvm.Cond.laysFinal Cn O n d).before G.a0 G.Z = true ∧ own = O ∧ nm = "<init>")) (wi : (Jvm.Cond.instantiable Cn kk).before G.a0 G.Z = true) (hty : parseFieldDescriptor d = some ty) (hn : narrow ty v = v') (hf : fits ty v' = true) (hx : G.n0 ≤ x) (hp : pc + 3 = pc')
    (k : ∀ h', Wr h h' x (Jvm.RoadKit.slotOf G.Z O n d) v' → N G K rm Q h' a b pc' ls st) : N G K rm Q h a b pc ls (v :: .ref x :: st) := fun T locs X e N0 => by
  subst hp
  obtain ⟨T', h', X', e', W', s'⟩ := Jvm.RoadKit.putFN X C.hx C.hZ C.ow w Via.refl e F E (L.imp id fun q => ⟨q.1, q.2.1, C.name.trans q.2.2⟩) wi hty hn hf (g := mkF K.m pc ls (v :: .ref x :: st)) rfl rfl (hb C.by hd)
  obtain ⟨s₂, o, hs, r⟩ := k h' W' T' _ X' e' (Fr.snoc X' N0 hx)
  exact ⟨s₂, o, s' _ hs, r⟩
theorem N.getS (C : Cx G K own nm bytes maxL ret W) {O n d : String} {i : Nat} {v : Value} (hd : decode bytes pc = .ok (.getstatic i, 3)) (w : (Jvm.Cond.fieldLink own i O n d).before G.a0 G.Z = true) (F : Sta G.Z h O n d v) (hp : pc + 3 = pc') (k : N G K rm Q h a b pc' ls (v :: st)) : N G K rm Q h a b pc ls st := fun T locs X e N0 => by
  subst hp
  obtain ⟨T', X', e', s'⟩ := Jvm.RoadKit.getS X C.hx C.hZ (host := "") C.ow w Via.refl e F (g := mkF K.m pc ls st) rfl (hb C.by hd)
  obtain ⟨s₂, o, hs, r⟩ := k T' locs X' e' N0
  exact ⟨s₂, o, s' _ hs, r⟩
theorem N.newO (C : Cx G K own nm bytes maxL ret W) {Cn : String} {i n : Nat} (hd : decode bytes pc = .ok (.new i, 3)) (w : (Jvm.Cond.classLink own i Cn).before G.a0 G.Z = true) (wi : (Jvm.Cond.instantiable Cn n).before G.a0 G.Z = true) (wz : (Jvm.Cond.initialized Cn).before G.a0 G.Z = true) (hc : a + 1 ≤ rm.cells) (hl : b + n ≤ rm.slots) (hp : pc + 3 = pc')
    (k : ∀ (h' : Heap) (x : Addr), x = h.size → Ext h h' → Exa G.Z h' x Cn → (∀ {O f d : String} {ty : FieldType}, Laid G.Z G.a0 Cn O f d → parseFieldDescriptor d = some ty → Fld G.Z h' x O f d (defaultValue ty)) → N G K rm Q h' (a + 1) (b + n) pc' ls (.ref x :: st)) : N G K rm Q h a b pc ls st := fun T locs X e N0 => by
  subst hp
  obtain ⟨T', h', X', e', E', A', D', -, s'⟩ := Jvm.RoadKit.newO X C.hx C.hZ C.ow w wi wz e (g := mkF K.m pc ls st) rfl (hb C.by hd) hc hl
  obtain ⟨s₂, o, hs, r⟩ := k h' _ rfl E' A' D' T' locs X' e' N0
  exact ⟨s₂, o, s' _ hs, r⟩
theorem N.newP (C : Cx G K own nm bytes maxL ret W) {aty : ArrayType} {n : Int32} (cap : Nat) (hd : decode bytes pc = .ok (.newarray aty, 2)) (w : (Jvm.Cond.arrayClass (newarray.typeOf aty)).before G.a0 G.Z = true) (hn : 0 ≤ n.toInt) (hcap : n.toInt ≤ (cap : Int)) (hb8 : cap * 8 ≤ 536870912) (hc : a + 1 ≤ rm.cells) (hl : b + cap ≤ rm.slots) (hp : pc + 2 = pc')
    (k : ∀ (h' : Heap) (x : Addr), x = h.size → Ext h h' → Av G.Z h' x (newarray.typeOf aty) (List.replicate n.toInt.toNat (defaultValue (newarray.typeOf aty))) → N G K rm Q h' (a + 1) (b + cap) pc' ls (.ref x :: st)) : N G K rm Q h a b pc ls (.int n :: st) := fun T locs X e N0 => by
  subst hp
  have hneg : ¬ n < 0 := fun q => by
    have := Int32.lt_iff_toInt_lt.mp q
    have e0 : (0 : Int32).toInt = 0 := by decide
    omega
  obtain ⟨T', h', cA, X', e', E', A', s'⟩ := Jvm.RoadKit.newP X C.hx C.hZ w e (g := mkF K.m pc ls (.int n :: st)) rfl (hb C.by hd) rfl hneg (cap := cap) (by show n.toInt.toNat ≤ cap; omega) hb8 hc hl
  obtain ⟨s₂, o, hs, r⟩ := k h' _ rfl E' (Av.new A') T' locs X' e' N0
  exact ⟨s₂, o, s' _ hs, r⟩
theorem N.initO (C : Cx G K own nm bytes maxL ret W) {i : Nat} {x : Addr} (hd : decode bytes pc = .ok (.invokespecial i, 3)) (w1 : (Jvm.Cond.methodLink own i Lib.objectInit).before G.a0 G.Z = true) (w2 : (Jvm.Cond.instanceMethod Lib.objectInit).before G.a0 G.Z = true) (w3 : (Jvm.Cond.code Lib.objectInit ⟨#[0xb1]⟩ 1 none).before G.a0 G.Z = true) (hsz : ls.size = maxL) (hf : 1 ≤ rm.frames) (hl : (st.map fun v => v.category).sum + 12 ≤ rm.locals) (hp : pc + 3 = pc')
    (k : N G K rm Q h a b pc' ls st) : N G K rm Q h a b pc ls (.ref x :: st) := fun T locs X e N0 => by
  subst hp
  obtain ⟨T', X', e', s'⟩ := Jvm.RoadKit.initO X C.hx C.hZ C.ow w1 w2 w3 e (g := mkF K.m pc ls (.ref x :: st)) rfl (by rw [C.ml]; exact hsz) rfl (hb C.by hd) hf (W := (st.map fun v => v.category).sum) (by show 2 * 0 + _ ≤ _; omega) hl
  obtain ⟨s₂, o, hs, r⟩ := k T' locs X' e' N0
  exact ⟨s₂, o, s' _ hs, r⟩
theorem N.alen (C : Cx G K own nm bytes maxL ret W) {x : Addr} {ty : FieldType} {vs : List Value} {n : Int32} (hd : decode bytes pc = .ok (.arraylength, 1)) (A : Av G.Z h x ty vs) (hn : n.toInt = (vs.length : Nat)) (hp : pc + 1 = pc') (k : N G K rm Q h a b pc' ls (.int n :: st)) : N G K rm Q h a b pc ls (.ref x :: st) := by
  subst hp
  obtain ⟨c, A, rfl⟩ := A
  have hz : c.slots.size.toInt32 = n := by
    have h1 := n.toInt_lt
    apply Int32.toInt_inj.mp
    rw [hn]
    simp only [Array.length_toList] at hn ⊢
    show (Int32.ofNat c.slots.size).toInt = _
    rw [Int32.toInt_ofNat']
    have e32 : (Int32.size : Int) = 4294967296 := rfl
    exact Int.bmod_eq_of_le (by omega) (by omega)
  exact N.stX (fun T locs X e t ht => X.arraylength C.hx (by rw [e]; exact A.1) (State.isArrayOf_alike C.hZ.alike A.2.1) (g := mkF K.m pc ls (.ref x :: st)) rfl rfl (hb C.by hd) t (by rw [hz]; exact ht)) k

theorem N.iaload (C : Cx G K own nm bytes maxL ret W) {x : Addr} {vs : List Value} {j : Int32} {i : Nat} {v : Value} (hd : decode bytes pc = .ok (.iaload, 1)) (A : Av G.Z h x .int vs) (hj : j.toInt = (i : Nat)) (hv : vs[i]? = some v) (hp : pc + 1 = pc') (k : N G K rm Q h a b pc' ls (v :: st)) : N G K rm Q h a b pc ls (.int j :: .ref x :: st) := by
  subst hp
  obtain ⟨c, A, rfl⟩ := A
  have hi : i < c.slots.size := by have := (List.getElem?_eq_some_iff.mp hv).1; simpa using this
  have hv' : c.slots[j.toNatClampNeg]? = some v := by rw [(ix hj).2, ← Array.getElem?_toList]; exact hv
  exact N.stX (fun T locs X e t ht => X.iaload C.hx (by rw [e]; exact A.1) (State.isArrayOf_alike C.hZ.alike A.2.1) A.2.2 (ixin hj hi) hv' (g := mkF K.m pc ls (.int j :: .ref x :: st)) rfl rfl (hb C.by hd) t ht) k
theorem N.laload (C : Cx G K own nm bytes maxL ret W) {x : Addr} {vs : List Value} {j : Int32} {i : Nat} {v : Value} (hd : decode bytes pc = .ok (.laload, 1)) (A : Av G.Z h x .long vs) (hj : j.toInt = (i : Nat)) (hv : vs[i]? = some v) (hp : pc + 1 = pc') (k : N G K rm Q h a b pc' ls (v :: st)) : N G K rm Q h a b pc ls (.int j :: .ref x :: st) := by
  subst hp
  obtain ⟨c, A, rfl⟩ := A
  have hi : i < c.slots.size := by have := (List.getElem?_eq_some_iff.mp hv).1; simpa using this
  have hv' : c.slots[j.toNatClampNeg]? = some v := by rw [(ix hj).2, ← Array.getElem?_toList]; exact hv
  exact N.stX (fun T locs X e t ht => X.laload C.hx (by rw [e]; exact A.1) (State.isArrayOf_alike C.hZ.alike A.2.1) A.2.2 (ixin hj hi) hv' (g := mkF K.m pc ls (.int j :: .ref x :: st)) rfl rfl (hb C.by hd) t ht) k
theorem N.caload (C : Cx G K own nm bytes maxL ret W) {x : Addr} {vs : List Value} {j : Int32} {i : Nat} {v : Value} (hd : decode bytes pc = .ok (.caload, 1)) (A : Av G.Z h x .char vs) (hj : j.toInt = (i : Nat)) (hv : vs[i]? = some v) (hp : pc + 1 = pc') (k : N G K rm Q h a b pc' ls (v :: st)) : N G K rm Q h a b pc ls (.int j :: .ref x :: st) := by
  subst hp
  obtain ⟨c, A, rfl⟩ := A
  have hi : i < c.slots.size := by have := (List.getElem?_eq_some_iff.mp hv).1; simpa using this
  have hv' : c.slots[j.toNatClampNeg]? = some v := by rw [(ix hj).2, ← Array.getElem?_toList]; exact hv
  exact N.stX (fun T locs X e t ht => X.caload C.hx (by rw [e]; exact A.1) (State.isArrayOf_alike C.hZ.alike A.2.1) A.2.2 (ixin hj hi) hv' (g := mkF K.m pc ls (.int j :: .ref x :: st)) rfl rfl (hb C.by hd) t ht) k
theorem N.baload (C : Cx G K own nm bytes maxL ret W) {x : Addr} {vs : List Value} {j : Int32} {i : Nat} {v : Value} (hd : decode bytes pc = .ok (.baload, 1)) (A : Av G.Z h x .byte vs) (hj : j.toInt = (i : Nat)) (hv : vs[i]? = some v) (hp : pc + 1 = pc') (k : N G K rm Q h a b pc' ls (v :: st)) : N G K rm Q h a b pc ls (.int j :: .ref x :: st) := by
  subst hp
  obtain ⟨c, A, rfl⟩ := A
  have hi : i < c.slots.size := by have := (List.getElem?_eq_some_iff.mp hv).1; simpa using this
  have hv' : c.slots[j.toNatClampNeg]? = some v := by rw [(ix hj).2, ← Array.getElem?_toList]; exact hv
  exact N.stX (fun T locs X e t ht => X.baloadBytes C.hx (by rw [e]; exact A.1) (State.isArrayOf_alike C.hZ.alike A.2.1) A.2.2 (ixin hj hi) hv' (g := mkF K.m pc ls (.int j :: .ref x :: st)) rfl rfl (hb C.by hd) t ht) k
theorem N.zaload (C : Cx G K own nm bytes maxL ret W) {x : Addr} {vs : List Value} {j : Int32} {i : Nat} {v : Value} (hd : decode bytes pc = .ok (.baload, 1)) (A : Av G.Z h x .boolean vs) (hj : j.toInt = (i : Nat)) (hv : vs[i]? = some v) (hp : pc + 1 = pc') (k : N G K rm Q h a b pc' ls (v :: st)) : N G K rm Q h a b pc ls (.int j :: .ref x :: st) := by
  subst hp
  obtain ⟨c, A, rfl⟩ := A
  have hi : i < c.slots.size := by have := (List.getElem?_eq_some_iff.mp hv).1; simpa using this
  have hv' : c.slots[j.toNatClampNeg]? = some v := by rw [(ix hj).2, ← Array.getElem?_toList]; exact hv
  exact N.stX (fun T locs X e t ht => X.baloadBooleans C.hx (by rw [e]; exact A.1) (State.isArrayOf_alike C.hZ.alike A.2.1) A.2.2 (ixin hj hi) hv' (g := mkF K.m pc ls (.int j :: .ref x :: st)) rfl rfl (hb C.by hd) t ht) k
theorem N.iastore (C : Cx G K own nm bytes maxL ret W) {x : Addr} {vs : List Value} {j : Int32} {i : Nat} {v : Int32} (hd : decode bytes pc = .ok (.iastore, 1)) (A : Av G.Z h x .int vs) (hj : j.toInt = (i : Nat)) (hi : i < vs.length) (hx : G.n0 ≤ x) (hp : pc + 1 = pc') (k : ∀ h', Wr h h' x i (.int v) → Av G.Z h' x .int (vs.set i (.int v)) → N G K rm Q h' a b pc' ls st) : N G K rm Q h a b pc ls (.int v :: .int j :: .ref x :: st) := fun T locs X e N0 => by
  subst hp
  have A0 := A
  obtain ⟨c, A, rfl⟩ := A
  obtain ⟨T', h', X', e', W', s'⟩ := Jvm.RoadKit.stI X C.hx C.hZ e A (j := j) (ixin hj (by simpa using hi)) (g := mkF K.m pc ls (.int v :: .int j :: .ref x :: st)) rfl rfl (hb C.by hd)
  have F' := Fr.snoc X' N0 hx
  rw [(ix hj).2] at W'
  obtain ⟨s₂, o, hs, r⟩ := k h' W' (A0.same W') T' _ X' e' F'
  exact ⟨s₂, o, s' _ hs, r⟩
theorem N.lastore (C : Cx G K own nm bytes maxL ret W) {x : Addr} {vs : List Value} {j : Int32} {i : Nat} {v : Int64} (hd : decode bytes pc = .ok (.lastore, 1)) (A : Av G.Z h x .long vs) (hj : j.toInt = (i : Nat)) (hi : i < vs.length) (hx : G.n0 ≤ x) (hp : pc + 1 = pc') (k : ∀ h', Wr h h' x i (.long v) → Av G.Z h' x .long (vs.set i (.long v)) → N G K rm Q h' a b pc' ls st) : N G K rm Q h a b pc ls (.long v :: .int j :: .ref x :: st) := fun T locs X e N0 => by
  subst hp
  have A0 := A
  obtain ⟨c, A, rfl⟩ := A
  obtain ⟨T', h', X', e', W', s'⟩ := Jvm.RoadKit.stJ X C.hx C.hZ e A (j := j) (ixin hj (by simpa using hi)) (g := mkF K.m pc ls (.long v :: .int j :: .ref x :: st)) rfl rfl (hb C.by hd)
  have F' := Fr.snoc X' N0 hx
  rw [(ix hj).2] at W'
  obtain ⟨s₂, o, hs, r⟩ := k h' W' (A0.same W') T' _ X' e' F'
  exact ⟨s₂, o, s' _ hs, r⟩
theorem N.castore (C : Cx G K own nm bytes maxL ret W) {x : Addr} {vs : List Value} {j : Int32} {i : Nat} {v : Int32} (hd : decode bytes pc = .ok (.castore, 1)) (A : Av G.Z h x .char vs) (hj : j.toInt = (i : Nat)) (hi : i < vs.length) (hx : G.n0 ≤ x) (hp : pc + 1 = pc') (k : ∀ h', Wr h h' x i (.int (nar .char v)) → Av G.Z h' x .char (vs.set i (.int (nar .char v))) → N G K rm Q h' a b pc' ls st) : N G K rm Q h a b pc ls (.int v :: .int j :: .ref x :: st) := fun T locs X e N0 => by
  subst hp
  have A0 := A
  obtain ⟨c, A, rfl⟩ := A
  obtain ⟨T', h', X', e', W', s'⟩ := Jvm.RoadKit.stC X C.hx C.hZ e A (j := j) (ixin hj (by simpa using hi)) (g := mkF K.m pc ls (.int v :: .int j :: .ref x :: st)) rfl rfl (hb C.by hd)
  have F' := Fr.snoc X' N0 hx
  rw [(ix hj).2] at W'
  obtain ⟨s₂, o, hs, r⟩ := k h' W' (A0.same W') T' _ X' e' F'
  exact ⟨s₂, o, s' _ hs, r⟩
theorem N.bastore (C : Cx G K own nm bytes maxL ret W) {x : Addr} {vs : List Value} {j : Int32} {i : Nat} {v : Int32} (hd : decode bytes pc = .ok (.bastore, 1)) (A : Av G.Z h x .byte vs) (hj : j.toInt = (i : Nat)) (hi : i < vs.length) (hx : G.n0 ≤ x) (hp : pc + 1 = pc') (k : ∀ h', Wr h h' x i (.int (nar .byte v)) → Av G.Z h' x .byte (vs.set i (.int (nar .byte v))) → N G K rm Q h' a b pc' ls st) : N G K rm Q h a b pc ls (.int v :: .int j :: .ref x :: st) := fun T locs X e N0 => by
  subst hp
  have A0 := A
  obtain ⟨c, A, rfl⟩ := A
  obtain ⟨T', h', X', e', W', s'⟩ := Jvm.RoadKit.stB X C.hx C.hZ e A (j := j) (ixin hj (by simpa using hi)) (g := mkF K.m pc ls (.int v :: .int j :: .ref x :: st)) rfl rfl (hb C.by hd)
  have F' := Fr.snoc X' N0 hx
  rw [(ix hj).2] at W'
  obtain ⟨s₂, o, hs, r⟩ := k h' W' (A0.same W') T' _ X' e' F'
  exact ⟨s₂, o, s' _ hs, r⟩
theorem N.zastore (C : Cx G K own nm bytes maxL ret W) {x : Addr} {vs : List Value} {j : Int32} {i : Nat} {v : Int32} (hd : decode bytes pc = .ok (.bastore, 1)) (A : Av G.Z h x .boolean vs) (hj : j.toInt = (i : Nat)) (hi : i < vs.length) (hx : G.n0 ≤ x) (hp : pc + 1 = pc') (k : ∀ h', Wr h h' x i (.int (nar .boolean v)) → Av G.Z h' x .boolean (vs.set i (.int (nar .boolean v))) → N G K rm Q h' a b pc' ls st) : N G K rm Q h a b pc ls (.int v :: .int j :: .ref x :: st) := fun T locs X e N0 => by
  subst hp
  have A0 := A
  obtain ⟨c, A, rfl⟩ := A
  obtain ⟨T', h', X', e', W', s'⟩ := Jvm.RoadKit.stZ X C.hx C.hZ e A (j := j) (ixin hj (by simpa using hi)) (g := mkF K.m pc ls (.int v :: .int j :: .ref x :: st)) rfl rfl (hb C.by hd)
  have F' := Fr.snoc X' N0 hx
  rw [(ix hj).2] at W'
  obtain ⟨s₂, o, hs, r⟩ := k h' W' (A0.same W') T' _ X' e' F'
  exact ⟨s₂, o, s' _ hs, r⟩

/-! returns -/
theorem N.ret0 (C : Cx G K own nm bytes maxL ret W) (hr : ret = none) (hd : decode bytes pc = .ok (.return_, 1)) (ha : a ≤ rm.cells) (hb' : b ≤ rm.slots) (hq : Q none h) : N G K rm Q h a b pc ls [] := fun T locs X e N0 => by
  obtain ⟨fs, hr', hrun, hended, hW, hsame⟩ := X.leave (v := none) (fun _ => rfl) (hlocks := C.lk)
  exact ⟨_, _, X.returnOut C.hx (C.rt.trans hr) (hb C.by hd) hr', hrun, hended, _, _, rfl, ⟨by show Q none T.heap; rw [e]; exact hq, N0⟩, ⟨_, rfl⟩, hW, hsame.mono ha hb'⟩
theorem N.retV (C : Cx G K own nm bytes maxL ret W) {w : Value} {t : FieldType} {i : Instr} (hr : ret = some t) (hn : narrow t w = w)
    (hi : (i = .ireturn ∧ (t = .int ∨ t = .boolean ∨ t = .byte ∨ t = .char ∨ t = .short) ∧ ∃ z, w = .int z) ∨ (i = .lreturn ∧ t = .long ∧ ∃ z, w = .long z) ∨ (i = .dreturn ∧ t = .double ∧ ∃ z, w = .double z) ∨ (i = .freturn ∧ t = .float ∧ ∃ z, w = .float z) ∨ (i = .areturn ∧ t.isReference = true ∧ w.isRef = true))
    (hd : decode bytes pc = .ok (i, 1)) (ha : a ≤ rm.cells) (hb' : b ≤ rm.slots) (hq : Q (some w) h) : N G K rm Q h a b pc ls (w :: st) := fun T locs X e N0 => by
  obtain ⟨fs, hr', hrun, hended, hW, hsame⟩ := X.leave (v := some w) (fun q => by rw [C.rt, hr] at q; cases q) (hlocks := C.lk)
  exact ⟨_, _, retOut X C.hx (C.rt.trans hr) hn hi (hb C.by hd) hr', hrun, hended, _, _, rfl, ⟨by show Q (some w) T.heap; rw [e]; exact hq, N0⟩, ⟨_, rfl⟩, hW, hsame.mono ha hb'⟩
theorem N.retI (C : Cx G K own nm bytes maxL (some .int) W) {z : Int32} (hd : decode bytes pc = .ok (.ireturn, 1)) (ha : a ≤ rm.cells) (hb' : b ≤ rm.slots) (hq : Q (some (.int z)) h) : N G K rm Q h a b pc ls (.int z :: st) :=
  N.retV C rfl rfl (Or.inl ⟨rfl, Or.inl rfl, z, rfl⟩) hd ha hb' hq
theorem N.retL (C : Cx G K own nm bytes maxL (some .long) W) {z : Int64} (hd : decode bytes pc = .ok (.lreturn, 1)) (ha : a ≤ rm.cells) (hb' : b ≤ rm.slots) (hq : Q (some (.long z)) h) : N G K rm Q h a b pc ls (.long z :: st) :=
  N.retV C rfl rfl (Or.inr (Or.inl ⟨rfl, rfl, z, rfl⟩)) hd ha hb' hq
theorem N.retA (C : Cx G K own nm bytes maxL (some t) W) {w : Value} (ht : t.isReference = true) (hw : w.isRef = true) (hd : decode bytes pc = .ok (.areturn, 1)) (ha : a ≤ rm.cells) (hb' : b ≤ rm.slots) (hq : Q (some w) h) : N G K rm Q h a b pc ls (w :: st) :=
  N.retV C rfl (by rcases ref_cases hw with rfl | ⟨z, rfl⟩ <;> cases t <;> first | rfl | (cases ht)) (Or.inr (Or.inr (Or.inr (Or.inr ⟨rfl, ht, hw⟩)))) hd ha hb' hq
theorem N.retN (C : Cx G K own nm bytes maxL (some t) W) {z z' : Int32} (ht : t = .boolean ∨ t = .byte ∨ t = .char ∨ t = .short) (hz : nar t z = z') (hd : decode bytes pc = .ok (.ireturn, 1)) (ha : a ≤ rm.cells) (hb' : b ≤ rm.slots) (hq : Q (some (.int z')) h) : N G K rm Q h a b pc ls (.int z :: st) := fun T locs X e N0 => by
  subst hz
  obtain ⟨fs, hr', hrun, hended, hW, hsame⟩ := X.leave (v := some (.int (nar t z))) (fun q => by rw [C.rt] at q; cases q) (hlocks := C.lk)
  exact ⟨_, _, Jvm.RoadKit.retN X C.hx C.rt ht (hb C.by hd) hr', hrun, hended, _, _, rfl, ⟨by show Q (some (.int (nar t z))) T.heap; rw [e]; exact hq, N0⟩, ⟨_, rfl⟩, hW, hsame.mono ha hb'⟩
/-! calls by the callee's contract -/
section Calls
variable {y : MethodName} {bytes' : ByteArray} {maxL' : Nat} {ret' : Option FieldType} {rm' : Room} {as : Array Value} {R' : Option Value → Heap → Prop} {stk rest : List Value}
theorem N.callS (C : Cx G K own nm bytes maxL ret W) {i : Nat} (argsL : List Value) (hd : decode bytes pc = .ok (.invokestatic i, 3)) (w1 : (Jvm.Cond.methodLink own i y).before G.a0 G.Z = true) (w2 : (Jvm.Cond.static y).before G.a0 G.Z = true) (w3 : (Jvm.Cond.initialized y.cls).before G.a0 G.Z = true) (w4 : (Jvm.Cond.code y bytes' maxL' ret').before G.a0 G.Z = true)
    (hy : y.cls ≠ "java/lang/invoke/MethodHandle" ∧ y.cls ≠ "java/lang/invoke/VarHandle") (M : Con G y bytes' maxL' ret' rm' argsL.toArray h R') (hlen : ∀ sig, parseMethodDescriptor y.desc = some sig → argsL.length = sig.parameters.length) (hsz : ls.size = maxL)
    (hf : rm'.frames + 1 ≤ rm.frames) (hl : (rest.map fun v => v.category).sum + (maxL' + 11) + rm'.locals ≤ rm.locals) (hc : a + rm'.cells ≤ rm.cells) (hs : b + rm'.slots ≤ rm.slots) (hst : stk = argsL.reverse ++ rest) (hp : pc + 3 = pc')
    (k : ∀ v h', R' v h' → N G K rm Q h' (a + rm'.cells) (b + rm'.slots) pc' ls (v.toList ++ rest)) : N G K rm Q h a b pc ls stk := fun T locs X e N0 => by
  subst hp
  obtain ⟨v, _, ⟨T', L', k', n'⟩, -, X', ⟨Lc, ⟨hQ, N1⟩, l', y', z'⟩, s'⟩ := Jvm.LawKit.callS X C.hx (y := y) C.ow (mvT C.hZ w1) (mvT C.hZ w2) (mvT C.hZ w3) (mvT C.hZ w4) hy (backOf (W := (rest.map fun v => v.category).sum) (Q := fun v h L => R' v h ∧ Fr G.n0 L) (M []) C.hZ w4 w3 hf hl) (g := mkF K.m pc ls stk) rfl (by rw [C.ml]; exact hsz) (argsL := argsL) (rest := rest) hlen hst (by show 2 * 0 + _ ≤ _; omega) (hb C.by hd) (fun _ _ => ⟨rfl, e, hc, hs⟩)
  dsimp only [Pt.U, Pt.locs, Pt.cells, Pt.slots] at X' l' y' z' s' hQ
  subst l' y' z'
  obtain ⟨s₂, o, hs', r⟩ := k v T'.heap hQ T' _ X' rfl (N0.app N1)
  exact ⟨s₂, o, s' _ hs', r⟩
theorem N.callI (C : Cx G K own nm bytes maxL ret W) {i : Nat} (x : Addr) (argsL : List Value) (hd : decode bytes pc = .ok (.invokespecial i, 3)) (hy1 : y.name = "<init>") (w1 : (Jvm.Cond.methodLink own i y).before G.a0 G.Z = true) (w2 : (Jvm.Cond.instanceMethod y).before G.a0 G.Z = true) (w3 : (Jvm.Cond.initialized y.cls).before G.a0 G.Z = true) (w4 : (Jvm.Cond.code y bytes' maxL' none).before G.a0 G.Z = true)
    (hy : y.cls ≠ "java/lang/invoke/MethodHandle" ∧ y.cls ≠ "java/lang/invoke/VarHandle") (M : Con G y bytes' maxL' none rm' (.ref x :: argsL).toArray h R') (hlen : ∀ sig, parseMethodDescriptor y.desc = some sig → argsL.length = sig.parameters.length) (hsz : ls.size = maxL)
    (hf : rm'.frames + 1 ≤ rm.frames) (hl : (rest.map fun v => v.category).sum + (maxL' + 11) + rm'.locals ≤ rm.locals) (hc : a + rm'.cells ≤ rm.cells) (hs : b + rm'.slots ≤ rm.slots) (hst : stk = argsL.reverse ++ .ref x :: rest) (hp : pc + 3 = pc')
    (k : ∀ v h', R' v h' → N G K rm Q h' (a + rm'.cells) (b + rm'.slots) pc' ls (v.toList ++ rest)) : N G K rm Q h a b pc ls stk := fun T locs X e N0 => by
  subst hp
  obtain ⟨v, _, ⟨T', L', k', n'⟩, -, X', ⟨Lc, ⟨hQ, N1⟩, l', y', z'⟩, s'⟩ := X.specialBack C.hx (y := y) hy1 C.ow (mvT C.hZ w1) (mvT C.hZ w2) (mvT C.hZ w4) hy (backOf (W := (rest.map fun v => v.category).sum) (Q := fun v h L => R' v h ∧ Fr G.n0 L) (M []) C.hZ w4 w3 hf hl) (g := mkF K.m pc ls stk) rfl (by rw [C.ml]; exact hsz) (Steps.refl _) (a := x) (argsL := argsL) (rest := rest) hlen hst (by show 2 * 0 + _ ≤ _; omega) (hb C.by hd) (fun _ _ => ⟨rfl, e, hc, hs⟩)
  dsimp only [Pt.U, Pt.locs, Pt.cells, Pt.slots] at X' l' y' z' s' hQ
  subst l' y' z'
  obtain ⟨s₂, o, hs', r⟩ := k v T'.heap hQ T' _ X' rfl (N0.app N1)
  exact ⟨s₂, o, s'.trans hs', r⟩
/-- an instance method of a class that selects itself -/
theorem N.callV (C : Cx G K own nm bytes maxL ret W) {i : Nat} (x : Addr) (argsL : List Value) (hd : decode bytes pc = .ok (.invokevirtual i, 3)) (w1 : (Jvm.Cond.methodLink own i y).before G.a0 G.Z = true) (wd : (Jvm.Cond.declares y).before G.a0 G.Z = true) (ws : (Jvm.Cond.selects y.cls y y).before G.a0 G.Z = true) (w2 : (Jvm.Cond.instanceMethod y).before G.a0 G.Z = true) (w3 : (Jvm.Cond.initialized y.cls).before G.a0 G.Z = true) (w4 : (Jvm.Cond.code y bytes' maxL' ret').before G.a0 G.Z = true)
    (hy : y.cls ≠ "java/lang/invoke/MethodHandle" ∧ y.cls ≠ "java/lang/invoke/VarHandle") (E : Exa G.Z h x y.cls) (M : Con G y bytes' maxL' ret' rm' (.ref x :: argsL).toArray h R') (hlen : ∀ sig, parseMethodDescriptor y.desc = some sig → argsL.length = sig.parameters.length) (hsz : ls.size = maxL)
    (hf : rm'.frames + 1 ≤ rm.frames) (hl : (rest.map fun v => v.category).sum + (maxL' + 11) + rm'.locals ≤ rm.locals) (hc : a + rm'.cells ≤ rm.cells) (hs : b + rm'.slots ≤ rm.slots) (hst : stk = argsL.reverse ++ .ref x :: rest) (hp : pc + 3 = pc')
    (k : ∀ v h', R' v h' → N G K rm Q h' (a + rm'.cells) (b + rm'.slots) pc' ls (v.toList ++ rest)) : N G K rm Q h a b pc ls stk := fun T locs X e N0 => by
  subst hp
  obtain ⟨cq, kq, qa, qb, qc⟩ := isOf C.hZ e E
  obtain ⟨v, _, ⟨T', L', k', n'⟩, -, X', ⟨Lc, ⟨hQ, N1⟩, l', y', z'⟩, s'⟩ := X.virtualBack C.hx (y := y) (z := y) C.ow (mvT C.hZ w1) (mvT C.hZ wd) (notFace_of_selects (args := #[]) (mvT C.hZ ws)) (mvT C.hZ ws) (mvT C.hZ w2) hy (backOf (W := (rest.map fun v => v.category).sum) (Q := fun v h L => R' v h ∧ Fr G.n0 L) (M []) C.hZ w4 w3 hf hl) qa qc (g := mkF K.m pc ls stk) rfl (by rw [C.ml]; exact hsz) (Steps.refl _) (argsL := argsL) (rest := rest) hlen hst (by show 2 * 0 + _ ≤ _; omega) (hb C.by hd) (fun _ _ => ⟨rfl, e, hc, hs⟩)
  dsimp only [Pt.U, Pt.locs, Pt.cells, Pt.slots] at X' l' y' z' s' hQ
  subst l' y' z'
  obtain ⟨s₂, o, hs', r⟩ := k v T'.heap hQ T' _ X' rfl (N0.app N1)
  exact ⟨s₂, o, s'.trans hs', r⟩
/-- a private method -/
theorem N.callP (C : Cx G K own nm bytes maxL ret W) {i : Nat} (x : Addr) (argsL : List Value) (hd : decode bytes pc = .ok (.invokevirtual i, 3)) (w1 : (Jvm.Cond.methodLink own i y).before G.a0 G.Z = true) (wp : (Jvm.Cond.privateMethod y).before G.a0 G.Z = true) (ws : (Jvm.Cond.selects y.cls y y).before G.a0 G.Z = true) (w2 : (Jvm.Cond.instanceMethod y).before G.a0 G.Z = true) (w3 : (Jvm.Cond.initialized y.cls).before G.a0 G.Z = true) (w4 : (Jvm.Cond.code y bytes' maxL' ret').before G.a0 G.Z = true)
    (hy : y.cls ≠ "java/lang/invoke/MethodHandle" ∧ y.cls ≠ "java/lang/invoke/VarHandle") (E : Exa G.Z h x y.cls) (M : Con G y bytes' maxL' ret' rm' (.ref x :: argsL).toArray h R') (hlen : ∀ sig, parseMethodDescriptor y.desc = some sig → argsL.length = sig.parameters.length) (hsz : ls.size = maxL)
    (hf : rm'.frames + 1 ≤ rm.frames) (hl : (rest.map fun v => v.category).sum + (maxL' + 11) + rm'.locals ≤ rm.locals) (hc : a + rm'.cells ≤ rm.cells) (hs : b + rm'.slots ≤ rm.slots) (hst : stk = argsL.reverse ++ .ref x :: rest) (hp : pc + 3 = pc')
    (k : ∀ v h', R' v h' → N G K rm Q h' (a + rm'.cells) (b + rm'.slots) pc' ls (v.toList ++ rest)) : N G K rm Q h a b pc ls stk := fun T locs X e N0 => by
  subst hp
  obtain ⟨cq, qa, qb⟩ := E.cell
  obtain ⟨v, _, ⟨T', L', k', n'⟩, -, X', ⟨Lc, ⟨hQ, N1⟩, l', y', z'⟩, s'⟩ := X.privateBack C.hx (y := y) C.ow (mvT C.hZ w1) (mvT C.hZ w2) (mvT C.hZ ws) (Cond.privateMethod_at (mvP C.hZ wp (args := #[]))) (mvT C.hZ w4) hy (backOf (W := (rest.map fun v => v.category).sum) (Q := fun v h L => R' v h ∧ Fr G.n0 L) (M []) C.hZ w4 w3 hf hl) (g := mkF K.m pc ls stk) rfl (by rw [C.ml]; exact hsz) (Steps.refl _) (a := x) (by rw [e]; exact qa) qb (argsL := argsL) (rest := rest) hlen hst (by show 2 * 0 + _ ≤ _; omega) (hb C.by hd) (fun _ _ => ⟨rfl, e, hc, hs⟩)
  dsimp only [Pt.U, Pt.locs, Pt.cells, Pt.slots] at X' l' y' z' s' hQ
  subst l' y' z'
  obtain ⟨s₂, o, hs', r⟩ := k v T'.heap hQ T' _ X' rfl (N0.app N1)
  exact ⟨s₂, o, s'.trans hs', r⟩
end Calls
end Rules
end Jvm.OwnKit

namespace Jvm.Pilot.@@N@@
open Jvm Jvm.ClassFile Sem Op Lib Jvm.Free Jvm.Stand Jvm.LawKit Jvm.RoadKit Bundle Jvm.OwnKit Jvm.Pilot.@@N@@.Jvm.D
def own_no (f k : Int) (b0 b1 b2 b3 : Int32) : Prop := (f ≤ 0 → 0 < k → b0.toInt ≠ 10) ∧ (f ≤ 1 → 1 < k → b1.toInt ≠ 10) ∧ (f ≤ 2 → 2 < k → b2.toInt ≠ 10) ∧ (f ≤ 3 → 3 < k → b3.toInt ≠ 10)
def own_at (k t : Int) (b0 b1 b2 b3 : Int32) : Prop := (k = 0 → 0 < t → b0.toInt = 10) ∧ (k = 1 → 1 < t → b1.toInt = 10) ∧ (k = 2 → 2 < t → b2.toInt = 10) ∧ (k = 3 → 3 < t → b3.toInt = 10)
theorem own_get4 (b0 b1 b2 b3 : Int32) {e : Int32} (h0 : 0 ≤ e.toInt) (h4 : e.toInt < 4) : ∃ (i : Nat) (z : Int32), e.toInt = (i : Nat) ∧ ([.int b0, .int b1, .int b2, .int b3] : List Value)[i]? = some (.int z) ∧ (e.toInt = 0 → z.toInt = b0.toInt) ∧ (e.toInt = 1 → z.toInt = b1.toInt) ∧ (e.toInt = 2 → z.toInt = b2.toInt) ∧ (e.toInt = 3 → z.toInt = b3.toInt) := by
  rcases (by omega : e.toInt = 0 ∨ e.toInt = 1 ∨ e.toInt = 2 ∨ e.toInt = 3) with q | q | q | q
  · exact ⟨0, b0, q, rfl, fun _ => rfl, by omega, by omega, by omega⟩
  · exact ⟨1, b1, q, rfl, by omega, fun _ => rfl, by omega, by omega⟩
  · exact ⟨2, b2, q, rfl, by omega, by omega, fun _ => rfl, by omega⟩
  · exact ⟨3, b3, q, rfl, by omega, by omega, by omega, fun _ => rfl⟩
theorem own_inc {e : Int32} (h0 : 0 ≤ e.toInt) (h4 : e.toInt < 4) : (e + (1 : Int32)).toInt = e.toInt + 1 := by
  have h1 := c_iadd e 1
  have h3 := rng32 (e + 1)
  have e1 : (1 : Int32).toInt = 1 := by decide
  omega
theorem own_from (f : Int32) : 0 ≤ ((f &&& (2147483647 : Int32)) % (5 : Int32)).toInt ∧ ((f &&& (2147483647 : Int32)) % (5 : Int32)).toInt < 5 := by
  have h1 := (c_and f 2147483647 (by decide)).1
  have h2 := (c_irem (f &&& (2147483647 : Int32)) 5 5 (by decide)).1 h1
  omega
theorem own_five {f : Int32} (h0 : 0 ≤ f.toInt) (h1 : f.toInt < 5) : ((5 : Int32) - f).toInt = 5 - f.toInt := by
  have h2 := c_isub 5 f
  have h3 := rng32 ((5 : Int32) - f)
  have e1 : (5 : Int32).toInt = 5 := by decide
  omega
theorem own_to {f : Int32} (t : Int32) (h0 : 0 ≤ f.toInt) (h1 : f.toInt < 5) : f.toInt ≤ (f + (t &&& (2147483647 : Int32)) % ((5 : Int32) - f)).toInt ∧ (f + (t &&& (2147483647 : Int32)) % ((5 : Int32) - f)).toInt ≤ 4 := by
  have h2 := own_five h0 h1
  have h3 := (c_and t 2147483647 (by decide)).1
  have h4 := (c_iremV (t &&& (2147483647 : Int32)) ((5 : Int32) - f)).1 h3 (by omega)
  have h5 := c_iadd f ((t &&& (2147483647 : Int32)) % ((5 : Int32) - f))
  have h6 := rng32 (f + (t &&& (2147483647 : Int32)) % ((5 : Int32) - f))
  omega
theorem own_u1 {u : Int32} {P : Prop} (h : (u = 1 ∧ P) ∨ (u = 0 ∧ ¬ P)) (hc : ¬ u = (0 : Int32)) : P := by
  rcases h with h | h
  · exact h.2
  · exact absurd h.1 hc
theorem own_u0 {u : Int32} {P : Prop} (h : (u = 1 ∧ P) ∨ (u = 0 ∧ ¬ P)) (hc : u = (0 : Int32)) : ¬ P := by
  rcases h with h | h
  · rw [h.1] at hc; exact absurd hc (by decide)
  · exact h.2
theorem own_l0 : (0 : Int32).toInt = 0 := by decide
theorem own_l1 : (1 : Int32).toInt = 1 := by decide
theorem own_l2 : (2 : Int32).toInt = 2 := by decide
theorem own_l3 : (3 : Int32).toInt = 3 := by decide
theorem pn0 : plainName "com/example/grantgraph/grantgraph/snapshot/LineChunksLineEndPinLaw" = true := by first | (simp [plainName, overriddenIn]; done) | decide +kernel
theorem pn1 : plainName "com/example/grantgraph/grantgraph/snapshot/LineChunksLineEndPinLaw" = true := by first | (simp [plainName, overriddenIn]; done) | decide +kernel
theorem pn2 : plainName "com/example/grantgraph/grantgraph/snapshot/LineChunksLineEndPinLaw" = true := by first | (simp [plainName, overriddenIn]; done) | decide +kernel
theorem pn3 : plainName "com/example/grantgraph/grantgraph/snapshot/LineChunks" = true := by first | (simp [plainName, overriddenIn]; done) | decide +kernel
theorem pd__III_B : parseMethodDescriptor "(III)B" = some ⟨[.int, .int, .int], some .byte⟩ := by decide +kernel
theorem pd___BIII_Z : parseMethodDescriptor "([BIII)Z" = some ⟨[(.array .byte), .int, .int, .int], some .boolean⟩ := by decide +kernel
theorem pd___BII_I : parseMethodDescriptor "([BII)I" = some ⟨[(.array .byte), .int, .int], some .int⟩ := by decide +kernel

theorem d1_0 : decode method_2_code 0 = .ok (.iload_n 0, 1) := by decide +kernel
theorem d1_1 : decode method_2_code 1 = .ok (.iconst 2, 1) := by decide +kernel
theorem d1_2 : decode method_2_code 2 = .ok (.iload_n 2, 1) := by decide +kernel
theorem d1_3 : decode method_2_code 3 = .ok (.imul, 1) := by decide +kernel
theorem d1_4 : decode method_2_code 4 = .ok (.iushr, 1) := by decide +kernel
theorem d1_5 : decode method_2_code 5 = .ok (.iconst 3, 1) := by decide +kernel
theorem d1_6 : decode method_2_code 6 = .ok (.iand, 1) := by decide +kernel
theorem d1_7 : decode method_2_code 7 = .ok (.ifCond .ne 6, 3) := by decide +kernel
theorem d1_10 : decode method_2_code 10 = .ok (.bipush 10, 2) := by decide +kernel
theorem d1_12 : decode method_2_code 12 = .ok (.ireturn, 1) := by decide +kernel
theorem d1_13 : decode method_2_code 13 = .ok (.iload_n 1, 1) := by decide +kernel
theorem d1_14 : decode method_2_code 14 = .ok (.bipush 8, 2) := by decide +kernel
theorem d1_16 : decode method_2_code 16 = .ok (.iload_n 2, 1) := by decide +kernel
theorem d1_17 : decode method_2_code 17 = .ok (.imul, 1) := by decide +kernel
theorem d1_18 : decode method_2_code 18 = .ok (.iushr, 1) := by decide +kernel
theorem d1_19 : decode method_2_code 19 = .ok (.i2b, 1) := by decide +kernel
theorem d1_20 : decode method_2_code 20 = .ok (.ireturn, 1) := by decide +kernel
theorem d2_0 : decode method_3_code 0 = .ok (.iload_n 1, 1) := by decide +kernel
theorem d2_1 : decode method_3_code 1 = .ok (.iload_n 2, 1) := by decide +kernel
theorem d2_2 : decode method_3_code 2 = .ok (.if_icmp .lt 20, 3) := by decide +kernel
theorem d2_5 : decode method_3_code 5 = .ok (.iload_n 1, 1) := by decide +kernel
theorem d2_6 : decode method_3_code 6 = .ok (.iload_n 3, 1) := by decide +kernel
theorem d2_7 : decode method_3_code 7 = .ok (.if_icmp .ge 15, 3) := by decide +kernel
theorem d2_10 : decode method_3_code 10 = .ok (.aload_n 0, 1) := by decide +kernel
theorem d2_11 : decode method_3_code 11 = .ok (.iload_n 1, 1) := by decide +kernel
theorem d2_12 : decode method_3_code 12 = .ok (.baload, 1) := by decide +kernel
theorem d2_13 : decode method_3_code 13 = .ok (.bipush 10, 2) := by decide +kernel
theorem d2_15 : decode method_3_code 15 = .ok (.if_icmp .ne 7, 3) := by decide +kernel
theorem d2_18 : decode method_3_code 18 = .ok (.iconst 1, 1) := by decide +kernel
theorem d2_19 : decode method_3_code 19 = .ok (.goto 4, 3) := by decide +kernel
theorem d2_22 : decode method_3_code 22 = .ok (.iconst 0, 1) := by decide +kernel
theorem d2_23 : decode method_3_code 23 = .ok (.ireturn, 1) := by decide +kernel
theorem d3_0 : decode prog_90_method_6_code 0 = .ok (.iload_n 1, 1) := by decide +kernel
theorem d3_1 : decode prog_90_method_6_code 1 = .ok (.istore_n 3, 1) := by decide +kernel
theorem d3_2 : decode prog_90_method_6_code 2 = .ok (.iload_n 3, 1) := by decide +kernel
theorem d3_3 : decode prog_90_method_6_code 3 = .ok (.iload_n 2, 1) := by decide +kernel
theorem d3_4 : decode prog_90_method_6_code 4 = .ok (.if_icmp .ge 17, 3) := by decide +kernel
theorem d3_7 : decode prog_90_method_6_code 7 = .ok (.aload_n 0, 1) := by decide +kernel
theorem d3_8 : decode prog_90_method_6_code 8 = .ok (.iload_n 3, 1) := by decide +kernel
theorem d3_9 : decode prog_90_method_6_code 9 = .ok (.baload, 1) := by decide +kernel
theorem d3_10 : decode prog_90_method_6_code 10 = .ok (.bipush 10, 2) := by decide +kernel
theorem d3_12 : decode prog_90_method_6_code 12 = .ok (.if_icmp .eq 9, 3) := by decide +kernel
theorem d3_15 : decode prog_90_method_6_code 15 = .ok (.iinc 3 1, 3) := by decide +kernel
theorem d3_18 : decode prog_90_method_6_code 18 = .ok (.goto (-16), 3) := by decide +kernel
theorem d3_21 : decode prog_90_method_6_code 21 = .ok (.iload_n 3, 1) := by decide +kernel
theorem d3_22 : decode prog_90_method_6_code 22 = .ok (.ireturn, 1) := by decide +kernel
theorem ef1 (m : MethodId) (x0 : Int32) (x1 : Int32) (x2 : Int32) : entryFrame m #[(.int x0), (.int x1), (.int x2)] 3 = mkF m 0 #[.val (.int x0), .val (.int x1), .val (.int x2)] [] := by first | (simp [entryFrame, mkF, argsToLocals, Value.category]; done) | rfl
theorem ef2 (m : MethodId) (x0 : Addr) (x1 : Int32) (x2 : Int32) (x3 : Int32) : entryFrame m #[(.ref x0), (.int x1), (.int x2), (.int x3)] 4 = mkF m 0 #[.val (.ref x0), .val (.int x1), .val (.int x2), .val (.int x3)] [] := by first | (simp [entryFrame, mkF, argsToLocals, Value.category]; done) | rfl
theorem ef3 (m : MethodId) (x0 : Addr) (x1 : Int32) (x2 : Int32) : entryFrame m #[(.ref x0), (.int x1), (.int x2)] 4 = mkF m 0 #[.val (.ref x0), .val (.int x1), .val (.int x2), .unset] [] := by first | (simp [entryFrame, mkF, argsToLocals, Value.category]; done) | rfl
theorem ef0 (m : MethodId) (x0 : Int32) (x1 : Int32) (x2 : Int32) (x3 : Int32) : entryFrame m #[(.int x0), (.int x1), (.int x2), (.int x3)] maxLocals = mkF m 0 #[.val (.int x0), .val (.int x1), .val (.int x2), .val (.int x3), .unset, .unset, .unset, .unset, .unset] [] := by first | (simp [entryFrame, mkF, argsToLocals, Value.category, maxLocals]; done) | rfl
def rm1 : Room := { frames := 0, cells := 0, slots := 0, locals := 0 }
def rm2 : Room := { frames := 0, cells := 0, slots := 0, locals := 0 }
def rm3 : Room := { frames := 0, cells := 0, slots := 0, locals := 0 }
set_option maxRecDepth 65536 in
set_option maxHeartbeats 40000000 in
theorem con1 (G : Gx) (hw : ∀ d ∈ tables_1, d.before G.a0 G.Z = true) (s v i : Int32) (h : Heap) :
    Con G (⟨"com/example/grantgraph/grantgraph/snapshot/LineChunksLineEndPinLaw", "pick", "(III)B"⟩ : MethodName) method_2_code 3 (some .byte) rm1 #[(.int s), (.int v), (.int i)] h (fun v h' => ∃ z : Int32, v = some (.int z) ∧ h = h') := by
  refine Con.of (W := tables_1) (plainFor_of_name pn1) hw (fun mm => ef1 mm s v i) (fun K C => ?_)
  have C : Cx G K "com/example/grantgraph/grantgraph/snapshot/LineChunksLineEndPinLaw" "pick" method_2_code 3 (some .byte) tables_1 := C
  generalize hQ : (fun v h' => ∃ z : Int32, v = some (.int z) ∧ h = h' : Option Value → Heap → Prop) = Q
  refine N.iloadN C (pc' := 1) d1_0 rfl rfl ?_
  refine N.iconst C (pc' := 2) (z := 2) d1_1 rfl rfl ?_
  refine N.iloadN C (pc' := 3) d1_2 rfl rfl ?_
  refine N.imul C (pc' := 4) d1_3 rfl ?_
  refine N.iushr C (pc' := 5) d1_4 rfl ?_
  refine N.iconst C (pc' := 6) (z := 3) d1_5 rfl rfl ?_
  refine N.iand C (pc' := 7) d1_6 rfl ?_
  refine N.ifc C (pt := 13) (pf := 10) d1_7 rfl rfl (fun (hc7 : ¬ (((s.toUInt32 >>> (((2 : Int32) * i) &&& 31).toUInt32).toInt32) &&& (3 : Int32)) = (0 : Int32)) => ?_) (fun (hc7 : (((s.toUInt32 >>> (((2 : Int32) * i) &&& 31).toUInt32).toInt32) &&& (3 : Int32)) = (0 : Int32)) => ?_)
  · have hi7 : ¬ (((s.toUInt32 >>> (((2 : Int32) * i) &&& 31).toUInt32).toInt32) &&& (3 : Int32)).toInt = 0 := neI hc7
    refine N.iloadN C (pc' := 14) d1_13 rfl rfl ?_
    refine N.bipush C (pc' := 16) (z := 8) d1_14 rfl rfl ?_
    refine N.iloadN C (pc' := 17) d1_16 rfl rfl ?_
    refine N.imul C (pc' := 18) d1_17 rfl ?_
    refine N.iushr C (pc' := 19) d1_18 rfl ?_
    refine N.i2b C (pc' := 20) d1_19 rfl ?_
    exact N.retN C (by simp) rfl d1_20 (by decide) (by decide) (by subst hQ; exact ⟨_, rfl, rfl⟩)
  · have hi7 : (((s.toUInt32 >>> (((2 : Int32) * i) &&& 31).toUInt32).toInt32) &&& (3 : Int32)).toInt = 0 := eqI hc7
    refine N.bipush C (pc' := 12) (z := 10) d1_10 rfl rfl ?_
    exact N.retN C (by simp) rfl d1_12 (by decide) (by decide) (by subst hQ; exact ⟨_, rfl, rfl⟩)
set_option maxRecDepth 65536 in
set_option maxHeartbeats 40000000 in
theorem con2 (G : Gx) (hw : ∀ d ∈ tables_1, d.before G.a0 G.Z = true) (a : Addr) (i f t z : Int32) (k : Nat) (vs : List Value) (h : Heap) (A_a : Av G.Z h a .byte vs) (hk : i.toInt = (k : Nat)) (hz : vs[k]? = some (.int z)) :
    Con G (⟨"com/example/grantgraph/grantgraph/snapshot/LineChunksLineEndPinLaw", "isNl", "([BIII)Z"⟩ : MethodName) method_3_code 4 (some .boolean) rm2 #[(.ref a), (.int i), (.int f), (.int t)] h (fun v h' => ∃ u : Int32, v = some (.int u) ∧ h = h' ∧ ((u = 1 ∧ (f.toInt ≤ i.toInt ∧ i.toInt < t.toInt ∧ z.toInt = 10)) ∨ (u = 0 ∧ ¬ (f.toInt ≤ i.toInt ∧ i.toInt < t.toInt ∧ z.toInt = 10)))) := by
  refine Con.of (W := tables_1) (plainFor_of_name pn2) hw (fun mm => ef2 mm a i f t) (fun K C => ?_)
  have C : Cx G K "com/example/grantgraph/grantgraph/snapshot/LineChunksLineEndPinLaw" "isNl" method_3_code 4 (some .boolean) tables_1 := C
  generalize hQ : (fun v h' => ∃ u : Int32, v = some (.int u) ∧ h = h' ∧ ((u = 1 ∧ (f.toInt ≤ i.toInt ∧ i.toInt < t.toInt ∧ z.toInt = 10)) ∨ (u = 0 ∧ ¬ (f.toInt ≤ i.toInt ∧ i.toInt < t.toInt ∧ z.toInt = 10))) : Option Value → Heap → Prop) = Q
  refine N.iloadN C (pc' := 1) d2_0 rfl rfl ?_
  refine N.iloadN C (pc' := 2) d2_1 rfl rfl ?_
  refine N.icmp C (pt := 22) (pf := 5) d2_2 rfl rfl (fun (hc2 : i.toInt < f.toInt) => ?_) (fun (hc2 : f.toInt ≤ i.toInt) => ?_)
  · refine N.iconst C (pc' := 23) (z := 0) d2_22 rfl rfl ?_
    exact N.retN C (by simp) (z' := (0 : Int32)) rfl d2_23 (by decide) (by decide) (by subst hQ; exact ⟨0, rfl, rfl, Or.inr ⟨rfl, by omega⟩⟩)
  · refine N.iloadN C (pc' := 6) d2_5 rfl rfl ?_
    refine N.iloadN C (pc' := 7) d2_6 rfl rfl ?_
    refine N.icmp C (pt := 22) (pf := 10) d2_7 rfl rfl (fun (hc7 : t.toInt ≤ i.toInt) => ?_) (fun (hc7 : i.toInt < t.toInt) => ?_)
    · refine N.iconst C (pc' := 23) (z := 0) d2_22 rfl rfl ?_
      exact N.retN C (by simp) (z' := (0 : Int32)) rfl d2_23 (by decide) (by decide) (by subst hQ; exact ⟨0, rfl, rfl, Or.inr ⟨rfl, by omega⟩⟩)
    · refine N.aloadN C (pc' := 11) d2_10 rfl rfl rfl ?_
      refine N.iloadN C (pc' := 12) d2_11 rfl rfl ?_
      refine N.baload C (pc' := 13) (i := k) (v := (.int z)) d2_12 A_a hk hz rfl ?_
      refine N.bipush C (pc' := 15) (z := 10) d2_13 rfl rfl ?_
      refine N.icmp C (pt := 22) (pf := 18) d2_15 rfl rfl (fun (hc15 : ¬ z = (10 : Int32)) => ?_) (fun (hc15 : z = (10 : Int32)) => ?_)
      · have hi15 : ¬ z.toInt = 10 := neI hc15
        refine N.iconst C (pc' := 23) (z := 0) d2_22 rfl rfl ?_
        exact N.retN C (by simp) (z' := (0 : Int32)) rfl d2_23 (by decide) (by decide) (by subst hQ; exact ⟨0, rfl, rfl, Or.inr ⟨rfl, by omega⟩⟩)
      · have hi15 : z.toInt = 10 := eqI hc15
        refine N.iconst C (pc' := 19) (z := 1) d2_18 rfl rfl ?_
        refine N.goto C (pc' := 23) d2_19 rfl ?_
        exact N.retN C (by simp) (z' := (1 : Int32)) rfl d2_23 (by decide) (by decide) (by subst hQ; exact ⟨1, rfl, rfl, Or.inl ⟨rfl, by omega⟩⟩)
set_option maxRecDepth 65536 in
set_option maxHeartbeats 40000000 in
theorem con3 (G : Gx) (hw : ∀ d ∈ tables_1, d.before G.a0 G.Z = true) (a : Addr) (f t b0 b1 b2 b3 : Int32) (h : Heap) (A_a : Av G.Z h a .byte [.int b0, .int b1, .int b2, .int b3]) (hf : 0 ≤ f.toInt) (hft : f.toInt ≤ t.toInt) (ht : t.toInt ≤ 4) :
    Con G (⟨"com/example/grantgraph/grantgraph/snapshot/LineChunks", "lineEnd", "([BII)I"⟩ : MethodName) prog_90_method_6_code 4 (some .int) rm3 #[(.ref a), (.int f), (.int t)] h (fun v h' => ∃ e : Int32, v = some (.int e) ∧ h = h' ∧ f.toInt ≤ e.toInt ∧ e.toInt ≤ t.toInt ∧ own_no f.toInt e.toInt b0 b1 b2 b3 ∧ own_at e.toInt t.toInt b0 b1 b2 b3) := by
  refine Con.of (W := tables_1) (plainFor_of_name pn3) hw (fun mm => ef3 mm a f t) (fun K C => ?_)
  have C : Cx G K "com/example/grantgraph/grantgraph/snapshot/LineChunks" "lineEnd" prog_90_method_6_code 4 (some .int) tables_1 := C
  generalize hQ : (fun v h' => ∃ e : Int32, v = some (.int e) ∧ h = h' ∧ f.toInt ≤ e.toInt ∧ e.toInt ≤ t.toInt ∧ own_no f.toInt e.toInt b0 b1 b2 b3 ∧ own_at e.toInt t.toInt b0 b1 b2 b3 : Option Value → Heap → Prop) = Q
  refine N.iloadN C (pc' := 1) d3_0 rfl rfl ?_
  refine N.istoreN C (pc' := 2) (ls' := #[.val (.ref a), .val (.int f), .val (.int t), .val (.int f)]) d3_1 rfl rfl ?_
  have loop : ∀ (m : Nat) (e : Int32), f.toInt ≤ e.toInt → e.toInt ≤ t.toInt → t.toInt - e.toInt ≤ (m : Nat) → own_no f.toInt e.toInt b0 b1 b2 b3 → N G K rm3 Q h 0 0 2 #[.val (.ref a), .val (.int f), .val (.int t), .val (.int e)] [] := by
    intro m
    induction m with
    | zero =>
      intro e he1 he2 hm hno
      refine N.iloadN C (pc' := 3) d3_2 rfl rfl ?_
      refine N.iloadN C (pc' := 4) d3_3 rfl rfl ?_
      refine N.icmp C (pt := 21) (pf := 7) d3_4 rfl rfl (fun (hc4 : t.toInt ≤ e.toInt) => ?_) (fun (hc4 : e.toInt < t.toInt) => absurd (show False from by omega) id)
      refine N.iloadN C (pc' := 22) d3_21 rfl rfl ?_
      exact N.retI C d3_22 (by decide) (by decide) (by subst hQ; exact ⟨e, rfl, rfl, by omega, by omega, hno, by unfold own_at; omega⟩)
    | succ m ih =>
      intro e he1 he2 hm hno
      refine N.iloadN C (pc' := 3) d3_2 rfl rfl ?_
      refine N.iloadN C (pc' := 4) d3_3 rfl rfl ?_
      refine N.icmp C (pt := 21) (pf := 7) d3_4 rfl rfl (fun (hc4 : t.toInt ≤ e.toInt) => ?_) (fun (hc4 : e.toInt < t.toInt) => ?_)
      · refine N.iloadN C (pc' := 22) d3_21 rfl rfl ?_
        exact N.retI C d3_22 (by decide) (by decide) (by subst hQ; exact ⟨e, rfl, rfl, by omega, by omega, hno, by unfold own_at; omega⟩)
      · refine N.aloadN C (pc' := 8) d3_7 rfl rfl rfl ?_
        refine N.iloadN C (pc' := 9) d3_8 rfl rfl ?_
        obtain ⟨i, z, hi, hz, q0, q1, q2, q3⟩ := own_get4 b0 b1 b2 b3 (e := e) (by omega) (by omega)
        refine N.baload C (pc' := 10) (i := i) (v := (.int z)) d3_9 A_a hi hz rfl ?_
        refine N.bipush C (pc' := 12) (z := 10) d3_10 rfl rfl ?_
        refine N.icmp C (pt := 21) (pf := 15) d3_12 rfl rfl (fun (hc12 : z = (10 : Int32)) => ?_) (fun (hc12 : ¬ z = (10 : Int32)) => ?_)
        · have hi12 : z.toInt = 10 := eqI hc12
          refine N.iloadN C (pc' := 22) d3_21 rfl rfl ?_
          exact N.retI C d3_22 (by decide) (by decide) (by subst hQ; exact ⟨e, rfl, rfl, by omega, by omega, hno, by unfold own_at; omega⟩)
        · have hi12 : ¬ z.toInt = 10 := neI hc12
          refine N.iinc C (pc' := 18) (z := 1) (ls' := #[.val (.ref a), .val (.int f), .val (.int t), .val (.int (e + (1 : Int32)))]) d3_15 rfl rfl rfl rfl ?_
          refine N.goto C (pc' := 2) d3_18 rfl ?_
          exact ih _ (by rw [own_inc (by omega) (by omega)]; omega) (by rw [own_inc (by omega) (by omega)]; omega) (by rw [own_inc (by omega) (by omega)]; omega) (by rw [own_inc (by omega) (by omega)]; unfold own_no at hno ⊢; omega)
  exact loop 4 _ (Int.le_refl _) hft (by omega) (by unfold own_no; omega)
set_option maxRecDepth 65536 in
set_option maxHeartbeats 40000000 in
theorem con0 (G : Gx) (hw : ∀ d ∈ tables_1, d.before G.a0 G.Z = true) (s v fr tt : Int32) (h : Heap) (Z0 : G.n0 ≤ h.size) :
    Con G x code maxLocals ret room_1 #[(.int s), (.int v), (.int fr), (.int tt)] h (fun v _ => v = some (.int 1)) := by
  refine Con.of (W := tables_1) (plainFor_of_name pn0) hw (fun mm => ef0 mm s v fr tt) (fun K C => ?_)
  have C : Cx G K "com/example/grantgraph/grantgraph/snapshot/LineChunksLineEndPinLaw" "law" code maxLocals ret tables_1 := C
  generalize hQ : (fun v _ => v = some (.int 1) : Option Value → Heap → Prop) = Q
  refine N.iconst C (pc' := 1) (z := 4) at_0 rfl rfl ?_
  refine N.newP C (pc' := 3) (n := (4 : Int32)) 4 at_1 (C.w (i := 0) rfl) (by decide) (by decide) (by decide) (by decide) (by decide) rfl (fun h1_1 a hx_a Ex1 A'_a => ?_)
  have g_a : G.n0 ≤ a := by rw [hx_a]; exact Z0
  have Z0 := Nat.le_trans Z0 Ex1.1
  have A_a : Av G.Z h1_1 a .byte [(.int (0 : Int32)), (.int (0 : Int32)), (.int (0 : Int32)), (.int (0 : Int32))] := A'_a
  refine N.astore C (pc' := 5) (ls' := #[.val (.int s), .val (.int v), .val (.int fr), .val (.int tt), .val (.ref a), .unset, .unset, .unset, .unset]) at_3 rfl rfl rfl ?_
  refine N.aload C (pc' := 7) at_5 rfl rfl rfl ?_
  refine N.iconst C (pc' := 8) (z := 0) at_7 rfl rfl ?_
  refine N.iloadN C (pc' := 9) at_8 rfl rfl ?_
  refine N.iloadN C (pc' := 10) at_9 rfl rfl ?_
  refine N.iconst C (pc' := 11) (z := 0) at_10 rfl rfl ?_
  refine N.callS C (pc' := 14) [(.int s), (.int v), (.int (0 : Int32))] at_11 (C.w (i := 1) rfl) (C.w (i := 2) rfl) (C.w (i := 3) rfl) (C.w (i := 4) rfl) (by decide) (con1 G hw s v (0 : Int32) h1_1) (lenOf pd__III_B rfl) rfl (by decide) (show 2 + (3 + 11) + _ ≤ _ from by decide) (by decide) (by decide) (rest := [(.int (0 : Int32)), (.ref a)]) rfl rfl ?_
  rintro _ h11_2 ⟨z0, rfl, rfl⟩
  show N G K room_1 Q h1_1 (0 + 1) (0 + 4) 14 #[.val (.int s), .val (.int v), .val (.int fr), .val (.int tt), .val (.ref a), .unset, .unset, .unset, .unset] [(.int z0), (.int (0 : Int32)), (.ref a)]
  refine N.bastore C (pc' := 15) (i := 0) at_14 A_a rfl (show 0 < 4 from by decide) g_a rfl (fun h14_3 W14 A_a => ?_)
  have Z0 : G.n0 ≤ _ := (Wr.size W14).symm ▸ Z0
  have A_a : Av G.Z h14_3 a .byte [(.int (nar .byte z0)), (.int (0 : Int32)), (.int (0 : Int32)), (.int (0 : Int32))] := A_a
  refine N.aload C (pc' := 17) at_15 rfl rfl rfl ?_
  refine N.iconst C (pc' := 18) (z := 1) at_17 rfl rfl ?_
  refine N.iloadN C (pc' := 19) at_18 rfl rfl ?_
  refine N.iloadN C (pc' := 20) at_19 rfl rfl ?_
  refine N.iconst C (pc' := 21) (z := 1) at_20 rfl rfl ?_
  refine N.callS C (pc' := 24) [(.int s), (.int v), (.int (1 : Int32))] at_21 (C.w (i := 1) rfl) (C.w (i := 2) rfl) (C.w (i := 3) rfl) (C.w (i := 4) rfl) (by decide) (con1 G hw s v (1 : Int32) h14_3) (lenOf pd__III_B rfl) rfl (by decide) (show 2 + (3 + 11) + _ ≤ _ from by decide) (by decide) (by decide) (rest := [(.int (1 : Int32)), (.ref a)]) rfl rfl ?_
  rintro _ h21_4 ⟨z1, rfl, rfl⟩
  show N G K room_1 Q h14_3 (0 + 1) (0 + 4) 24 #[.val (.int s), .val (.int v), .val (.int fr), .val (.int tt), .val (.ref a), .unset, .unset, .unset, .unset] [(.int z1), (.int (1 : Int32)), (.ref a)]
  refine N.bastore C (pc' := 25) (i := 1) at_24 A_a rfl (show 1 < 4 from by decide) g_a rfl (fun h24_5 W24 A_a => ?_)
  have Z0 : G.n0 ≤ _ := (Wr.size W24).symm ▸ Z0
  have A_a : Av G.Z h24_5 a .byte [(.int (nar .byte z0)), (.int (nar .byte z1)), (.int (0 : Int32)), (.int (0 : Int32))] := A_a
  refine N.aload C (pc' := 27) at_25 rfl rfl rfl ?_
  refine N.iconst C (pc' := 28) (z := 2) at_27 rfl rfl ?_
  refine N.iloadN C (pc' := 29) at_28 rfl rfl ?_
  refine N.iloadN C (pc' := 30) at_29 rfl rfl ?_
  refine N.iconst C (pc' := 31) (z := 2) at_30 rfl rfl ?_
  refine N.callS C (pc' := 34) [(.int s), (.int v), (.int (2 : Int32))] at_31 (C.w (i := 1) rfl) (C.w (i := 2) rfl) (C.w (i := 3) rfl) (C.w (i := 4) rfl) (by decide) (con1 G hw s v (2 : Int32) h24_5) (lenOf pd__III_B rfl) rfl (by decide) (show 2 + (3 + 11) + _ ≤ _ from by decide) (by decide) (by decide) (rest := [(.int (2 : Int32)), (.ref a)]) rfl rfl ?_
  rintro _ h31_6 ⟨z2, rfl, rfl⟩
  show N G K room_1 Q h24_5 (0 + 1) (0 + 4) 34 #[.val (.int s), .val (.int v), .val (.int fr), .val (.int tt), .val (.ref a), .unset, .unset, .unset, .unset] [(.int z2), (.int (2 : Int32)), (.ref a)]
  refine N.bastore C (pc' := 35) (i := 2) at_34 A_a rfl (show 2 < 4 from by decide) g_a rfl (fun h34_7 W34 A_a => ?_)
  have Z0 : G.n0 ≤ _ := (Wr.size W34).symm ▸ Z0
  have A_a : Av G.Z h34_7 a .byte [(.int (nar .byte z0)), (.int (nar .byte z1)), (.int (nar .byte z2)), (.int (0 : Int32))] := A_a
  refine N.aload C (pc' := 37) at_35 rfl rfl rfl ?_
  refine N.iconst C (pc' := 38) (z := 3) at_37 rfl rfl ?_
  refine N.iloadN C (pc' := 39) at_38 rfl rfl ?_
  refine N.iloadN C (pc' := 40) at_39 rfl rfl ?_
  refine N.iconst C (pc' := 41) (z := 3) at_40 rfl rfl ?_
  refine N.callS C (pc' := 44) [(.int s), (.int v), (.int (3 : Int32))] at_41 (C.w (i := 1) rfl) (C.w (i := 2) rfl) (C.w (i := 3) rfl) (C.w (i := 4) rfl) (by decide) (con1 G hw s v (3 : Int32) h34_7) (lenOf pd__III_B rfl) rfl (by decide) (show 2 + (3 + 11) + _ ≤ _ from by decide) (by decide) (by decide) (rest := [(.int (3 : Int32)), (.ref a)]) rfl rfl ?_
  rintro _ h41_8 ⟨z3, rfl, rfl⟩
  show N G K room_1 Q h34_7 (0 + 1) (0 + 4) 44 #[.val (.int s), .val (.int v), .val (.int fr), .val (.int tt), .val (.ref a), .unset, .unset, .unset, .unset] [(.int z3), (.int (3 : Int32)), (.ref a)]
  refine N.bastore C (pc' := 45) (i := 3) at_44 A_a rfl (show 3 < 4 from by decide) g_a rfl (fun h44_9 W44 A_a => ?_)
  have Z0 : G.n0 ≤ _ := (Wr.size W44).symm ▸ Z0
  have A_a : Av G.Z h44_9 a .byte [(.int (nar .byte z0)), (.int (nar .byte z1)), (.int (nar .byte z2)), (.int (nar .byte z3))] := A_a
  obtain ⟨b0, b1, b2, b3, A_a⟩ : ∃ b0 b1 b2 b3 : Int32, Av G.Z h44_9 a .byte [.int b0, .int b1, .int b2, .int b3] := ⟨_, _, _, _, A_a⟩
  refine N.iloadN C (pc' := 46) at_45 rfl rfl ?_
  refine N.ldcI C (pc' := 48) (v := 2147483647) at_46 (C.w (i := 5) rfl) rfl ?_
  refine N.iand C (pc' := 49) at_48 rfl ?_
  refine N.iconst C (pc' := 50) (z := 5) at_49 rfl rfl ?_
  refine N.irem C (pc' := 51) at_50 (by decide) rfl ?_
  have hf := own_from fr
  generalize hd_f : ((fr &&& (2147483647 : Int32)) % (5 : Int32)) = f at *
  refine N.istore C (pc' := 53) (ls' := #[.val (.int s), .val (.int v), .val (.int fr), .val (.int tt), .val (.ref a), .val (.int f), .unset, .unset, .unset]) at_51 rfl rfl ?_
  obtain ⟨hf0, hf5⟩ := hf
  refine N.iload C (pc' := 55) at_53 rfl rfl ?_
  refine N.iloadN C (pc' := 56) at_55 rfl rfl ?_
  refine N.ldcI C (pc' := 58) (v := 2147483647) at_56 (C.w (i := 5) rfl) rfl ?_
  refine N.iand C (pc' := 59) at_58 rfl ?_
  refine N.iconst C (pc' := 60) (z := 5) at_59 rfl rfl ?_
  refine N.iload C (pc' := 62) at_60 rfl rfl ?_
  refine N.isub C (pc' := 63) at_62 rfl ?_
  have hnz_63 : ¬ ((5 : Int32) - f) = 0 := fun q => by
    have := own_five hf0 hf5
    have q' := eqI q
    have e0 : (0 : Int32).toInt = 0 := by decide
    omega
  refine N.irem C (pc' := 64) at_63 hnz_63 rfl ?_
  refine N.iadd C (pc' := 65) at_64 rfl ?_
  have htt := own_to tt hf0 hf5
  generalize hd_t : (f + ((tt &&& (2147483647 : Int32)) % ((5 : Int32) - f))) = t at *
  refine N.istore C (pc' := 67) (ls' := #[.val (.int s), .val (.int v), .val (.int fr), .val (.int tt), .val (.ref a), .val (.int f), .val (.int t), .unset, .unset]) at_65 rfl rfl ?_
  obtain ⟨hft, ht⟩ := htt
  refine N.aload C (pc' := 69) at_67 rfl rfl rfl ?_
  refine N.iconst C (pc' := 70) (z := 0) at_69 rfl rfl ?_
  refine N.iload C (pc' := 72) at_70 rfl rfl ?_
  refine N.iload C (pc' := 74) at_72 rfl rfl ?_
  refine N.callS C (pc' := 77) [(.ref a), (.int (0 : Int32)), (.int f), (.int t)] at_74 (C.w (i := 6) rfl) (C.w (i := 7) rfl) (C.w (i := 3) rfl) (C.w (i := 8) rfl) (by decide) (con2 G hw a (0 : Int32) f t b0 0 _ h44_9 A_a rfl rfl) (lenOf pd___BIII_Z rfl) rfl (by decide) (show 0 + (4 + 11) + _ ≤ _ from by decide) (by decide) (by decide) (rest := []) rfl rfl ?_
  rintro _ h74_10 ⟨u0, rfl, rfl, hu0⟩
  show N G K room_1 Q h44_9 (0 + 1) (0 + 4) 77 #[.val (.int s), .val (.int v), .val (.int fr), .val (.int tt), .val (.ref a), .val (.int f), .val (.int t), .unset, .unset] [(.int u0)]
  refine N.ifc C (pt := 86) (pf := 80) at_77 rfl rfl (fun (hc77 : u0 = (0 : Int32)) => ?_) (fun (hc77 : ¬ u0 = (0 : Int32)) => ?_)
  · have hi77 : u0.toInt = 0 := eqI hc77
    refine N.aload C (pc' := 88) at_86 rfl rfl rfl ?_
    refine N.iconst C (pc' := 89) (z := 1) at_88 rfl rfl ?_
    refine N.iload C (pc' := 91) at_89 rfl rfl ?_
    refine N.iload C (pc' := 93) at_91 rfl rfl ?_
    refine N.callS C (pc' := 96) [(.ref a), (.int (1 : Int32)), (.int f), (.int t)] at_93 (C.w (i := 6) rfl) (C.w (i := 7) rfl) (C.w (i := 3) rfl) (C.w (i := 8) rfl) (by decide) (con2 G hw a (1 : Int32) f t b1 1 _ h44_9 A_a rfl rfl) (lenOf pd___BIII_Z rfl) rfl (by decide) (show 0 + (4 + 11) + _ ≤ _ from by decide) (by decide) (by decide) (rest := []) rfl rfl ?_
    rintro _ h93_11 ⟨u1, rfl, rfl, hu1⟩
    show N G K room_1 Q h44_9 (0 + 1) (0 + 4) 96 #[.val (.int s), .val (.int v), .val (.int fr), .val (.int tt), .val (.ref a), .val (.int f), .val (.int t), .unset, .unset] [(.int u1)]
    refine N.ifc C (pt := 105) (pf := 99) at_96 rfl rfl (fun (hc96 : u1 = (0 : Int32)) => ?_) (fun (hc96 : ¬ u1 = (0 : Int32)) => ?_)
    · have hi96 : u1.toInt = 0 := eqI hc96
      refine N.aload C (pc' := 107) at_105 rfl rfl rfl ?_
      refine N.iconst C (pc' := 108) (z := 2) at_107 rfl rfl ?_
      refine N.iload C (pc' := 110) at_108 rfl rfl ?_
      refine N.iload C (pc' := 112) at_110 rfl rfl ?_
      refine N.callS C (pc' := 115) [(.ref a), (.int (2 : Int32)), (.int f), (.int t)] at_112 (C.w (i := 6) rfl) (C.w (i := 7) rfl) (C.w (i := 3) rfl) (C.w (i := 8) rfl) (by decide) (con2 G hw a (2 : Int32) f t b2 2 _ h44_9 A_a rfl rfl) (lenOf pd___BIII_Z rfl) rfl (by decide) (show 0 + (4 + 11) + _ ≤ _ from by decide) (by decide) (by decide) (rest := []) rfl rfl ?_
      rintro _ h112_12 ⟨u2, rfl, rfl, hu2⟩
      show N G K room_1 Q h44_9 (0 + 1) (0 + 4) 115 #[.val (.int s), .val (.int v), .val (.int fr), .val (.int tt), .val (.ref a), .val (.int f), .val (.int t), .unset, .unset] [(.int u2)]
      refine N.ifc C (pt := 124) (pf := 118) at_115 rfl rfl (fun (hc115 : u2 = (0 : Int32)) => ?_) (fun (hc115 : ¬ u2 = (0 : Int32)) => ?_)
      · have hi115 : u2.toInt = 0 := eqI hc115
        refine N.aload C (pc' := 126) at_124 rfl rfl rfl ?_
        refine N.iconst C (pc' := 127) (z := 3) at_126 rfl rfl ?_
        refine N.iload C (pc' := 129) at_127 rfl rfl ?_
        refine N.iload C (pc' := 131) at_129 rfl rfl ?_
        refine N.callS C (pc' := 134) [(.ref a), (.int (3 : Int32)), (.int f), (.int t)] at_131 (C.w (i := 6) rfl) (C.w (i := 7) rfl) (C.w (i := 3) rfl) (C.w (i := 8) rfl) (by decide) (con2 G hw a (3 : Int32) f t b3 3 _ h44_9 A_a rfl rfl) (lenOf pd___BIII_Z rfl) rfl (by decide) (show 0 + (4 + 11) + _ ≤ _ from by decide) (by decide) (by decide) (rest := []) rfl rfl ?_
        rintro _ h131_13 ⟨u3, rfl, rfl, hu3⟩
        show N G K room_1 Q h44_9 (0 + 1) (0 + 4) 134 #[.val (.int s), .val (.int v), .val (.int fr), .val (.int tt), .val (.ref a), .val (.int f), .val (.int t), .unset, .unset] [(.int u3)]
        refine N.ifc C (pt := 143) (pf := 137) at_134 rfl rfl (fun (hc134 : u3 = (0 : Int32)) => ?_) (fun (hc134 : ¬ u3 = (0 : Int32)) => ?_)
        · have hi134 : u3.toInt = 0 := eqI hc134
          refine N.iload C (pc' := 145) at_143 rfl rfl ?_
          refine N.istore C (pc' := 147) (ls' := #[.val (.int s), .val (.int v), .val (.int fr), .val (.int tt), .val (.ref a), .val (.int f), .val (.int t), .val (.int t), .unset]) at_145 rfl rfl ?_
          refine N.aload C (pc' := 149) at_147 rfl rfl rfl ?_
          refine N.iload C (pc' := 151) at_149 rfl rfl ?_
          refine N.iload C (pc' := 153) at_151 rfl rfl ?_
          refine N.callS C (pc' := 156) [(.ref a), (.int f), (.int t)] at_153 (C.w (i := 9) rfl) (C.w (i := 10) rfl) (C.w (i := 11) rfl) (C.w (i := 12) rfl) (by decide) (con3 G hw a f t b0 b1 b2 b3 h44_9 A_a hf0 hft ht) (lenOf pd___BII_I rfl) rfl (by decide) (show 0 + (4 + 11) + _ ≤ _ from by decide) (by decide) (by decide) (rest := []) rfl rfl ?_
          rintro _ h153_14 ⟨e, rfl, rfl, e1, e2, e3, e4⟩
          show N G K room_1 Q h44_9 (0 + 1) (0 + 4) 156 #[.val (.int s), .val (.int v), .val (.int fr), .val (.int tt), .val (.ref a), .val (.int f), .val (.int t), .val (.int t), .unset] [(.int e)]
          refine N.istore C (pc' := 158) (ls' := #[.val (.int s), .val (.int v), .val (.int fr), .val (.int tt), .val (.ref a), .val (.int f), .val (.int t), .val (.int t), .val (.int e)]) at_156 rfl rfl ?_
          refine N.iload C (pc' := 160) at_158 rfl rfl ?_
          refine N.iload C (pc' := 162) at_160 rfl rfl ?_
          refine N.icmp C (pt := 169) (pf := 165) at_162 rfl rfl (fun (hc162 : ¬ e = t) => absurd (show False from by have v0 := own_u0 hu0 hc77; have v1 := own_u0 hu1 hc96; have v2 := own_u0 hu2 hc115; have v3 := own_u0 hu3 hc134; unfold own_no at e3; unfold own_at at e4; exact hc162 (Int32.toInt_inj.mp (show e.toInt = t.toInt from by have o0 := own_l0; have o1 := own_l1; have o2 := own_l2; have o3 := own_l3; omega))) id) (fun (hc162 : e = t) => ?_)
          refine N.iconst C (pc' := 166) (z := 1) at_165 rfl rfl ?_
          refine N.goto C (pc' := 170) at_166 rfl ?_
          exact N.retN C (by simp) (z' := (1 : Int32)) rfl at_170 (by decide) (by decide) (by subst hQ; exact rfl)
        · have hi134 : ¬ u3.toInt = 0 := neI hc134
          refine N.iconst C (pc' := 138) (z := 3) at_137 rfl rfl ?_
          refine N.istore C (pc' := 140) (ls' := #[.val (.int s), .val (.int v), .val (.int fr), .val (.int tt), .val (.ref a), .val (.int f), .val (.int t), .val (.int (3 : Int32)), .unset]) at_138 rfl rfl ?_
          refine N.goto C (pc' := 147) at_140 rfl ?_
          refine N.aload C (pc' := 149) at_147 rfl rfl rfl ?_
          refine N.iload C (pc' := 151) at_149 rfl rfl ?_
          refine N.iload C (pc' := 153) at_151 rfl rfl ?_
          refine N.callS C (pc' := 156) [(.ref a), (.int f), (.int t)] at_153 (C.w (i := 9) rfl) (C.w (i := 10) rfl) (C.w (i := 11) rfl) (C.w (i := 12) rfl) (by decide) (con3 G hw a f t b0 b1 b2 b3 h44_9 A_a hf0 hft ht) (lenOf pd___BII_I rfl) rfl (by decide) (show 0 + (4 + 11) + _ ≤ _ from by decide) (by decide) (by decide) (rest := []) rfl rfl ?_
          rintro _ h153_15 ⟨e, rfl, rfl, e1, e2, e3, e4⟩
          show N G K room_1 Q h44_9 (0 + 1) (0 + 4) 156 #[.val (.int s), .val (.int v), .val (.int fr), .val (.int tt), .val (.ref a), .val (.int f), .val (.int t), .val (.int (3 : Int32)), .unset] [(.int e)]
          refine N.istore C (pc' := 158) (ls' := #[.val (.int s), .val (.int v), .val (.int fr), .val (.int tt), .val (.ref a), .val (.int f), .val (.int t), .val (.int (3 : Int32)), .val (.int e)]) at_156 rfl rfl ?_
          refine N.iload C (pc' := 160) at_158 rfl rfl ?_
          refine N.iload C (pc' := 162) at_160 rfl rfl ?_
          refine N.icmp C (pt := 169) (pf := 165) at_162 rfl rfl (fun (hc162 : ¬ e = (3 : Int32)) => absurd (show False from by have v0 := own_u0 hu0 hc77; have v1 := own_u0 hu1 hc96; have v2 := own_u0 hu2 hc115; have v3 := own_u1 hu3 hc134; unfold own_no at e3; unfold own_at at e4; exact hc162 (Int32.toInt_inj.mp (show e.toInt = 3 from by have o0 := own_l0; have o1 := own_l1; have o2 := own_l2; have o3 := own_l3; omega))) id) (fun (hc162 : e = (3 : Int32)) => ?_)
          refine N.iconst C (pc' := 166) (z := 1) at_165 rfl rfl ?_
          refine N.goto C (pc' := 170) at_166 rfl ?_
          exact N.retN C (by simp) (z' := (1 : Int32)) rfl at_170 (by decide) (by decide) (by subst hQ; exact rfl)
      · have hi115 : ¬ u2.toInt = 0 := neI hc115
        refine N.iconst C (pc' := 119) (z := 2) at_118 rfl rfl ?_
        refine N.istore C (pc' := 121) (ls' := #[.val (.int s), .val (.int v), .val (.int fr), .val (.int tt), .val (.ref a), .val (.int f), .val (.int t), .val (.int (2 : Int32)), .unset]) at_119 rfl rfl ?_
        refine N.goto C (pc' := 147) at_121 rfl ?_
        refine N.aload C (pc' := 149) at_147 rfl rfl rfl ?_
        refine N.iload C (pc' := 151) at_149 rfl rfl ?_
        refine N.iload C (pc' := 153) at_151 rfl rfl ?_
        refine N.callS C (pc' := 156) [(.ref a), (.int f), (.int t)] at_153 (C.w (i := 9) rfl) (C.w (i := 10) rfl) (C.w (i := 11) rfl) (C.w (i := 12) rfl) (by decide) (con3 G hw a f t b0 b1 b2 b3 h44_9 A_a hf0 hft ht) (lenOf pd___BII_I rfl) rfl (by decide) (show 0 + (4 + 11) + _ ≤ _ from by decide) (by decide) (by decide) (rest := []) rfl rfl ?_
        rintro _ h153_16 ⟨e, rfl, rfl, e1, e2, e3, e4⟩
        show N G K room_1 Q h44_9 (0 + 1) (0 + 4) 156 #[.val (.int s), .val (.int v), .val (.int fr), .val (.int tt), .val (.ref a), .val (.int f), .val (.int t), .val (.int (2 : Int32)), .unset] [(.int e)]
        refine N.istore C (pc' := 158) (ls' := #[.val (.int s), .val (.int v), .val (.int fr), .val (.int tt), .val (.ref a), .val (.int f), .val (.int t), .val (.int (2 : Int32)), .val (.int e)]) at_156 rfl rfl ?_
        refine N.iload C (pc' := 160) at_158 rfl rfl ?_
        refine N.iload C (pc' := 162) at_160 rfl rfl ?_
        refine N.icmp C (pt := 169) (pf := 165) at_162 rfl rfl (fun (hc162 : ¬ e = (2 : Int32)) => absurd (show False from by have v0 := own_u0 hu0 hc77; have v1 := own_u0 hu1 hc96; have v2 := own_u1 hu2 hc115; unfold own_no at e3; unfold own_at at e4; exact hc162 (Int32.toInt_inj.mp (show e.toInt = 2 from by have o0 := own_l0; have o1 := own_l1; have o2 := own_l2; have o3 := own_l3; omega))) id) (fun (hc162 : e = (2 : Int32)) => ?_)
        refine N.iconst C (pc' := 166) (z := 1) at_165 rfl rfl ?_
        refine N.goto C (pc' := 170) at_166 rfl ?_
        exact N.retN C (by simp) (z' := (1 : Int32)) rfl at_170 (by decide) (by decide) (by subst hQ; exact rfl)
    · have hi96 : ¬ u1.toInt = 0 := neI hc96
      refine N.iconst C (pc' := 100) (z := 1) at_99 rfl rfl ?_
      refine N.istore C (pc' := 102) (ls' := #[.val (.int s), .val (.int v), .val (.int fr), .val (.int tt), .val (.ref a), .val (.int f), .val (.int t), .val (.int (1 : Int32)), .unset]) at_100 rfl rfl ?_
      refine N.goto C (pc' := 147) at_102 rfl ?_
      refine N.aload C (pc' := 149) at_147 rfl rfl rfl ?_
      refine N.iload C (pc' := 151) at_149 rfl rfl ?_
      refine N.iload C (pc' := 153) at_151 rfl rfl ?_
      refine N.callS C (pc' := 156) [(.ref a), (.int f), (.int t)] at_153 (C.w (i := 9) rfl) (C.w (i := 10) rfl) (C.w (i := 11) rfl) (C.w (i := 12) rfl) (by decide) (con3 G hw a f t b0 b1 b2 b3 h44_9 A_a hf0 hft ht) (lenOf pd___BII_I rfl) rfl (by decide) (show 0 + (4 + 11) + _ ≤ _ from by decide) (by decide) (by decide) (rest := []) rfl rfl ?_
      rintro _ h153_17 ⟨e, rfl, rfl, e1, e2, e3, e4⟩
      show N G K room_1 Q h44_9 (0 + 1) (0 + 4) 156 #[.val (.int s), .val (.int v), .val (.int fr), .val (.int tt), .val (.ref a), .val (.int f), .val (.int t), .val (.int (1 : Int32)), .unset] [(.int e)]
      refine N.istore C (pc' := 158) (ls' := #[.val (.int s), .val (.int v), .val (.int fr), .val (.int tt), .val (.ref a), .val (.int f), .val (.int t), .val (.int (1 : Int32)), .val (.int e)]) at_156 rfl rfl ?_
      refine N.iload C (pc' := 160) at_158 rfl rfl ?_
      refine N.iload C (pc' := 162) at_160 rfl rfl ?_
      refine N.icmp C (pt := 169) (pf := 165) at_162 rfl rfl (fun (hc162 : ¬ e = (1 : Int32)) => absurd (show False from by have v0 := own_u0 hu0 hc77; have v1 := own_u1 hu1 hc96; unfold own_no at e3; unfold own_at at e4; exact hc162 (Int32.toInt_inj.mp (show e.toInt = 1 from by have o0 := own_l0; have o1 := own_l1; have o2 := own_l2; have o3 := own_l3; omega))) id) (fun (hc162 : e = (1 : Int32)) => ?_)
      refine N.iconst C (pc' := 166) (z := 1) at_165 rfl rfl ?_
      refine N.goto C (pc' := 170) at_166 rfl ?_
      exact N.retN C (by simp) (z' := (1 : Int32)) rfl at_170 (by decide) (by decide) (by subst hQ; exact rfl)
  · have hi77 : ¬ u0.toInt = 0 := neI hc77
    refine N.iconst C (pc' := 81) (z := 0) at_80 rfl rfl ?_
    refine N.istore C (pc' := 83) (ls' := #[.val (.int s), .val (.int v), .val (.int fr), .val (.int tt), .val (.ref a), .val (.int f), .val (.int t), .val (.int (0 : Int32)), .unset]) at_81 rfl rfl ?_
    refine N.goto C (pc' := 147) at_83 rfl ?_
    refine N.aload C (pc' := 149) at_147 rfl rfl rfl ?_
    refine N.iload C (pc' := 151) at_149 rfl rfl ?_
    refine N.iload C (pc' := 153) at_151 rfl rfl ?_
    refine N.callS C (pc' := 156) [(.ref a), (.int f), (.int t)] at_153 (C.w (i := 9) rfl) (C.w (i := 10) rfl) (C.w (i := 11) rfl) (C.w (i := 12) rfl) (by decide) (con3 G hw a f t b0 b1 b2 b3 h44_9 A_a hf0 hft ht) (lenOf pd___BII_I rfl) rfl (by decide) (show 0 + (4 + 11) + _ ≤ _ from by decide) (by decide) (by decide) (rest := []) rfl rfl ?_
    rintro _ h153_18 ⟨e, rfl, rfl, e1, e2, e3, e4⟩
    show N G K room_1 Q h44_9 (0 + 1) (0 + 4) 156 #[.val (.int s), .val (.int v), .val (.int fr), .val (.int tt), .val (.ref a), .val (.int f), .val (.int t), .val (.int (0 : Int32)), .unset] [(.int e)]
    refine N.istore C (pc' := 158) (ls' := #[.val (.int s), .val (.int v), .val (.int fr), .val (.int tt), .val (.ref a), .val (.int f), .val (.int t), .val (.int (0 : Int32)), .val (.int e)]) at_156 rfl rfl ?_
    refine N.iload C (pc' := 160) at_158 rfl rfl ?_
    refine N.iload C (pc' := 162) at_160 rfl rfl ?_
    refine N.icmp C (pt := 169) (pf := 165) at_162 rfl rfl (fun (hc162 : ¬ e = (0 : Int32)) => absurd (show False from by have v0 := own_u1 hu0 hc77; unfold own_no at e3; unfold own_at at e4; exact hc162 (Int32.toInt_inj.mp (show e.toInt = 0 from by have o0 := own_l0; have o1 := own_l1; have o2 := own_l2; have o3 := own_l3; omega))) id) (fun (hc162 : e = (0 : Int32)) => ?_)
    refine N.iconst C (pc' := 166) (z := 1) at_165 rfl rfl ?_
    refine N.goto C (pc' := 170) at_166 rfl ?_
    exact N.retN C (by simp) (z' := (1 : Int32)) rfl at_170 (by decide) (by decide) (by subst hQ; exact rfl)
set_option maxRecDepth 65536 in
set_option maxHeartbeats 40000000 in
theorem comes_1 {Post : Tables → Env → Array Value → State → Outcome → State → Prop} (hpost : ∀ tb e args s v u, (limb_1_1.after args s (.returned v) u = true ∧ limb_1_2.after args s (.returned v) u = true ∧ True) → FrameEnd s (.returned v) u (Jvm.fieldLocs frame_1_writes args s ++ Jvm.arrayLocs frame_1_arrays args s ++ Jvm.staticLocs frame_1_statics s) 16 128 → Post tb e args s (.returned v) u) :
    ArmFor flags0 classFile x code maxLocals ret World_1 tables_1 room_1 Calls_1 rest_1 Pre_1 Post := by
  intro l hfl _ _ p e ha hc hk s m args below hf hA hF happ hP
  obtain ⟨hcalls, hrest, hpre⟩ := hP
  obtain ⟨-, -, -, hnamed, -, -, -, hat⟩ := (Spec.applies_iff hf).mp happ
  obtain ⟨hg, hn⟩ := and_e (Cond.before_iff.mp (show (Jvm.Cond.and given_1 narrow_1).before args s = true from hpre))
  obtain ⟨hcount, hrow⟩ := and_e hg
  obtain ⟨ha0, hrow⟩ := and_e hrow
  obtain ⟨ha1, hrow⟩ := and_e hrow
  obtain ⟨ha2, hrow⟩ := and_e hrow
  have ha3 := hrow
  obtain ⟨w0, w1, w2, w3, rfl⟩ : ∃ w0 w1 w2 w3 : Value, args = #[w0, w1, w2, w3] := by
    have hs : args.size = 4 := by simpa [Cond.value, given_1] using hcount
    obtain ⟨L⟩ := args
    match L, hs with
    | [w0, w1, w2, w3], _ => exact ⟨w0, w1, w2, w3, rfl⟩
  have hw := fun d (hd : d ∈ tables_1) => atoms_spec (ws := Jvm.Cond.code x code maxLocals ret :: tables_1) hat d (List.mem_cons_of_mem _ hd)
  have hfit : Fit s := fun {y c} hc i hi => by
    obtain ⟨ha, rfl⟩ := Array.getElem?_eq_some_iff.mp hc
    have q := List.all_eq_true.mp ((Array.all_eq_true_iff_forall_mem.mp hF) _ (Array.getElem_mem ha)) i (List.mem_range.mpr hi)
    simpa [Array.getElem?_eq_getElem hi] using q
  obtain ⟨i0, ei0⟩ := is_v ha0
  obtain rfl : w0 = (.int i0) := Option.some.inj ei0
  obtain ⟨i1, ei1⟩ := is_v ha1
  obtain rfl : w1 = (.int i1) := Option.some.inj ei1
  obtain ⟨i2, ei2⟩ := is_v ha2
  obtain rfl : w2 = (.int i2) := Option.some.inj ei2
  obtain ⟨i3, ei3⟩ := is_v ha3
  obtain rfl : w3 = (.int i3) := Option.some.inj ei3
  obtain ⟨n, o, h1, h2, h3, _, L, rfl, ⟨rfl, N⟩, hq⟩ := con0 (l, s, _, s.heap.size) hw i0 i1 i2 i3 s.heap (Nat.le_refl _) tables_1 p e ha hc hk s m _ below hf ((Spec.applies_iff_loose hf).mp happ).1 ⟨rfl, State.Warmed39.refl s, rfl⟩ trivial
  refine ⟨n, _, h1, h2, h3, hpost _ _ _ _ _ _ ⟨Cond.after_iff.mpr rfl, Cond.after_iff.mpr (eq_i res_at (Term.int_eval (1)) rfl), trivial⟩ ⟨hq.1, hq.2.1, (hq.2.2.sift fun y hy => Or.inr (N y hy)).mono (by decide) (by decide)⟩⟩
theorem main_1_1 : Claimed_1_1 := comes_1 fun _ _ _ _ _ _ h hF => ⟨h.1, hF⟩
theorem main_1_2 : Claimed_1_2 := comes_1 fun _ _ _ _ _ _ h hF => ⟨h.2.1, hF⟩
end Jvm.Pilot.@@N@@
namespace Jvm.Pilot.@@N@@
open Jvm Jvm.ClassFile Sem Op Lib Jvm.Free Jvm.Stand Jvm.Pilot.@@N@@.Jvm.D
/-! MADE BY PROGRAM (witnessworld.py) out of the Statement's table words and the real class files: 9 classes; the members and pool entries that the words name. The judged class is class 1, her method 3. -/
namespace start1
open Jvm.ClassFile
def u (s : String) : CpInfo := .utf8 (stringToUtf16 s)
/-- a pool by its gaps: so many unusable entries, then the entry; so many at the end -/
def gap : Nat → List CpInfo → List CpInfo
  | 0, r => r
  | n + 1, r => .unusable :: gap n r
def poolList (es : List (Nat × CpInfo)) (last : Nat) : List CpInfo := es.foldr (fun e r => gap e.1 (e.2 :: r)) (gap last [])
def pool (es : List (Nat × CpInfo)) (last : Nat) : Array CpInfo := ⟨poolList es last⟩
def fileOf (pool : Array CpInfo) (this : Nat) (attrs : Array Attribute := #[]) (ms : Array MethodInfo := #[]) (fl : Nat := 33) (sup : Nat := 0) (ifs : Array Nat := #[]) (fds : Array FieldInfo := #[]) : ClassFile where
  minorVersion := 0
  majorVersion := 65
  constantPool := pool
  accessFlags := fl
  thisClass := this
  superClass := sup
  interfaces := ifs
  fields := fds
  methods := ms
  attributes := attrs
def plain (name : String) (sup : Option ClassId) : Class where
  name := name
  kind := .ordinary
  loader := none
  accessFlags := 33
  super := sup
  interfaces := #[]
  cf := none
  fields := #[]
  methods := #[]
  instanceTypes := #[]
  staticTypes := #[]
  resolved := #[]
  callSites := []
  init := .initialized
  statics := none
  mirror := none

def pool0 : Array CpInfo := pool [(5, u "<init>"), (0, u "()V"), (1, .class_ 10), (1, u "java/lang/Object")] 113

def k0m0 : Method := { name := "<init>", desc := "()V", sig := { parameters := [], returnType := none }, accessFlags := 1, code := none }
/-- java/lang/Object -/
def k0 : Class := { plain "java/lang/Object" none with
  accessFlags := 33
  interfaces := #[]
  cf := some (fileOf pool0 8 #[] #[{ accessFlags := 1, nameIndex := 5, descriptorIndex := 6, attributes := #[] }] 33 0 #[] #[])
  fields := #[]
  methods := #[k0m0]
  instanceTypes := #[]
  staticTypes := #[]
  resolved := Array.replicate 124 none
  statics := none }

def pool1 : Array CpInfo := pool [(2, .class_ 4), (1, u "java/lang/Object"), (0, u "<init>"), (0, u "()V"), (0, .methodref 8 9), (0, .class_ 10), (0, .nameAndType 11 12), (0, u "com/example/grantgraph/grantgraph/snapshot/LineChunksLineEndPinLaw"), (0, u "pick"), (0, u "(III)B"), (0, .integer 2147483647), (0, .methodref 8 15), (0, .nameAndType 16 17), (0, u "isNl"), (0, u "([BIII)Z"), (0, .methodref 19 20), (0, .class_ 21), (0, .nameAndType 22 23), (0, u "com/example/grantgraph/grantgraph/snapshot/LineChunks"), (0, u "lineEnd"), (0, u "([BII)I"), (3, u "law"), (0, u "(IIII)Z")] 4

def k1m0 : Method := { name := "<init>", desc := "()V", sig := { parameters := [], returnType := none }, accessFlags := 1, code := none }
def k1c1 : Code := { maxStack := 3, maxLocals := 3, code := method_2_code, exceptionTable := #[], attributes := #[] }
def k1m1 : Method := { name := "pick", desc := "(III)B", sig := { parameters := [.int, .int, .int], returnType := some .byte }, accessFlags := 10, code := some k1c1 }
def k1c2 : Code := { maxStack := 2, maxLocals := 4, code := method_3_code, exceptionTable := #[], attributes := #[] }
def k1m2 : Method := { name := "isNl", desc := "([BIII)Z", sig := { parameters := [(.array .byte), .int, .int, .int], returnType := some .boolean }, accessFlags := 10, code := some k1c2 }
def k1c3 : Code := { maxStack := 5, maxLocals := 9, code := code, exceptionTable := #[], attributes := #[] }
def k1m3 : Method := { name := "law", desc := "(IIII)Z", sig := { parameters := [.int, .int, .int, .int], returnType := some .boolean }, accessFlags := 9, code := some k1c3 }
/-- com/example/grantgraph/grantgraph/snapshot/LineChunksLineEndPinLaw -/
def k1 : Class := { plain "com/example/grantgraph/grantgraph/snapshot/LineChunksLineEndPinLaw" (some 0) with
  accessFlags := 49
  interfaces := #[]
  cf := some (fileOf pool1 8 #[] #[{ accessFlags := 1, nameIndex := 5, descriptorIndex := 6, attributes := #[] }, { accessFlags := 10, nameIndex := 11, descriptorIndex := 12, attributes := #[] }, { accessFlags := 10, nameIndex := 16, descriptorIndex := 17, attributes := #[] }, { accessFlags := 9, nameIndex := 27, descriptorIndex := 28, attributes := #[] }] 49 2 #[] #[])
  fields := #[]
  methods := #[k1m0, k1m1, k1m2, k1m3]
  instanceTypes := #[]
  staticTypes := #[]
  resolved := Array.replicate 33 none
  statics := none }

def pool2 : Array CpInfo := pool [(2, .class_ 4), (1, u "java/lang/Object"), (3, .class_ 10), (1, u "com/example/grantgraph/grantgraph/snapshot/LineChunks"), (0, u "rest"), (0, u "[B"), (2, u "nextLine"), (0, u "I"), (2, u "in"), (0, u "Ljava/io/InputStream;"), (2, u "size"), (21, u "endOfStream"), (0, u "Z"), (4, .class_ 52), (0, u "com/example/grantgraph/grantgraph/snapshot/LineChunks$Chunk"), (11, u "([BII)I"), (10, u "lineEnd")] 5

def k2c0 : Code := { maxStack := 2, maxLocals := 4, code := prog_90_method_6_code, exceptionTable := #[], attributes := #[] }
def k2m0 : Method := { name := "lineEnd", desc := "([BII)I", sig := { parameters := [(.array .byte), .int, .int], returnType := some .int }, accessFlags := 8, code := some k2c0 }
/-- com/example/grantgraph/grantgraph/snapshot/LineChunks -/
def k2 : Class := { plain "com/example/grantgraph/grantgraph/snapshot/LineChunks" (some 0) with
  accessFlags := 48
  interfaces := #[]
  cf := some (fileOf pool2 8 #[.nestMembers #[51]] #[{ accessFlags := 8, nameIndex := 75, descriptorIndex := 64, attributes := #[] }] 48 2 #[] #[{ accessFlags := 18, nameIndex := 19, descriptorIndex := 20, attributes := #[] }, { accessFlags := 18, nameIndex := 23, descriptorIndex := 16, attributes := #[] }, { accessFlags := 2, nameIndex := 11, descriptorIndex := 12, attributes := #[] }, { accessFlags := 2, nameIndex := 15, descriptorIndex := 16, attributes := #[] }, { accessFlags := 2, nameIndex := 45, descriptorIndex := 46, attributes := #[] }])
  fields := #[{ name := "in", type := (.object "java/io/InputStream"), accessFlags := 18, slot := 0, constantValue := 0 }, { name := "size", type := .int, accessFlags := 18, slot := 1, constantValue := 0 }, { name := "rest", type := (.array .byte), accessFlags := 2, slot := 2, constantValue := 0 }, { name := "nextLine", type := .int, accessFlags := 2, slot := 3, constantValue := 0 }, { name := "endOfStream", type := .boolean, accessFlags := 2, slot := 4, constantValue := 0 }]
  methods := #[k2m0]
  instanceTypes := #[(.object "java/io/InputStream"), .int, (.array .byte), .int, .boolean]
  staticTypes := #[]
  resolved := Array.replicate 81 none
  statics := none }

def pool3 : Array CpInfo := pool [(1, u "java/lang/Cloneable"), (0, .class_ 1), (0, u "java/lang/Object"), (0, .class_ 3)] 3

/-- java/lang/Cloneable -/
def k3 : Class := { plain "java/lang/Cloneable" (some 0) with
  accessFlags := 1537
  interfaces := #[]
  cf := some (fileOf pool3 2 #[] #[] 1537 4 #[] #[])
  fields := #[]
  methods := #[]
  instanceTypes := #[]
  staticTypes := #[]
  resolved := Array.replicate 8 none
  statics := none }

def pool4 : Array CpInfo := pool [(1, u "java/io/Serializable"), (0, .class_ 1), (0, u "java/lang/Object"), (0, .class_ 3)] 3

/-- java/io/Serializable -/
def k4 : Class := { plain "java/io/Serializable" (some 0) with
  accessFlags := 1537
  interfaces := #[]
  cf := some (fileOf pool4 2 #[] #[] 1537 4 #[] #[])
  fields := #[]
  methods := #[]
  instanceTypes := #[]
  staticTypes := #[]
  resolved := Array.replicate 8 none
  statics := none }

/-- the primitive byte -/
def k5 : Class := { plain "byte" none with kind := .primitive 'B', accessFlags := 0x411 }
/-- [B -/
def k6 : Class := { plain "[B" (some 0) with kind := .array 5 .byte, interfaces := #[3, 4], accessFlags := 1041 }

/-- the primitive int -/
def k7 : Class := { plain "int" none with kind := .primitive 'I', accessFlags := 0x411 }
/-- [I -/
def k8 : Class := { plain "[I" (some 0) with kind := .array 7 .int, interfaces := #[3, 4], accessFlags := 1041 }

def heap : Heap := #[]
def classes : Array Class := #[k0, k1, k2, k3, k4, k5, k6, k7, k8]
def interned : List (Array UInt16 × Addr) := []
def slotsUsed : Nat := 0
def theMethod : MethodId := ⟨1, 3⟩
def args0 : Array Value := #[.int 5, .int 6, .int 7, .int 1]
def aboutOver (below : List Frame) : State where
  vm := { classes := classes, interned := interned.toArray }
  heap := heap
  slotsUsed := slotsUsed
  threads := #[{ frames := .invoking theMethod args0 :: below }]
def below0 : List Frame := [.native { method := ⟨0, 0⟩, args := #[] }]
def about1 : State := aboutOver below0
def p0 : Program := .bare "" "" ""
def e0 : Env := launch0.env 0 0 0
theorem w_frames : about1.frames = Frame.invoking theMethod args0 :: below0 := rfl
set_option maxRecDepth 65536 in
theorem w_args : argsFit about1.vm theMethod args0 = true := by decide +kernel
set_option maxRecDepth 65536 in
theorem w_heap : heapFits about1 = true := by decide +kernel
set_option maxRecDepth 65536 in
theorem w_runnable : about1.curStatus? = some .runnable := by decide +kernel
set_option maxRecDepth 65536 in
theorem w_alone : about1.alone = true := by decide +kernel
set_option maxRecDepth 65536 in
theorem w_named : about1.methodNamed? x = some theMethod := by decide +kernel
set_option maxRecDepth 65536 in
theorem w_hears : about1.hears theMethod below0 = true := by decide +kernel
set_option maxRecDepth 65536 in
theorem w_ripe : about1.ripe theMethod args0 below0 = true := by decide +kernel
theorem w_running : about1.status = .running := rfl
set_option maxRecDepth 65536 in
theorem w_room : about1.hasRoom e0.platform room_1 = true :=
  launch0.hasRoom_least _ room_1 (by decide +kernel) (by decide +kernel) (by decide +kernel) (by decide +kernel) (by decide +kernel) (by decide +kernel)
theorem allAtoms_all (ts : List Jvm.Cond) (a : Array Jvm.Value) (st : Jvm.State) : (allAtoms ts).before a st = ts.all (fun c => c.before a st) := by
  induction ts with
  | nil => rfl
  | cons c t ih =>
    show (Jvm.Cond.and c (allAtoms t)).before a st = _
    rw [Jvm.Cond.before_and, ih, List.all_cons]
def words1 : List Jvm.Cond := Jvm.Cond.code x code maxLocals ret :: tables_1
/-- a 'code' word, met by the world's own term for the bytes: nothing is compared byte by byte -/
theorem code_word {y : MethodName} {bytes : ByteArray} {mx : Nat} {rt : Option FieldType} {a : Array Value} {s : State} {m : MethodId} {meth : Method} {c : Code} (h1 : s.methodNamed? y = some m) (h2 : s.vm.method? m = some meth) (h3 : meth.code = some c) (h4 : c.code = bytes)
    (h5 : (c.maxLocals == mx && c.exceptionTable.isEmpty && decide (c.maxStack ≤ mostOperands) && decide (meth.sig.returnType = rt) && !meth.locks && decide (parseMethodDescriptor y.desc = some meth.sig)) = true) : (Jvm.Cond.code y bytes mx rt).before a s = true := by
  simp only [Bool.and_eq_true, beq_iff_eq, Bool.not_eq_true', decide_eq_true_eq] at h5
  obtain ⟨⟨⟨⟨⟨g1, g2⟩, g3⟩, g4⟩, g5⟩, g6⟩ := h5
  simp [Cond.before, Cond.holds, Cond.value, h1, h2, h3, h4, g1, g2, g3, g4, g5, g6]
def isCode : Jvm.Cond → Bool
  | .code _ _ _ _ => true
  | _ => false
theorem all_split {L : List Jvm.Cond} {P : Jvm.Cond → Bool} (h1 : L.all (fun c => isCode c || P c) = true) (h2 : ∀ c ∈ L.filter isCode, P c = true) : L.all P = true := by
  refine List.all_eq_true.mpr fun c hc => ?_
  have h := List.all_eq_true.mp h1 c hc
  rcases Bool.eq_false_or_eq_true (isCode c) with hi | hi
  · exact h2 c (List.mem_filter.mpr ⟨hc, hi⟩)
  · simpa [hi] using h
set_option maxRecDepth 65536 in
theorem w_c0 : (Jvm.Cond.code x code maxLocals ret).before args0 about1 = true := code_word (m := ⟨1, 3⟩) (meth := k1m3) (c := k1c3) (by decide +kernel) rfl rfl rfl (by decide +kernel)
set_option maxRecDepth 65536 in
theorem w_c1 : (Jvm.Cond.code ({ cls := "com/example/grantgraph/grantgraph/snapshot/LineChunksLineEndPinLaw", name := "pick", desc := "(III)B" } : Jvm.MethodName) method_2_code (3 : Nat) (Option.some Jvm.ClassFile.FieldType.byte)).before args0 about1 = true := code_word (m := ⟨1, 1⟩) (meth := k1m1) (c := k1c1) (by decide +kernel) rfl rfl rfl (by decide +kernel)
set_option maxRecDepth 65536 in
theorem w_c2 : (Jvm.Cond.code ({ cls := "com/example/grantgraph/grantgraph/snapshot/LineChunksLineEndPinLaw", name := "isNl", desc := "([BIII)Z" } : Jvm.MethodName) method_3_code (4 : Nat) (Option.some Jvm.ClassFile.FieldType.boolean)).before args0 about1 = true := code_word (m := ⟨1, 2⟩) (meth := k1m2) (c := k1c2) (by decide +kernel) rfl rfl rfl (by decide +kernel)
set_option maxRecDepth 65536 in
theorem w_c3 : (Jvm.Cond.code ({ cls := "com/example/grantgraph/grantgraph/snapshot/LineChunks", name := "lineEnd", desc := "([BII)I" } : Jvm.MethodName) prog_90_method_6_code (4 : Nat) (Option.some Jvm.ClassFile.FieldType.int)).before args0 about1 = true := code_word (m := ⟨2, 0⟩) (meth := k2m0) (c := k2c0) (by decide +kernel) rfl rfl rfl (by decide +kernel)
def codes1 : List Jvm.Cond := [Jvm.Cond.code x code maxLocals ret, Jvm.Cond.code ({ cls := "com/example/grantgraph/grantgraph/snapshot/LineChunksLineEndPinLaw", name := "pick", desc := "(III)B" } : Jvm.MethodName) method_2_code (3 : Nat) (Option.some Jvm.ClassFile.FieldType.byte), Jvm.Cond.code ({ cls := "com/example/grantgraph/grantgraph/snapshot/LineChunksLineEndPinLaw", name := "isNl", desc := "([BIII)Z" } : Jvm.MethodName) method_3_code (4 : Nat) (Option.some Jvm.ClassFile.FieldType.boolean), Jvm.Cond.code ({ cls := "com/example/grantgraph/grantgraph/snapshot/LineChunks", name := "lineEnd", desc := "([BII)I" } : Jvm.MethodName) prog_90_method_6_code (4 : Nat) (Option.some Jvm.ClassFile.FieldType.int)]
set_option maxRecDepth 65536 in
theorem codes_eq : words1.filter isCode = codes1 := rfl
theorem w_codes : ∀ c ∈ words1.filter isCode, c.before args0 about1 = true := by
  rw [codes_eq]
  intro c hc
  simp only [codes1, List.mem_cons, List.not_mem_nil, or_false] at hc
  rcases hc with rfl | rfl | rfl | rfl
  · exact w_c0
  · exact w_c1
  · exact w_c2
  · exact w_c3
set_option maxRecDepth 65536 in
theorem w_t1 : words1.all (fun c => isCode c || c.before args0 about1) = true := by decide +kernel
theorem w_tables : (allAtoms (Jvm.Cond.code x code maxLocals ret :: tables_1)).before args0 about1 = true := by
  rw [allAtoms_all]
  show words1.all (fun c => c.before args0 about1) = true
  refine all_split ?_ w_codes
  rw [w_t1]
set_option maxRecDepth 65536 in
theorem w_case : (Jvm.Cond.and given_1 narrow_1).before args0 about1 = true := by decide +kernel
theorem w_applies : (headSpec (Jvm.Cond.code x code maxLocals ret :: tables_1) room_1).applies x e0.platform about1 = true :=
  (Spec.applies_iff w_frames).mpr ⟨w_running, w_runnable, w_alone, w_named, w_hears, w_ripe, w_room, w_tables⟩
theorem atStart : AtStart classFile x code maxLocals ret World_1 tables_1 room_1 Calls_1 rest_1 Pre_1 launch0 p0 e0 about1 theMethod args0 below0 :=
  ⟨lists_1, trivial, launch0.admits_env _ _ _, launch0.least_env, fairChoices_fair.cas, fairChoices_fair.clock, w_frames, w_args, w_heap, w_applies, trivial, trivial, w_case⟩
end start1
theorem witness_1 : WitnessClaimed_1 := ⟨start1.p0, start1.e0, start1.about1, start1.theMethod, start1.args0, start1.below0, start1.atStart⟩
end Jvm.Pilot.@@N@@
