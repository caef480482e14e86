import JvmDerived
import JvmDerived.Pilot.@@N@@Statement
import JvmDerived.Pilot.@@N@@Code
set_option linter.unusedVariables false
set_option linter.unusedSimpArgs false
namespace Jvm.OwnKit
open Sem ClassFile Op Lib Jvm.Stand Jvm.Free Jvm.LawKit Jvm.RoadKit
/-- what is fixed in the whole proof: the launch, the start (whose tables the words speak of), its arguments, the least new address -/
abbrev Gx := Launch × State × Array Value × Nat
abbrev Gx.l (G : Gx) : Launch := G.1
abbrev Gx.Z (G : Gx) : State := G.2.1
abbrev Gx.a0 (G : Gx) : Array Value := G.2.2.1
abbrev Gx.n0 (G : Gx) : Nat := G.2.2.2
/-- what is fixed in one body's walk -/
abbrev Kx := Program × Env × State × MethodId × Array Value × List Frame × Method × Code
abbrev Kx.p (K : Kx) : Program := K.1
abbrev Kx.e (K : Kx) : Env := K.2.1
abbrev Kx.s (K : Kx) : State := K.2.2.1
abbrev Kx.m (K : Kx) : MethodId := K.2.2.2.1
abbrev Kx.args (K : Kx) : Array Value := K.2.2.2.2.1
abbrev Kx.below (K : Kx) : List Frame := K.2.2.2.2.2.1
abbrev Kx.meth (K : Kx) : Method := K.2.2.2.2.2.2.1
abbrev Kx.c (K : Kx) : Code := K.2.2.2.2.2.2.2
def Cx (G : Gx) (K : Kx) (own nm : String) (bytes : ByteArray) (maxL : Nat) (ret : Option FieldType) (W : List Jvm.Cond) : Prop :=
  K.p.tables.exec = Jvm.exec ∧ G.Z.Warmed39 K.s.vm ∧ K.c.code = bytes ∧ K.c.maxLocals = maxL ∧ K.s.vm.findClass own = some K.m.cls ∧ K.meth.name = nm ∧ K.meth.sig.returnType = ret ∧ K.meth.locks = false ∧ ∀ d ∈ W, d.before G.a0 G.Z = true
section Cxs
variable {G : Gx} {K : Kx} {own nm : String} {bytes : ByteArray} {maxL : Nat} {ret : Option FieldType} {W : List Jvm.Cond}
theorem Cx.hx (C : Cx G K own nm bytes maxL ret W) : K.p.tables.exec = Jvm.exec := C.1
theorem Cx.hZ (C : Cx G K own nm bytes maxL ret W) : G.Z.Warmed39 K.s.vm := C.2.1
theorem Cx.by (C : Cx G K own nm bytes maxL ret W) : K.c.code = bytes := C.2.2.1
theorem Cx.ml (C : Cx G K own nm bytes maxL ret W) : K.c.maxLocals = maxL := C.2.2.2.1
theorem Cx.ow (C : Cx G K own nm bytes maxL ret W) : K.s.vm.findClass own = some K.m.cls := C.2.2.2.2.1
theorem Cx.name (C : Cx G K own nm bytes maxL ret W) : K.meth.name = nm := C.2.2.2.2.2.1
theorem Cx.rt (C : Cx G K own nm bytes maxL ret W) : K.meth.sig.returnType = ret := C.2.2.2.2.2.2.1
theorem Cx.lk (C : Cx G K own nm bytes maxL ret W) : K.meth.locks = false := C.2.2.2.2.2.2.2.1
theorem Cx.w (C : Cx G K own nm bytes maxL ret W) {i : Nat} {d : Jvm.Cond} (h : W[i]? = some d) : d.before G.a0 G.Z = true := C.2.2.2.2.2.2.2.2 d (List.mem_of_getElem? h)
end Cxs
/-- the run stands in this body at pc with these locals and this stack, over the heap h, having made so many cells and slots: it ends as Q says -/
def N (G : Gx) (K : Kx) (rm : Room) (Q : Option Value → Heap → Prop) (h : Heap) (cells slots pc : Nat) (ls : Array Slot) (st : List Value) : Prop :=
  ∀ (T : State) (locs : List Loc), Stand K.p G.l K.e rm K.s K.m K.args K.below K.meth K.c T locs cells slots → T.heap = h → Fr G.n0 locs →
    ∃ s₂ o, Steps K.p.tables K.e K.below (T.setTop (mkF K.m pc ls st)) s₂ ∧ s₂.status = .running ∧ Ended s₂ K.below o ∧ ∃ v L, o = .returned v ∧ (Q v s₂.heap ∧ Fr G.n0 L) ∧ FrameEnd K.s o s₂ L rm.cells rm.slots
/-- a body's contract -/
def Con (G : Gx) (y : MethodName) (bytes : ByteArray) (maxL : Nat) (ret : Option FieldType) (rm : Room) (as : Array Value) (h : Heap) (Q : Option Value → Heap → Prop) : Prop :=
  ∀ ws : List Jvm.Cond, MetFree G.l y (head1 (Jvm.Cond.code y bytes maxL ret :: ws) rm) (fun a U => a = as ∧ G.Z.Warmed39 U.vm ∧ U.heap = h) (fun _ _ _ _ _ => True) (fun _ U o U' => ∃ v L, o = .returned v ∧ (Q v U'.heap ∧ Fr G.n0 L) ∧ FrameEnd U o U' L rm.cells rm.slots)
theorem Con.of {G : Gx} {y : MethodName} {bytes : ByteArray} {maxL : Nat} {ret : Option FieldType} {rm : Room} {as : Array Value} {h : Heap} {Q : Option Value → Heap → Prop} {W : List Jvm.Cond} {ls : Array Slot} (hpl : plainFor y = true) (hW : ∀ d ∈ W, d.before G.a0 G.Z = true)
    (he : ∀ m, entryFrame m as maxL = mkF m 0 ls []) (body : ∀ K : Kx, Cx G K y.cls y.name bytes maxL ret W → N G K rm Q h 0 0 0 ls []) : Con G y bytes maxL ret rm as h Q := fun ws => by
  refine MetFree.of_bodySF hpl hisR ?_
  intro p e s m args below meth c s₁ Bd hml hP hK
  obtain ⟨rfl, hZ, hh⟩ := hP
  have X0 : Stand p G.l e rm s m args below meth c s₁ [] 0 0 := Stand.of_body Bd
  obtain ⟨s₂, o, h1, h2, h3, h4⟩ := body (p, e, s, m, args, below, meth, c) ⟨Bd.exec, hZ, Bd.bytes, hml, findClass_of_methodNamed Bd.named, (name_of_methodNamed Bd.named Bd.method).1, Bd.returns, BodyLoose.notSynchronized Bd, hW⟩ s₁ [] X0 (by rw [← hh, Bd.state]; rfl) (Fr.nil _)
  exact ⟨s₂, o, castTop (he m) h1, h2, h3, h4⟩
theorem Con.mono {G : Gx} {y : MethodName} {bytes : ByteArray} {maxL : Nat} {ret : Option FieldType} {rm : Room} {as : Array Value} {h : Heap} {Q Q' : Option Value → Heap → Prop} (M : Con G y bytes maxL ret rm as h Q) (f : ∀ v h', Q v h' → Q' v h') : Con G y bytes maxL ret rm as h Q' := fun ws p e ha hc hk s m args below hf happ hP hK => by
  obtain ⟨n, o, h1, h2, h3, v, L, h4, ⟨h5, h6⟩, h7⟩ := M ws p e ha hc hk s m args below hf happ hP hK
  exact ⟨n, o, h1, h2, h3, v, L, h4, ⟨f _ _ h5, h6⟩, h7⟩
def cmpP : ClassFile.Cond → Int32 → Int32 → Prop
  | .eq, x, y => x = y
  | .ne, x, y => ¬ x = y
  | .lt, x, y => x.toInt < y.toInt
  | .ge, x, y => y.toInt ≤ x.toInt
  | .gt, x, y => y.toInt < x.toInt
  | .le, x, y => x.toInt ≤ y.toInt
def cmpN : ClassFile.Cond → Int32 → Int32 → Prop
  | .eq, x, y => ¬ x = y
  | .ne, x, y => x = y
  | .lt, x, y => y.toInt ≤ x.toInt
  | .ge, x, y => x.toInt < y.toInt
  | .gt, x, y => x.toInt ≤ y.toInt
  | .le, x, y => y.toInt < x.toInt
theorem cmp_or (cd : ClassFile.Cond) (x y : Int32) : (if_icmp.holds cd x y = true ∧ cmpP cd x y) ∨ (if_icmp.holds cd x y = false ∧ cmpN cd x y) := by
  have e1 := @Int32.lt_iff_toInt_lt x y
  have e2 := @Int32.lt_iff_toInt_lt y x
  by_cases h1 : x < y
  · obtain ⟨a1, a2, a3, a4⟩ := tlt h1
    have q := e1.mp h1
    have n : ¬ x = y := fun e => by subst e; omega
    obtain ⟨b1, b2⟩ := feq n
    have n' : ¬ y < x := fun z => by have := e2.mp z; omega
    obtain ⟨c1, c2, c3, c4⟩ := flt n'
    cases cd <;> simp only [cmpP, cmpN] <;> simp_all <;> omega
  · obtain ⟨a1, a2, a3, a4⟩ := flt h1
    have q : ¬ x.toInt < y.toInt := fun z => h1 (e1.mpr z)
    by_cases h2 : x = y
    · obtain ⟨b1, b2⟩ := teq h2
      subst h2
      obtain ⟨c1, c2, c3, c4⟩ := flt h1
      cases cd <;> simp only [cmpP, cmpN] <;> simp_all
    · obtain ⟨b1, b2⟩ := feq h2
      have q2 : ¬ x.toInt = y.toInt := fun z => h2 (Int32.toInt_inj.mp z)
      obtain ⟨c1, c2, c3, c4⟩ := tlt (e2.mpr (by omega : y.toInt < x.toInt))
      cases cd <;> simp only [cmpP, cmpN] <;> simp_all <;> omega
def cmpPL : ClassFile.Cond → Int64 → Int64 → Prop
  | .eq, x, y => x = y
  | .ne, x, y => ¬ x = y
  | .lt, x, y => x.toInt < y.toInt
  | .ge, x, y => y.toInt ≤ x.toInt
  | .gt, x, y => y.toInt < x.toInt
  | .le, x, y => x.toInt ≤ y.toInt
def cmpNL : ClassFile.Cond → Int64 → Int64 → Prop
  | .eq, x, y => ¬ x = y
  | .ne, x, y => x = y
  | .lt, x, y => y.toInt ≤ x.toInt
  | .ge, x, y => x.toInt < y.toInt
  | .gt, x, y => x.toInt ≤ y.toInt
  | .le, x, y => y.toInt < x.toInt
theorem cmp_orL (cd : ClassFile.Cond) (x y : Int64) : (ifCond.holds cd (lcmpW x y) = true ∧ cmpPL cd x y) ∨ (ifCond.holds cd (lcmpW x y) = false ∧ cmpNL cd x y) := by
  have hl : (lcmpW x y).toInt < (0 : Int32).toInt ↔ x.toInt < y.toInt := by rw [← Int32.lt_iff_toInt_lt, ← Int64.lt_iff_toInt_lt]; exact lw_lt x y
  have hg : (0 : Int32).toInt < (lcmpW x y).toInt ↔ y.toInt < x.toInt := by rw [← Int32.lt_iff_toInt_lt, ← Int64.lt_iff_toInt_lt]; exact lw_gt x y
  have he := lw_eq x y
  generalize lcmpW x y = z at *
  rw [if0]
  rcases cmp_or cd z 0 with ⟨h1, h2⟩ | ⟨h1, h2⟩
  · refine Or.inl ⟨h1, ?_⟩
    cases cd <;> simp only [cmpP, cmpPL] at h2 ⊢ <;> first | exact he.mp h2 | exact fun q => h2 (he.mpr q) | omega
  · refine Or.inr ⟨h1, ?_⟩
    cases cd <;> simp only [cmpN, cmpNL] at h2 ⊢ <;> first | exact he.mp h2 | exact fun q => h2 (he.mpr q) | omega
/-- the array at x, of that type, holds just these -/
def Av (Z : State) (h : Heap) (x : Addr) (ty : FieldType) (vs : List Value) : Prop := ∃ c : Cell, Arr Z h x c ty ∧ c.slots.toList = vs
theorem ix {j : Int32} {i : Nat} (h : j.toInt = (i : Int)) : ¬ j < 0 ∧ j.toNatClampNeg = i := by
  refine ⟨fun q => ?_, ?_⟩
  · have := Int32.lt_iff_toInt_lt.mp q
    have e0 : (0 : Int32).toInt = 0 := by decide
    omega
  · show j.toInt.toNat = i
    omega
theorem ixin {j : Int32} {i n : Nat} (h : j.toInt = (i : Int)) (hi : i < n) : ¬ (j < 0 ∨ n ≤ j.toNatClampNeg) := by
  obtain ⟨h1, h2⟩ := ix h
  rintro (q | q)
  · exact h1 q
  · omega
theorem eqI {x y : Int32} (h : x = y) : x.toInt = y.toInt := h ▸ rfl
theorem neI {x y : Int32} (h : ¬ x = y) : ¬ x.toInt = y.toInt := fun q => h (Int32.toInt_inj.mp q)
theorem eqL {x y : Int64} (h : x = y) : x.toInt = y.toInt := h ▸ rfl
theorem neL {x y : Int64} (h : ¬ x = y) : ¬ x.toInt = y.toInt := fun q => h (Int64.toInt_inj.mp q)
section Avs
variable {Z : State} {h h' : Heap} {x y : Addr} {ty : FieldType} {vs : List Value} {i : Nat} {v : Value} {sl : Nat} {ws : List Addr}
theorem Av.lt (A : Av Z h x ty vs) : x < h.size := by obtain ⟨c, A, -⟩ := A; exact A.lt
theorem Av.ext (A : Av Z h x ty vs) (E : Ext h h') : Av Z h' x ty vs := by obtain ⟨c, A, r⟩ := A; exact ⟨c, A.ext E, r⟩
theorem Av.other (A : Av Z h x ty vs) (W : Wr h h' y sl v) (q : x ≠ y) : Av Z h' x ty vs := by obtain ⟨c, A, r⟩ := A; exact ⟨c, A.other W q, r⟩
theorem Av.keep (A : Av Z h x ty vs) (K : Keep h h' ws) (q : x ∉ ws) : Av Z h' x ty vs := by obtain ⟨c, A, r⟩ := A; exact ⟨c, ⟨K.2.1 x c A.1 q, A.2⟩, r⟩
theorem Av.same (A : Av Z h x ty vs) (W : Wr h h' x i v) : Av Z h' x ty (vs.set i v) := by
  obtain ⟨c, A, rfl⟩ := A
  exact ⟨_, A.same W, by simp [Cell.setSlot]⟩
theorem Av.new {k : ClassId} {z : Int32} (A : Arr Z h x (newA k ty z) ty) : Av Z h x ty (List.replicate z.toNatClampNeg (defaultValue ty)) := ⟨_, A, by simp [newA]⟩
end Avs
section Rules
variable {G : Gx} {K : Kx} {rm : Room} {own nm : String} {bytes : ByteArray} {maxL : Nat} {ret : Option FieldType} {W : List Jvm.Cond} {Q Q' : Option Value → Heap → Prop} {h : Heap} {a b pc pc' : Nat} {ls ls' : Array Slot} {st st' : List Value}
theorem N.step (f : ∀ T, At T K.m K.c K.below → ∀ t, Steps K.p.tables K.e K.below (T.setTop (mkF K.m pc' ls' st')) t → Steps K.p.tables K.e K.below (T.setTop (mkF K.m pc ls st)) t) (k : N G K rm Q h a b pc' ls' st') : N G K rm Q h a b pc ls st := fun T locs X e F => by
  obtain ⟨s₂, o, hs, r⟩ := k T locs X e F
  exact ⟨s₂, o, f T X.here _ hs, r⟩
theorem N.stX (f : ∀ (T : State) (locs : List Loc), Stand K.p G.l K.e rm K.s K.m K.args K.below K.meth K.c T locs a b → T.heap = h → ∀ t, Steps K.p.tables K.e K.below (T.setTop (mkF K.m pc' ls' st')) t → Steps K.p.tables K.e K.below (T.setTop (mkF K.m pc ls st)) t) (k : N G K rm Q h a b pc' ls' st') : N G K rm Q h a b pc ls st := fun T locs X e F => by
  obtain ⟨s₂, o, hs, r⟩ := k T locs X e F
  exact ⟨s₂, o, f T locs X e _ hs, r⟩
theorem N.mono (k : N G K rm Q h a b pc ls st) (f : ∀ v h', Q v h' → Q' v h') : N G K rm Q' h a b pc ls st := fun T locs X e F => by
  obtain ⟨s₂, o, h1, h2, h3, v, L, h4, ⟨h5, h6⟩, h7⟩ := k T locs X e F
  exact ⟨s₂, o, h1, h2, h3, v, L, h4, ⟨f _ _ h5, h6⟩, h7⟩
theorem N.more {a' b' : Nat} (k : N G K rm Q h a' b' pc ls st) (ha : a ≤ a') (hb : b ≤ b') : N G K rm Q h a b pc ls st := fun T locs X e F => k T locs (X.more ha hb) e F

theorem N.iload (C : Cx G K own nm bytes maxL ret W) {k : Nat} {v : Int32} (hd : decode bytes pc = .ok (.iload k, 2)) (hl : ls[k]? = some (.val (.int v))) (hp : pc + 2 = pc') (k : N G K rm Q h a b pc' ls (.int v :: st)) : N G K rm Q h a b pc ls (st) := by
  subst hp; exact N.step (fun T A t ht => XS.iload A C.hx rfl (hb C.by hd) hl ht) k
theorem N.iloadN (C : Cx G K own nm bytes maxL ret W) {k : Fin 4} {v : Int32} (hd : decode bytes pc = .ok (.iload_n k, 1)) (hl : ls[k.val]? = some (.val (.int v))) (hp : pc + 1 = pc') (k : N G K rm Q h a b pc' ls (.int v :: st)) : N G K rm Q h a b pc ls (st) := by
  subst hp; exact N.step (fun T A t ht => XS.iloadN A C.hx rfl (hb C.by hd) hl ht) k
theorem N.istore (C : Cx G K own nm bytes maxL ret W) {k : Nat} {v : Int32} (hd : decode bytes pc = .ok (.istore k, 2)) (hl : storeLocals ls k (.int v) = some ls') (hp : pc + 2 = pc') (k : N G K rm Q h a b pc' ls' (st)) : N G K rm Q h a b pc ls (.int v :: st) := by
  subst hp; exact N.step (fun T A t ht => XS.istore A C.hx rfl (hb C.by hd) rfl hl ht) k
theorem N.istoreN (C : Cx G K own nm bytes maxL ret W) {k : Fin 4} {v : Int32} (hd : decode bytes pc = .ok (.istore_n k, 1)) (hl : storeLocals ls k.val (.int v) = some ls') (hp : pc + 1 = pc') (k : N G K rm Q h a b pc' ls' (st)) : N G K rm Q h a b pc ls (.int v :: st) := by
  subst hp; exact N.step (fun T A t ht => XS.istoreN A C.hx rfl (hb C.by hd) rfl hl ht) k
theorem N.iadd (C : Cx G K own nm bytes maxL ret W) {x y : Int32} (hd : decode bytes pc = .ok (.iadd, 1)) (hp : pc + 1 = pc') (k : N G K rm Q h a b pc' ls (.int (x + y) :: st)) : N G K rm Q h a b pc ls (.int y :: .int x :: st) := by
  subst hp; exact N.step (fun T A t ht => XS.iadd A C.hx rfl (hb C.by hd) rfl ht) k
theorem N.isub (C : Cx G K own nm bytes maxL ret W) {x y : Int32} (hd : decode bytes pc = .ok (.isub, 1)) (hp : pc + 1 = pc') (k : N G K rm Q h a b pc' ls (.int (x - y) :: st)) : N G K rm Q h a b pc ls (.int y :: .int x :: st) := by
  subst hp; exact N.step (fun T A t ht => XS.isub A C.hx rfl (hb C.by hd) rfl ht) k
theorem N.imul (C : Cx G K own nm bytes maxL ret W) {x y : Int32} (hd : decode bytes pc = .ok (.imul, 1)) (hp : pc + 1 = pc') (k : N G K rm Q h a b pc' ls (.int (x * y) :: st)) : N G K rm Q h a b pc ls (.int y :: .int x :: st) := by
  subst hp; exact N.step (fun T A t ht => XS.imul A C.hx rfl (hb C.by hd) rfl ht) k
theorem N.iand (C : Cx G K own nm bytes maxL ret W) {x y : Int32} (hd : decode bytes pc = .ok (.iand, 1)) (hp : pc + 1 = pc') (k : N G K rm Q h a b pc' ls (.int (x &&& y) :: st)) : N G K rm Q h a b pc ls (.int y :: .int x :: st) := by
  subst hp; exact N.step (fun T A t ht => XS.iand A C.hx rfl (hb C.by hd) rfl ht) k
theorem N.ior (C : Cx G K own nm bytes maxL ret W) {x y : Int32} (hd : decode bytes pc = .ok (.ior, 1)) (hp : pc + 1 = pc') (k : N G K rm Q h a b pc' ls (.int (x ||| y) :: st)) : N G K rm Q h a b pc ls (.int y :: .int x :: st) := by
  subst hp; exact N.step (fun T A t ht => XS.ior A C.hx rfl (hb C.by hd) rfl ht) k
theorem N.ixor (C : Cx G K own nm bytes maxL ret W) {x y : Int32} (hd : decode bytes pc = .ok (.ixor, 1)) (hp : pc + 1 = pc') (k : N G K rm Q h a b pc' ls (.int (x ^^^ y) :: st)) : N G K rm Q h a b pc ls (.int y :: .int x :: st) := by
  subst hp; exact N.step (fun T A t ht => XS.ixor A C.hx rfl (hb C.by hd) rfl ht) k
theorem N.idiv (C : Cx G K own nm bytes maxL ret W) {x y : Int32} (hd : decode bytes pc = .ok (.idiv, 1)) (hy : y ≠ 0) (hp : pc + 1 = pc') (k : N G K rm Q h a b pc' ls (.int (x / y) :: st)) : N G K rm Q h a b pc ls (.int y :: .int x :: st) := by
  subst hp; exact N.step (fun T A t ht => XS.idiv A C.hx rfl (hb C.by hd) rfl hy ht) k
theorem N.ineg (C : Cx G K own nm bytes maxL ret W) {x : Int32} (hd : decode bytes pc = .ok (.ineg, 1)) (hp : pc + 1 = pc') (k : N G K rm Q h a b pc' ls (.int (-x) :: st)) : N G K rm Q h a b pc ls (.int x :: st) := by
  subst hp; exact N.step (fun T A t ht => XS.ineg A C.hx rfl (hb C.by hd) rfl ht) k
theorem N.lload (C : Cx G K own nm bytes maxL ret W) {k : Nat} {v : Int64} (hd : decode bytes pc = .ok (.lload k, 2)) (hl : ls[k]? = some (.val (.long v))) (hp : pc + 2 = pc') (k : N G K rm Q h a b pc' ls (.long v :: st)) : N G K rm Q h a b pc ls (st) := by
  subst hp; exact N.step (fun T A t ht => XS.lload A C.hx rfl (hb C.by hd) hl ht) k
theorem N.lloadN (C : Cx G K own nm bytes maxL ret W) {k : Fin 4} {v : Int64} (hd : decode bytes pc = .ok (.lload_n k, 1)) (hl : ls[k.val]? = some (.val (.long v))) (hp : pc + 1 = pc') (k : N G K rm Q h a b pc' ls (.long v :: st)) : N G K rm Q h a b pc ls (st) := by
  subst hp; exact N.step (fun T A t ht => XS.lloadN A C.hx rfl (hb C.by hd) hl ht) k
theorem N.lstore (C : Cx G K own nm bytes maxL ret W) {k : Nat} {v : Int64} (hd : decode bytes pc = .ok (.lstore k, 2)) (hl : storeLocals ls k (.long v) = some ls') (hp : pc + 2 = pc') (k : N G K rm Q h a b pc' ls' (st)) : N G K rm Q h a b pc ls (.long v :: st) := by
  subst hp; exact N.step (fun T A t ht => XS.lstore A C.hx rfl (hb C.by hd) rfl hl ht) k
theorem N.lstoreN (C : Cx G K own nm bytes maxL ret W) {k : Fin 4} {v : Int64} (hd : decode bytes pc = .ok (.lstore_n k, 1)) (hl : storeLocals ls k.val (.long v) = some ls') (hp : pc + 1 = pc') (k : N G K rm Q h a b pc' ls' (st)) : N G K rm Q h a b pc ls (.long v :: st) := by
  subst hp; exact N.step (fun T A t ht => XS.lstoreN A C.hx rfl (hb C.by hd) rfl hl ht) k
theorem N.ladd (C : Cx G K own nm bytes maxL ret W) {x y : Int64} (hd : decode bytes pc = .ok (.ladd, 1)) (hp : pc + 1 = pc') (k : N G K rm Q h a b pc' ls (.long (x + y) :: st)) : N G K rm Q h a b pc ls (.long y :: .long x :: st) := by
  subst hp; exact N.step (fun T A t ht => XS.ladd A C.hx rfl (hb C.by hd) rfl ht) k
theorem N.lsub (C : Cx G K own nm bytes maxL ret W) {x y : Int64} (hd : decode bytes pc = .ok (.lsub, 1)) (hp : pc + 1 = pc') (k : N G K rm Q h a b pc' ls (.long (x - y) :: st)) : N G K rm Q h a b pc ls (.long y :: .long x :: st) := by
  subst hp; exact N.step (fun T A t ht => XS.lsub A C.hx rfl (hb C.by hd) rfl ht) k
theorem N.lmul (C : Cx G K own nm bytes maxL ret W) {x y : Int64} (hd : decode bytes pc = .ok (.lmul, 1)) (hp : pc + 1 = pc') (k : N G K rm Q h a b pc' ls (.long (x * y) :: st)) : N G K rm Q h a b pc ls (.long y :: .long x :: st) := by
  subst hp; exact N.step (fun T A t ht => XS.lmul A C.hx rfl (hb C.by hd) rfl ht) k
theorem N.land (C : Cx G K own nm bytes maxL ret W) {x y : Int64} (hd : decode bytes pc = .ok (.land, 1)) (hp : pc + 1 = pc') (k : N G K rm Q h a b pc' ls (.long (x &&& y) :: st)) : N G K rm Q h a b pc ls (.long y :: .long x :: st) := by
  subst hp; exact N.step (fun T A t ht => XS.land A C.hx rfl (hb C.by hd) rfl ht) k
theorem N.lor (C : Cx G K own nm bytes maxL ret W) {x y : Int64} (hd : decode bytes pc = .ok (.lor, 1)) (hp : pc + 1 = pc') (k : N G K rm Q h a b pc' ls (.long (x ||| y) :: st)) : N G K rm Q h a b pc ls (.long y :: .long x :: st) := by
  subst hp; exact N.step (fun T A t ht => XS.lor A C.hx rfl (hb C.by hd) rfl ht) k
theorem N.lxor (C : Cx G K own nm bytes maxL ret W) {x y : Int64} (hd : decode bytes pc = .ok (.lxor, 1)) (hp : pc + 1 = pc') (k : N G K rm Q h a b pc' ls (.long (x ^^^ y) :: st)) : N G K rm Q h a b pc ls (.long y :: .long x :: st) := by
  subst hp; exact N.step (fun T A t ht => XS.lxor A C.hx rfl (hb C.by hd) rfl ht) k
theorem N.ldiv (C : Cx G K own nm bytes maxL ret W) {x y : Int64} (hd : decode bytes pc = .ok (.ldiv, 1)) (hy : y ≠ 0) (hp : pc + 1 = pc') (k : N G K rm Q h a b pc' ls (.long (x / y) :: st)) : N G K rm Q h a b pc ls (.long y :: .long x :: st) := by
  subst hp; exact N.step (fun T A t ht => XS.ldiv A C.hx rfl (hb C.by hd) rfl hy ht) k
theorem N.lneg (C : Cx G K own nm bytes maxL ret W) {x : Int64} (hd : decode bytes pc = .ok (.lneg, 1)) (hp : pc + 1 = pc') (k : N G K rm Q h a b pc' ls (.long (-x) :: st)) : N G K rm Q h a b pc ls (.long x :: st) := by
  subst hp; exact N.step (fun T A t ht => XS.lneg A C.hx rfl (hb C.by hd) rfl ht) k
theorem N.irem (C : Cx G K own nm bytes maxL ret W) {x y : Int32} (hd : decode bytes pc = .ok (.irem, 1)) (hy : y ≠ 0) (hp : pc + 1 = pc') (k : N G K rm Q h a b pc' ls (.int (x % y) :: st)) : N G K rm Q h a b pc ls (.int y :: .int x :: st) := by
  subst hp; exact N.step (fun T A t ht => XS.irem A C.hx rfl (hb C.by hd) rfl hy (by rw [irem_eq_mod]; exact ht)) k
theorem N.lrem (C : Cx G K own nm bytes maxL ret W) {x y : Int64} (hd : decode bytes pc = .ok (.lrem, 1)) (hy : y ≠ 0) (hp : pc + 1 = pc') (k : N G K rm Q h a b pc' ls (.long (x % y) :: st)) : N G K rm Q h a b pc ls (.long y :: .long x :: st) := by
  subst hp; exact N.step (fun T A t ht => XS.lrem A C.hx rfl (hb C.by hd) rfl hy (by rw [lrem_mod]; exact ht)) k
theorem N.aload (C : Cx G K own nm bytes maxL ret W) {k : Nat} {v : Value} (hd : decode bytes pc = .ok (.aload k, 2)) (hl : ls[k]? = some (.val v)) (hv : v.isRef = true) (hp : pc + 2 = pc') (k : N G K rm Q h a b pc' ls (v :: st)) : N G K rm Q h a b pc ls (st) := by
  subst hp; exact N.step (fun T A t ht => XS.aload A C.hx rfl (hb C.by hd) hl hv ht) k
theorem N.aloadN (C : Cx G K own nm bytes maxL ret W) {k : Fin 4} {v : Value} (hd : decode bytes pc = .ok (.aload_n k, 1)) (hl : ls[k.val]? = some (.val v)) (hv : v.isRef = true) (hp : pc + 1 = pc') (k : N G K rm Q h a b pc' ls (v :: st)) : N G K rm Q h a b pc ls (st) := by
  subst hp; exact N.step (fun T A t ht => XS.aloadN A C.hx rfl (hb C.by hd) hl hv ht) k
theorem N.astore (C : Cx G K own nm bytes maxL ret W) {k : Nat} {v : Value} (hd : decode bytes pc = .ok (.astore k, 2)) (hv : v.isRef = true) (hl : storeLocals ls k v = some ls') (hp : pc + 2 = pc') (k : N G K rm Q h a b pc' ls' (st)) : N G K rm Q h a b pc ls (v :: st) := by
  subst hp; exact N.step (fun T A t ht => XS.astore A C.hx rfl (hb C.by hd) rfl hv hl ht) k
theorem N.astoreN (C : Cx G K own nm bytes maxL ret W) {k : Fin 4} {v : Value} (hd : decode bytes pc = .ok (.astore_n k, 1)) (hv : v.isRef = true) (hl : storeLocals ls k.val v = some ls') (hp : pc + 1 = pc') (k : N G K rm Q h a b pc' ls' (st)) : N G K rm Q h a b pc ls (v :: st) := by
  subst hp; exact N.step (fun T A t ht => XS.astoreN A C.hx rfl (hb C.by hd) rfl hv hl ht) k
theorem N.iconst (C : Cx G K own nm bytes maxL ret W) {i : Int} {z : Int32} (hd : decode bytes pc = .ok (.iconst i, 1)) (hz : Int32.ofInt i = z) (hp : pc + 1 = pc') (k : N G K rm Q h a b pc' ls (.int z :: st)) : N G K rm Q h a b pc ls st := by
  subst hp hz; exact N.step (fun T A t ht => XS.iconst A C.hx rfl (hb C.by hd) ht) k
theorem N.bipush (C : Cx G K own nm bytes maxL ret W) {i : Int} {z : Int32} (hd : decode bytes pc = .ok (.bipush i, 2)) (hz : (Int8.ofInt i).toInt32 = z) (hp : pc + 2 = pc') (k : N G K rm Q h a b pc' ls (.int z :: st)) : N G K rm Q h a b pc ls st := by
  subst hp hz; exact N.step (fun T A t ht => XS.bipush A C.hx rfl (hb C.by hd) ht) k
theorem N.sipush (C : Cx G K own nm bytes maxL ret W) {i : Int} {z : Int32} (hd : decode bytes pc = .ok (.sipush i, 3)) (hz : (Int16.ofInt i).toInt32 = z) (hp : pc + 3 = pc') (k : N G K rm Q h a b pc' ls (.int z :: st)) : N G K rm Q h a b pc ls st := by
  subst hp hz; exact N.step (fun T A t ht => XS.sipush A C.hx rfl (hb C.by hd) ht) k
theorem N.lconst (C : Cx G K own nm bytes maxL ret W) {k : Fin 2} {z : Int64} (hd : decode bytes pc = .ok (.lconst k, 1)) (hz : Int64.ofNat k = z) (hp : pc + 1 = pc') (k : N G K rm Q h a b pc' ls (.long z :: st)) : N G K rm Q h a b pc ls st := by
  subst hp hz; exact N.step (fun T A t ht => XS.lconst A C.hx rfl (hb C.by hd) ht) k
theorem N.aconst_null (C : Cx G K own nm bytes maxL ret W)  (hd : decode bytes pc = .ok (.aconst_null, 1)) (hp : pc + 1 = pc') (k : N G K rm Q h a b pc' ls (.null :: st)) : N G K rm Q h a b pc ls (st) := by
  subst hp; exact N.step (fun T A t ht => XS.aconstNull A C.hx rfl (hb C.by hd)  ht) k
theorem N.dup (C : Cx G K own nm bytes maxL ret W) {v : Value} (hd : decode bytes pc = .ok (.dup, 1)) (hc : v.category = 1) (hp : pc + 1 = pc') (k : N G K rm Q h a b pc' ls (v :: v :: st)) : N G K rm Q h a b pc ls (v :: st) := by
  subst hp; exact N.step (fun T A t ht => XS.dup A C.hx rfl (hb C.by hd) rfl hc ht) k
theorem N.pop (C : Cx G K own nm bytes maxL ret W) {v : Value} (hd : decode bytes pc = .ok (.pop, 1)) (hc : v.category = 1) (hp : pc + 1 = pc') (k : N G K rm Q h a b pc' ls (st)) : N G K rm Q h a b pc ls (v :: st) := by
  subst hp; exact N.step (fun T A t ht => XS.pop A C.hx rfl (hb C.by hd) rfl hc ht) k
theorem N.dup_x1 (C : Cx G K own nm bytes maxL ret W) {v w : Value} (hd : decode bytes pc = .ok (.dup_x1, 1)) (hc : v.category = 1) (hc' : w.category = 1) (hp : pc + 1 = pc') (k : N G K rm Q h a b pc' ls (v :: w :: v :: st)) : N G K rm Q h a b pc ls (v :: w :: st) := by
  subst hp; exact N.step (fun T A t ht => XS.dupX1 A C.hx rfl (hb C.by hd) rfl hc hc' ht) k
theorem N.dup2 (C : Cx G K own nm bytes maxL ret W) {v w : Value} (hd : decode bytes pc = .ok (.dup2, 1)) (hc : v.category = 1) (hc' : w.category = 1) (hp : pc + 1 = pc') (k : N G K rm Q h a b pc' ls (v :: w :: v :: w :: st)) : N G K rm Q h a b pc ls (v :: w :: st) := by
  subst hp; exact N.step (fun T A t ht => XT.dup2 A C.hx rfl (hb C.by hd) rfl hc hc' ht) k
theorem N.dup2L (C : Cx G K own nm bytes maxL ret W) {x : Int64} (hd : decode bytes pc = .ok (.dup2, 1)) (hp : pc + 1 = pc') (k : N G K rm Q h a b pc' ls (.long x :: .long x :: st)) : N G K rm Q h a b pc ls (.long x :: st) := by
  subst hp; exact N.step (fun T A t ht => XT.dup2L A C.hx rfl (hb C.by hd) rfl ht) k
theorem N.i2l (C : Cx G K own nm bytes maxL ret W) {x : Int32} (hd : decode bytes pc = .ok (.i2l, 1)) (hp : pc + 1 = pc') (k : N G K rm Q h a b pc' ls (.long (x.toInt64) :: st)) : N G K rm Q h a b pc ls (.int x :: st) := by
  subst hp; exact N.step (fun T A t ht => XS.i2l A C.hx rfl (hb C.by hd) rfl ht) k
theorem N.l2i (C : Cx G K own nm bytes maxL ret W) {x : Int64} (hd : decode bytes pc = .ok (.l2i, 1)) (hp : pc + 1 = pc') (k : N G K rm Q h a b pc' ls (.int (x.toInt32) :: st)) : N G K rm Q h a b pc ls (.long x :: st) := by
  subst hp; exact N.step (fun T A t ht => XS.l2i A C.hx rfl (hb C.by hd) rfl ht) k
theorem N.i2b (C : Cx G K own nm bytes maxL ret W) {x : Int32} (hd : decode bytes pc = .ok (.i2b, 1)) (hp : pc + 1 = pc') (k : N G K rm Q h a b pc' ls (.int (x.toInt8.toInt32) :: st)) : N G K rm Q h a b pc ls (.int x :: st) := by
  subst hp; exact N.step (fun T A t ht => XS.i2b A C.hx rfl (hb C.by hd) rfl ht) k
theorem N.i2s (C : Cx G K own nm bytes maxL ret W) {x : Int32} (hd : decode bytes pc = .ok (.i2s, 1)) (hp : pc + 1 = pc') (k : N G K rm Q h a b pc' ls (.int (x.toInt16.toInt32) :: st)) : N G K rm Q h a b pc ls (.int x :: st) := by
  subst hp; exact N.step (fun T A t ht => XS.i2s A C.hx rfl (hb C.by hd) rfl ht) k
theorem N.i2c (C : Cx G K own nm bytes maxL ret W) {x : Int32} (hd : decode bytes pc = .ok (.i2c, 1)) (hp : pc + 1 = pc') (k : N G K rm Q h a b pc' ls (.int (x.toUInt32.toUInt16.toUInt32.toInt32) :: st)) : N G K rm Q h a b pc ls (.int x :: st) := by
  subst hp; exact N.step (fun T A t ht => XS.i2c A C.hx rfl (hb C.by hd) rfl ht) k
theorem N.ishl (C : Cx G K own nm bytes maxL ret W) {x y : Int32} (hd : decode bytes pc = .ok (.ishl, 1)) (hp : pc + 1 = pc') (k : N G K rm Q h a b pc' ls (.int (x <<< (y &&& 31)) :: st)) : N G K rm Q h a b pc ls (.int y :: .int x :: st) := by
  subst hp; exact N.step (fun T A t ht => XS.ishl A C.hx rfl (hb C.by hd) rfl ht) k
theorem N.ishr (C : Cx G K own nm bytes maxL ret W) {x y : Int32} (hd : decode bytes pc = .ok (.ishr, 1)) (hp : pc + 1 = pc') (k : N G K rm Q h a b pc' ls (.int (x >>> (y &&& 31)) :: st)) : N G K rm Q h a b pc ls (.int y :: .int x :: st) := by
  subst hp; exact N.step (fun T A t ht => XS.ishr A C.hx rfl (hb C.by hd) rfl ht) k
theorem N.iushr (C : Cx G K own nm bytes maxL ret W) {x y : Int32} (hd : decode bytes pc = .ok (.iushr, 1)) (hp : pc + 1 = pc') (k : N G K rm Q h a b pc' ls (.int ((x.toUInt32 >>> (y &&& 31).toUInt32).toInt32) :: st)) : N G K rm Q h a b pc ls (.int y :: .int x :: st) := by
  subst hp; exact N.step (fun T A t ht => XS.iushr A C.hx rfl (hb C.by hd) rfl ht) k
theorem N.lshl (C : Cx G K own nm bytes maxL ret W) {x : Int64} {y : Int32} (hd : decode bytes pc = .ok (.lshl, 1)) (hp : pc + 1 = pc') (k : N G K rm Q h a b pc' ls (.long (x <<< (y &&& 0x3f).toInt64) :: st)) : N G K rm Q h a b pc ls (.int y :: .long x :: st) := by
  subst hp; exact N.step (fun T A t ht => XS.lshl A C.hx rfl (hb C.by hd) rfl ht) k
theorem N.lshr (C : Cx G K own nm bytes maxL ret W) {x : Int64} {y : Int32} (hd : decode bytes pc = .ok (.lshr, 1)) (hp : pc + 1 = pc') (k : N G K rm Q h a b pc' ls (.long (x >>> (y &&& 0x3f).toInt64) :: st)) : N G K rm Q h a b pc ls (.int y :: .long x :: st) := by
  subst hp; exact N.step (fun T A t ht => XS.lshr A C.hx rfl (hb C.by hd) rfl ht) k
theorem N.lushr (C : Cx G K own nm bytes maxL ret W) {x : Int64} {y : Int32} (hd : decode bytes pc = .ok (.lushr, 1)) (hp : pc + 1 = pc') (k : N G K rm Q h a b pc' ls (.long ((x.toUInt64 >>> (y &&& 0x3f).toInt64.toUInt64).toInt64) :: st)) : N G K rm Q h a b pc ls (.int y :: .long x :: st) := by
  subst hp; exact N.step (fun T A t ht => XS.lushr A C.hx rfl (hb C.by hd) rfl ht) k
theorem N.lcmp (C : Cx G K own nm bytes maxL ret W) {x y : Int64} (hd : decode bytes pc = .ok (.lcmp, 1)) (hp : pc + 1 = pc') (k : N G K rm Q h a b pc' ls (.int (lcmpW x y) :: st)) : N G K rm Q h a b pc ls (.long y :: .long x :: st) := by
  subst hp; exact N.step (fun T A t ht => XS.lcmp A C.hx rfl (hb C.by hd) rfl ht) k
theorem N.iinc (C : Cx G K own nm bytes maxL ret W) {k : Nat} {cst : Int} {x z : Int32} (hd : decode bytes pc = .ok (.iinc k cst, 3)) (hl : ls[k]? = some (.val (.int x))) (hz : Int32.ofInt cst = z) (hl' : storeLocals ls k (.int (x + z)) = some ls') (hp : pc + 3 = pc') (k : N G K rm Q h a b pc' ls' st) : N G K rm Q h a b pc ls st := by
  subst hp hz; exact N.step (fun T A t ht => XS.iinc A C.hx rfl (hb C.by hd) hl hl' ht) k
theorem N.goto (C : Cx G K own nm bytes maxL ret W) {o : Int} (hd : decode bytes pc = .ok (.goto o, 3)) (hp : (pc : Int) + o = (pc' : Nat)) (k : N G K rm Q h a b pc' ls st) : N G K rm Q h a b pc ls st :=
  N.step (fun T A t ht => XS.goto A C.hx rfl (pc0 := pc) rfl (hb C.by hd) (by omega) (by omega) ht) k
theorem N.icmp (C : Cx G K own nm bytes maxL ret W) {cd : ClassFile.Cond} {o : Int} {x y : Int32} {pt pf : Nat} (hd : decode bytes pc = .ok (.if_icmp cd o, 3)) (ht : (pc : Int) + o = (pt : Nat)) (hf : pc + 3 = pf) (kt : cmpP cd x y → N G K rm Q h a b pt ls st) (kf : cmpN cd x y → N G K rm Q h a b pf ls st) : N G K rm Q h a b pc ls (.int y :: .int x :: st) := by
  subst hf
  rcases cmp_or cd x y with ⟨h1, h2⟩ | ⟨h1, h2⟩
  · exact N.step (fun T A t k => XS.icmpYes A C.hx rfl (pc0 := pc) rfl (hb C.by hd) rfl h1 (by omega) (by omega) k) (kt h2)
  · exact N.step (fun T A t k => XS.icmpNo A C.hx rfl (hb C.by hd) rfl h1 k) (kf h2)
theorem N.ifc (C : Cx G K own nm bytes maxL ret W) {cd : ClassFile.Cond} {o : Int} {x : Int32} {pt pf : Nat} (hd : decode bytes pc = .ok (.ifCond cd o, 3)) (ht : (pc : Int) + o = (pt : Nat)) (hf : pc + 3 = pf) (kt : cmpP cd x 0 → N G K rm Q h a b pt ls st) (kf : cmpN cd x 0 → N G K rm Q h a b pf ls st) : N G K rm Q h a b pc ls (.int x :: st) := by
  subst hf
  rcases cmp_or cd x 0 with ⟨h1, h2⟩ | ⟨h1, h2⟩
  · exact N.step (fun T A t k => XS.ifYes A C.hx rfl (pc0 := pc) rfl (hb C.by hd) rfl ((if0 _ _).trans h1) (by omega) (by omega) k) (kt h2)
  · exact N.step (fun T A t k => XS.ifNo A C.hx rfl (hb C.by hd) rfl ((if0 _ _).trans h1) k) (kf h2)
/-- behind lcmp -/
theorem N.lif (C : Cx G K own nm bytes maxL ret W) {cd : ClassFile.Cond} {o : Int} {x y : Int64} {pt pf : Nat} (hd : decode bytes pc = .ok (.ifCond cd o, 3)) (ht : (pc : Int) + o = (pt : Nat)) (hf : pc + 3 = pf) (kt : cmpPL cd x y → N G K rm Q h a b pt ls st) (kf : cmpNL cd x y → N G K rm Q h a b pf ls st) : N G K rm Q h a b pc ls (.int (lcmpW x y) :: st) := by
  subst hf
  rcases cmp_orL cd x y with ⟨h1, h2⟩ | ⟨h1, h2⟩
  · exact N.step (fun T A t k => XS.ifYes A C.hx rfl (pc0 := pc) rfl (hb C.by hd) rfl h1 (by omega) (by omega) k) (kt h2)
  · exact N.step (fun T A t k => XS.ifNo A C.hx rfl (hb C.by hd) rfl h1 k) (kf h2)
theorem N.ifnull0 (C : Cx G K own nm bytes maxL ret W) {o : Int} (hd : decode bytes pc = .ok (.ifnull o, 3)) (ht : (pc : Int) + o = (pc' : Nat)) (k : N G K rm Q h a b pc' ls st) : N G K rm Q h a b pc ls (.null :: st) :=
  N.step (fun T A t k => XS.ifnullYes A C.hx rfl (pc0 := pc) rfl (hb C.by hd) rfl (by omega) (by omega) k) k
theorem N.ifnull1 (C : Cx G K own nm bytes maxL ret W) {o : Int} {x : Addr} (hd : decode bytes pc = .ok (.ifnull o, 3)) (hp : pc + 3 = pc') (k : N G K rm Q h a b pc' ls st) : N G K rm Q h a b pc ls (.ref x :: st) := by
  subst hp; exact N.step (fun T A t k => XS.ifnullNo A C.hx rfl (hb C.by hd) rfl k) k
theorem N.ifnonnull1 (C : Cx G K own nm bytes maxL ret W) {o : Int} {x : Addr} (hd : decode bytes pc = .ok (.ifnonnull o, 3)) (ht : (pc : Int) + o = (pc' : Nat)) (k : N G K rm Q h a b pc' ls st) : N G K rm Q h a b pc ls (.ref x :: st) :=
  N.step (fun T A t k => XS.ifnonnullYes A C.hx rfl (pc0 := pc) rfl (hb C.by hd) rfl (by omega) (by omega) k) k
theorem N.ifnonnull0 (C : Cx G K own nm bytes maxL ret W) {o : Int} (hd : decode bytes pc = .ok (.ifnonnull o, 3)) (hp : pc + 3 = pc') (k : N G K rm Q h a b pc' ls st) : N G K rm Q h a b pc ls (.null :: st) := by
  subst hp; exact N.step (fun T A t k => XS.ifnonnullNo A C.hx rfl (hb C.by hd) rfl k) k
theorem N.acmp (C : Cx G K own nm bytes maxL ret W) {cd : ACond} {o : Int} {v w : Value} (same : Bool) (hd : decode bytes pc = .ok (.if_acmp cd o, 3)) (h1 : v.isRef = true) (h2 : w.isRef = true) (hq : decide (v = w) = same) (ho : 0 ≤ (pc : Int) + o) (hp : pc' = if acV cd same = true then ((pc : Int) + o).toNat else pc + 3) (k : N G K rm Q h a b pc' ls st) : N G K rm Q h a b pc ls (w :: v :: st) :=
  N.stX (fun T locs X e t ht => Jvm.RoadKit.acmp (g := mkF K.m pc ls (w :: v :: st)) X C.hx rfl h1 h2 rfl (hb C.by hd) rfl hq ho hp ht) k
theorem N.ldcI (C : Cx G K own nm bytes maxL ret W) {i : Nat} {v : Int32} (hd : decode bytes pc = .ok (.ldc i, 2)) (w : (Jvm.Cond.constant own i v).before G.a0 G.Z = true) (hp : pc + 2 = pc') (k : N G K rm Q h a b pc' ls (.int v :: st)) : N G K rm Q h a b pc ls st := by
  subst hp; exact N.stX (fun T locs X e t ht => X.ldcInt C.hx C.ow (mvT C.hZ w) (g := mkF K.m pc ls st) rfl (hb C.by hd) t ht) k
theorem N.ldcwI (C : Cx G K own nm bytes maxL ret W) {i : Nat} {v : Int32} (hd : decode bytes pc = .ok (.ldc_w i, 3)) (w : (Jvm.Cond.constant own i v).before G.a0 G.Z = true) (hp : pc + 3 = pc') (k : N G K rm Q h a b pc' ls (.int v :: st)) : N G K rm Q h a b pc ls st := by
  subst hp; exact N.stX (fun T locs X e t ht => X.ldcwInt C.hx C.ow (mvT C.hZ w) (g := mkF K.m pc ls st) rfl (hb C.by hd) t ht) k
theorem N.ldcL (C : Cx G K own nm bytes maxL ret W) {i : Nat} {v : Int64} (hd : decode bytes pc = .ok (.ldc2_w i, 3)) (w : (Jvm.Cond.constantLong own i v).before G.a0 G.Z = true) (hp : pc + 3 = pc') (k : N G K rm Q h a b pc' ls (.long v :: st)) : N G K rm Q h a b pc ls st := by
  subst hp; exact N.stX (fun T locs X e t ht => X.ldc2Long C.hx C.ow (mvT C.hZ w) (g := mkF K.m pc ls st) rfl (hb C.by hd) t ht) k
theorem N.getF (C : Cx G K own nm bytes maxL ret W) {O n d : String} {i : Nat} {x : Addr} {v : Value} (hd : decode bytes pc = .ok (.getfield i, 3)) (w : (Jvm.Cond.fieldLink own i O n d).before G.a0 G.Z = true) (F : Fld G.Z h x O n d v) (hp : pc + 3 = pc') (k : N G K rm Q h a b pc' ls (v :: st)) : N G K rm Q h a b pc ls (.ref x :: st) := fun T locs X e N0 => by
  subst hp
  obtain ⟨T', X', e', s'⟩ := Jvm.RoadKit.getF X C.hx C.hZ C.ow (host := "") (Or.inl w) Via.refl e F (g := mkF K.m pc ls (.ref x :: st)) rfl rfl (hb C.by hd)
  obtain ⟨s₂, o, hs, r⟩ := k T' locs X' e' N0
  exact ⟨s₂, o, s' _ hs, r⟩
theorem N.getFN (C : Cx G K own nm bytes maxL ret W) {O n d host : String} {i : Nat} {x : Addr} {v : Value} (hd : decode bytes pc = .ok (.getfield i, 3)) (w : (Jvm.Cond.fieldLinkNest own i O n d host).before G.a0 G.Z = true) (F : Fld G.Z h x O n d v) (hp : pc + 3 = pc') (k : N G K rm Q h a b pc' ls (v :: st)) : N G K rm Q h a b pc ls (.ref x :: st) := fun T locs X e N0 => by
  subst hp
  obtain ⟨T', X', e', s'⟩ := Jvm.RoadKit.getF X C.hx C.hZ C.ow (Or.inr w) Via.refl e F (g := mkF K.m pc ls (.ref x :: st)) rfl rfl (hb C.by hd)
  obtain ⟨s₂, o, hs, r⟩ := k T' locs X' e' N0
  exact ⟨s₂, o, s' _ hs, r⟩
theorem N.putF (C : Cx G K own nm bytes maxL ret W) {O n d Cn : String} {i kk : Nat} {ty : FieldType} {x : Addr} {v old : Value} (hd : decode bytes pc = .ok (.putfield i, 3)) (w : (Jvm.Cond.fieldLink own i O n d).before G.a0 G.Z = true) (F : Fld G.Z h x O n d old) (E : Exa G.Z h x Cn)
    (L : (Jvm.Cond.lays Cn O n d).before G.a0 G.Z = true ∨ ((Jvm.Cond.laysFinal Cn O n d).before G.a0 G.Z = true ∧ own = O ∧ nm = "<init>")) (wi : (Jvm.Cond.instantiable Cn kk).before G.a0 G.Z = true) (hty : parseFieldDescriptor d = some ty) (hn : narrow ty v = v) (hf : fits ty v = true) (hx : G.n0 ≤ x) (hp : pc + 3 = pc')
    (k : ∀ h', Wr h h' x (Jvm.RoadKit.slotOf G.Z O n d) v → N G K rm Q h' a b pc' ls st) : N G K rm Q h a b pc ls (v :: .ref x :: st) := fun T locs X e N0 => by
  subst hp
  obtain ⟨T', h', X', e', W', s'⟩ := Jvm.RoadKit.putF X C.hx C.hZ C.ow (host := "") (Or.inl w) Via.refl e F E (L.imp id fun q => ⟨q.1, q.2.1, C.name.trans q.2.2⟩) wi hty hn hf (g := mkF K.m pc ls (v :: .ref x :: st)) rfl rfl (hb C.by hd)
  obtain ⟨s₂, o, hs, r⟩ := k h' W' T' _ X' e' (Fr.snoc X' N0 hx)
  exact ⟨s₂, o, s' _ hs, r⟩
theorem N.putFN (C : Cx G K own nm bytes maxL ret W) {O n d Cn : String} {i kk : Nat} {ty : FieldType} {x : Addr} {v v' old : Value} (hd : decode bytes pc = .ok (.putfield i, 3)) (w : (Jvm.Cond.fieldLink own i O n d).before G.a0 G.Z = true) (F : Fld G.Z h x O n d old) (E : Exa G.Z h x Cn)
    (L : (Jvm.Cond.lays Cn O n d).before G.a0 G.Z = true ∨ ((Jvm.Cond.laysFinal Cn O n d).before G.a0 G.Z = true ∧ own = O ∧ nm = "<init>")) (wi : (Jvm.Cond.instantiable Cn kk).before G.a0 G.Z = true) (hty : parseFieldDescriptor d = some ty) (hn : narrow ty v = v') (hf : fits ty v' = true) (hx : G.n0 ≤ x) (hp : pc + 3 = pc')
    (k : ∀ h', Wr h h' x (Jvm.RoadKit.slotOf G.Z O n d) v' → N G K rm Q h' a b pc' ls st) : N G K rm Q h a b pc ls (v :: .ref x :: st) := fun T locs X e N0 => by
  subst hp
  obtain ⟨T', h', X', e', W', s'⟩ := Jvm.RoadKit.putFN X C.hx C.hZ C.ow w Via.refl e F E (L.imp id fun q => ⟨q.1, q.2.1, C.name.trans q.2.2⟩) wi hty hn hf (g := mkF K.m pc ls (v :: .ref x :: st)) rfl rfl (hb C.by hd)
  obtain ⟨s₂, o, hs, r⟩ := k h' W' T' _ X' e' (Fr.snoc X' N0 hx)
  exact ⟨s₂, o, s' _ hs, r⟩
theorem N.getS (C : Cx G K own nm bytes maxL ret W) {O n d : String} {i : Nat} {v : Value} (hd : decode bytes pc = .ok (.getstatic i, 3)) (w : (Jvm.Cond.fieldLink own i O n d).before G.a0 G.Z = true) (F : Sta G.Z h O n d v) (hp : pc + 3 = pc') (k : N G K rm Q h a b pc' ls (v :: st)) : N G K rm Q h a b pc ls st := fun T locs X e N0 => by
  subst hp
  obtain ⟨T', X', e', s'⟩ := Jvm.RoadKit.getS X C.hx C.hZ (host := "") C.ow w Via.refl e F (g := mkF K.m pc ls st) rfl (hb C.by hd)
  obtain ⟨s₂, o, hs, r⟩ := k T' locs X' e' N0
  exact ⟨s₂, o, s' _ hs, r⟩
theorem N.newO (C : Cx G K own nm bytes maxL ret W) {Cn : String} {i n : Nat} (hd : decode bytes pc = .ok (.new i, 3)) (w : (Jvm.Cond.classLink own i Cn).before G.a0 G.Z = true) (wi : (Jvm.Cond.instantiable Cn n).before G.a0 G.Z = true) (wz : (Jvm.Cond.initialized Cn).before G.a0 G.Z = true) (hc : a + 1 ≤ rm.cells) (hl : b + n ≤ rm.slots) (hp : pc + 3 = pc')
    (k : ∀ (h' : Heap) (x : Addr), x = h.size → Ext h h' → Exa G.Z h' x Cn → (∀ {O f d : String} {ty : FieldType}, Laid G.Z G.a0 Cn O f d → parseFieldDescriptor d = some ty → Fld G.Z h' x O f d (defaultValue ty)) → N G K rm Q h' (a + 1) (b + n) pc' ls (.ref x :: st)) : N G K rm Q h a b pc ls st := fun T locs X e N0 => by
  subst hp
  obtain ⟨T', h', X', e', E', A', D', -, s'⟩ := Jvm.RoadKit.newO X C.hx C.hZ C.ow w wi wz e (g := mkF K.m pc ls st) rfl (hb C.by hd) hc hl
  obtain ⟨s₂, o, hs, r⟩ := k h' _ rfl E' A' D' T' locs X' e' N0
  exact ⟨s₂, o, s' _ hs, r⟩
theorem N.newP (C : Cx G K own nm bytes maxL ret W) {aty : ArrayType} {n : Int32} (cap : Nat) (hd : decode bytes pc = .ok (.newarray aty, 2)) (w : (Jvm.Cond.arrayClass (newarray.typeOf aty)).before G.a0 G.Z = true) (hn : 0 ≤ n.toInt) (hcap : n.toInt ≤ (cap : Int)) (hb8 : cap * 8 ≤ 536870912) (hc : a + 1 ≤ rm.cells) (hl : b + cap ≤ rm.slots) (hp : pc + 2 = pc')
    (k : ∀ (h' : Heap) (x : Addr), x = h.size → Ext h h' → Av G.Z h' x (newarray.typeOf aty) (List.replicate n.toInt.toNat (defaultValue (newarray.typeOf aty))) → N G K rm Q h' (a + 1) (b + cap) pc' ls (.ref x :: st)) : N G K rm Q h a b pc ls (.int n :: st) := fun T locs X e N0 => by
  subst hp
  have hneg : ¬ n < 0 := fun q => by
    have := Int32.lt_iff_toInt_lt.mp q
    have e0 : (0 : Int32).toInt = 0 := by decide
    omega
  obtain ⟨T', h', cA, X', e', E', A', s'⟩ := Jvm.RoadKit.newP X C.hx C.hZ w e (g := mkF K.m pc ls (.int n :: st)) rfl (hb C.by hd) rfl hneg (cap := cap) (by show n.toInt.toNat ≤ cap; omega) hb8 hc hl
  obtain ⟨s₂, o, hs, r⟩ := k h' _ rfl E' (Av.new A') T' locs X' e' N0
  exact ⟨s₂, o, s' _ hs, r⟩
theorem N.initO (C : Cx G K own nm bytes maxL ret W) {i : Nat} {x : Addr} (hd : decode bytes pc = .ok (.invokespecial i, 3)) (w1 : (Jvm.Cond.methodLink own i Lib.objectInit).before G.a0 G.Z = true) (w2 : (Jvm.Cond.instanceMethod Lib.objectInit).before G.a0 G.Z = true) (w3 : (Jvm.Cond.code Lib.objectInit ⟨#[0xb1]⟩ 1 none).before G.a0 G.Z = true) (hsz : ls.size = maxL) (hf : 1 ≤ rm.frames) (hl : (st.map fun v => v.category).sum + 12 ≤ rm.locals) (hp : pc + 3 = pc')
    (k : N G K rm Q h a b pc' ls st) : N G K rm Q h a b pc ls (.ref x :: st) := fun T locs X e N0 => by
  subst hp
  obtain ⟨T', X', e', s'⟩ := Jvm.RoadKit.initO X C.hx C.hZ C.ow w1 w2 w3 e (g := mkF K.m pc ls (.ref x :: st)) rfl (by rw [C.ml]; exact hsz) rfl (hb C.by hd) hf (W := (st.map fun v => v.category).sum) (by show 2 * 0 + _ ≤ _; omega) hl
  obtain ⟨s₂, o, hs, r⟩ := k T' locs X' e' N0
  exact ⟨s₂, o, s' _ hs, r⟩
theorem N.alen (C : Cx G K own nm bytes maxL ret W) {x : Addr} {ty : FieldType} {vs : List Value} {n : Int32} (hd : decode bytes pc = .ok (.arraylength, 1)) (A : Av G.Z h x ty vs) (hn : n.toInt = (vs.length : Nat)) (hp : pc + 1 = pc') (k : N G K rm Q h a b pc' ls (.int n :: st)) : N G K rm Q h a b pc ls (.ref x :: st) := by
  subst hp
  obtain ⟨c, A, rfl⟩ := A
  have hz : c.slots.size.toInt32 = n := by
    have h1 := n.toInt_lt
    apply Int32.toInt_inj.mp
    rw [hn]
    simp only [Array.length_toList] at hn ⊢
    show (Int32.ofNat c.slots.size).toInt = _
    rw [Int32.toInt_ofNat']
    have e32 : (Int32.size : Int) = 4294967296 := rfl
    exact Int.bmod_eq_of_le (by omega) (by omega)
  exact N.stX (fun T locs X e t ht => X.arraylength C.hx (by rw [e]; exact A.1) (State.isArrayOf_alike C.hZ.alike A.2.1) (g := mkF K.m pc ls (.ref x :: st)) rfl rfl (hb C.by hd) t (by rw [hz]; exact ht)) k

theorem N.iaload (C : Cx G K own nm bytes maxL ret W) {x : Addr} {vs : List Value} {j : Int32} {i : Nat} {v : Value} (hd : decode bytes pc = .ok (.iaload, 1)) (A : Av G.Z h x .int vs) (hj : j.toInt = (i : Nat)) (hv : vs[i]? = some v) (hp : pc + 1 = pc') (k : N G K rm Q h a b pc' ls (v :: st)) : N G K rm Q h a b pc ls (.int j :: .ref x :: st) := by
  subst hp
  obtain ⟨c, A, rfl⟩ := A
  have hi : i < c.slots.size := by have := (List.getElem?_eq_some_iff.mp hv).1; simpa using this
  have hv' : c.slots[j.toNatClampNeg]? = some v := by rw [(ix hj).2, ← Array.getElem?_toList]; exact hv
  exact N.stX (fun T locs X e t ht => X.iaload C.hx (by rw [e]; exact A.1) (State.isArrayOf_alike C.hZ.alike A.2.1) A.2.2 (ixin hj hi) hv' (g := mkF K.m pc ls (.int j :: .ref x :: st)) rfl rfl (hb C.by hd) t ht) k
theorem N.laload (C : Cx G K own nm bytes maxL ret W) {x : Addr} {vs : List Value} {j : Int32} {i : Nat} {v : Value} (hd : decode bytes pc = .ok (.laload, 1)) (A : Av G.Z h x .long vs) (hj : j.toInt = (i : Nat)) (hv : vs[i]? = some v) (hp : pc + 1 = pc') (k : N G K rm Q h a b pc' ls (v :: st)) : N G K rm Q h a b pc ls (.int j :: .ref x :: st) := by
  subst hp
  obtain ⟨c, A, rfl⟩ := A
  have hi : i < c.slots.size := by have := (List.getElem?_eq_some_iff.mp hv).1; simpa using this
  have hv' : c.slots[j.toNatClampNeg]? = some v := by rw [(ix hj).2, ← Array.getElem?_toList]; exact hv
  exact N.stX (fun T locs X e t ht => X.laload C.hx (by rw [e]; exact A.1) (State.isArrayOf_alike C.hZ.alike A.2.1) A.2.2 (ixin hj hi) hv' (g := mkF K.m pc ls (.int j :: .ref x :: st)) rfl rfl (hb C.by hd) t ht) k
theorem N.caload (C : Cx G K own nm bytes maxL ret W) {x : Addr} {vs : List Value} {j : Int32} {i : Nat} {v : Value} (hd : decode bytes pc = .ok (.caload, 1)) (A : Av G.Z h x .char vs) (hj : j.toInt = (i : Nat)) (hv : vs[i]? = some v) (hp : pc + 1 = pc') (k : N G K rm Q h a b pc' ls (v :: st)) : N G K rm Q h a b pc ls (.int j :: .ref x :: st) := by
  subst hp
  obtain ⟨c, A, rfl⟩ := A
  have hi : i < c.slots.size := by have := (List.getElem?_eq_some_iff.mp hv).1; simpa using this
  have hv' : c.slots[j.toNatClampNeg]? = some v := by rw [(ix hj).2, ← Array.getElem?_toList]; exact hv
  exact N.stX (fun T locs X e t ht => X.caload C.hx (by rw [e]; exact A.1) (State.isArrayOf_alike C.hZ.alike A.2.1) A.2.2 (ixin hj hi) hv' (g := mkF K.m pc ls (.int j :: .ref x :: st)) rfl rfl (hb C.by hd) t ht) k
theorem N.baload (C : Cx G K own nm bytes maxL ret W) {x : Addr} {vs : List Value} {j : Int32} {i : Nat} {v : Value} (hd : decode bytes pc = .ok (.baload, 1)) (A : Av G.Z h x .byte vs) (hj : j.toInt = (i : Nat)) (hv : vs[i]? = some v) (hp : pc + 1 = pc') (k : N G K rm Q h a b pc' ls (v :: st)) : N G K rm Q h a b pc ls (.int j :: .ref x :: st) := by
  subst hp
  obtain ⟨c, A, rfl⟩ := A
  have hi : i < c.slots.size := by have := (List.getElem?_eq_some_iff.mp hv).1; simpa using this
  have hv' : c.slots[j.toNatClampNeg]? = some v := by rw [(ix hj).2, ← Array.getElem?_toList]; exact hv
  exact N.stX (fun T locs X e t ht => X.baloadBytes C.hx (by rw [e]; exact A.1) (State.isArrayOf_alike C.hZ.alike A.2.1) A.2.2 (ixin hj hi) hv' (g := mkF K.m pc ls (.int j :: .ref x :: st)) rfl rfl (hb C.by hd) t ht) k
theorem N.zaload (C : Cx G K own nm bytes maxL ret W) {x : Addr} {vs : List Value} {j : Int32} {i : Nat} {v : Value} (hd : decode bytes pc = .ok (.baload, 1)) (A : Av G.Z h x .boolean vs) (hj : j.toInt = (i : Nat)) (hv : vs[i]? = some v) (hp : pc + 1 = pc') (k : N G K rm Q h a b pc' ls (v :: st)) : N G K rm Q h a b pc ls (.int j :: .ref x :: st) := by
  subst hp
  obtain ⟨c, A, rfl⟩ := A
  have hi : i < c.slots.size := by have := (List.getElem?_eq_some_iff.mp hv).1; simpa using this
  have hv' : c.slots[j.toNatClampNeg]? = some v := by rw [(ix hj).2, ← Array.getElem?_toList]; exact hv
  exact N.stX (fun T locs X e t ht => X.baloadBooleans C.hx (by rw [e]; exact A.1) (State.isArrayOf_alike C.hZ.alike A.2.1) A.2.2 (ixin hj hi) hv' (g := mkF K.m pc ls (.int j :: .ref x :: st)) rfl rfl (hb C.by hd) t ht) k
theorem N.iastore (C : Cx G K own nm bytes maxL ret W) {x : Addr} {vs : List Value} {j : Int32} {i : Nat} {v : Int32} (hd : decode bytes pc = .ok (.iastore, 1)) (A : Av G.Z h x .int vs) (hj : j.toInt = (i : Nat)) (hi : i < vs.length) (hx : G.n0 ≤ x) (hp : pc + 1 = pc') (k : ∀ h', Wr h h' x i (.int v) → Av G.Z h' x .int (vs.set i (.int v)) → N G K rm Q h' a b pc' ls st) : N G K rm Q h a b pc ls (.int v :: .int j :: .ref x :: st) := fun T locs X e N0 => by
  subst hp
  have A0 := A
  obtain ⟨c, A, rfl⟩ := A
  obtain ⟨T', h', X', e', W', s'⟩ := Jvm.RoadKit.stI X C.hx C.hZ e A (j := j) (ixin hj (by simpa using hi)) (g := mkF K.m pc ls (.int v :: .int j :: .ref x :: st)) rfl rfl (hb C.by hd)
  have F' := Fr.snoc X' N0 hx
  rw [(ix hj).2] at W'
  obtain ⟨s₂, o, hs, r⟩ := k h' W' (A0.same W') T' _ X' e' F'
  exact ⟨s₂, o, s' _ hs, r⟩
theorem N.lastore (C : Cx G K own nm bytes maxL ret W) {x : Addr} {vs : List Value} {j : Int32} {i : Nat} {v : Int64} (hd : decode bytes pc = .ok (.lastore, 1)) (A : Av G.Z h x .long vs) (hj : j.toInt = (i : Nat)) (hi : i < vs.length) (hx : G.n0 ≤ x) (hp : pc + 1 = pc') (k : ∀ h', Wr h h' x i (.long v) → Av G.Z h' x .long (vs.set i (.long v)) → N G K rm Q h' a b pc' ls st) : N G K rm Q h a b pc ls (.long v :: .int j :: .ref x :: st) := fun T locs X e N0 => by
  subst hp
  have A0 := A
  obtain ⟨c, A, rfl⟩ := A
  obtain ⟨T', h', X', e', W', s'⟩ := Jvm.RoadKit.stJ X C.hx C.hZ e A (j := j) (ixin hj (by simpa using hi)) (g := mkF K.m pc ls (.long v :: .int j :: .ref x :: st)) rfl rfl (hb C.by hd)
  have F' := Fr.snoc X' N0 hx
  rw [(ix hj).2] at W'
  obtain ⟨s₂, o, hs, r⟩ := k h' W' (A0.same W') T' _ X' e' F'
  exact ⟨s₂, o, s' _ hs, r⟩
theorem N.castore (C : Cx G K own nm bytes maxL ret W) {x : Addr} {vs : List Value} {j : Int32} {i : Nat} {v : Int32} (hd : decode bytes pc = .ok (.castore, 1)) (A : Av G.Z h x .char vs) (hj : j.toInt = (i : Nat)) (hi : i < vs.length) (hx : G.n0 ≤ x) (hp : pc + 1 = pc') (k : ∀ h', Wr h h' x i (.int (nar .char v)) → Av G.Z h' x .char (vs.set i (.int (nar .char v))) → N G K rm Q h' a b pc' ls st) : N G K rm Q h a b pc ls (.int v :: .int j :: .ref x :: st) := fun T locs X e N0 => by
  subst hp
  have A0 := A
  obtain ⟨c, A, rfl⟩ := A
  obtain ⟨T', h', X', e', W', s'⟩ := Jvm.RoadKit.stC X C.hx C.hZ e A (j := j) (ixin hj (by simpa using hi)) (g := mkF K.m pc ls (.int v :: .int j :: .ref x :: st)) rfl rfl (hb C.by hd)
  have F' := Fr.snoc X' N0 hx
  rw [(ix hj).2] at W'
  obtain ⟨s₂, o, hs, r⟩ := k h' W' (A0.same W') T' _ X' e' F'
  exact ⟨s₂, o, s' _ hs, r⟩
theorem N.bastore (C : Cx G K own nm bytes maxL ret W) {x : Addr} {vs : List Value} {j : Int32} {i : Nat} {v : Int32} (hd : decode bytes pc = .ok (.bastore, 1)) (A : Av G.Z h x .byte vs) (hj : j.toInt = (i : Nat)) (hi : i < vs.length) (hx : G.n0 ≤ x) (hp : pc + 1 = pc') (k : ∀ h', Wr h h' x i (.int (nar .byte v)) → Av G.Z h' x .byte (vs.set i (.int (nar .byte v))) → N G K rm Q h' a b pc' ls st) : N G K rm Q h a b pc ls (.int v :: .int j :: .ref x :: st) := fun T locs X e N0 => by
  subst hp
  have A0 := A
  obtain ⟨c, A, rfl⟩ := A
  obtain ⟨T', h', X', e', W', s'⟩ := Jvm.RoadKit.stB X C.hx C.hZ e A (j := j) (ixin hj (by simpa using hi)) (g := mkF K.m pc ls (.int v :: .int j :: .ref x :: st)) rfl rfl (hb C.by hd)
  have F' := Fr.snoc X' N0 hx
  rw [(ix hj).2] at W'
  obtain ⟨s₂, o, hs, r⟩ := k h' W' (A0.same W') T' _ X' e' F'
  exact ⟨s₂, o, s' _ hs, r⟩
theorem N.zastore (C : Cx G K own nm bytes maxL ret W) {x : Addr} {vs : List Value} {j : Int32} {i : Nat} {v : Int32} (hd : decode bytes pc = .ok (.bastore, 1)) (A : Av G.Z h x .boolean vs) (hj : j.toInt = (i : Nat)) (hi : i < vs.length) (hx : G.n0 ≤ x) (hp : pc + 1 = pc') (k : ∀ h', Wr h h' x i (.int (nar .boolean v)) → Av G.Z h' x .boolean (vs.set i (.int (nar .boolean v))) → N G K rm Q h' a b pc' ls st) : N G K rm Q h a b pc ls (.int v :: .int j :: .ref x :: st) := fun T locs X e N0 => by
  subst hp
  have A0 := A
  obtain ⟨c, A, rfl⟩ := A
  obtain ⟨T', h', X', e', W', s'⟩ := Jvm.RoadKit.stZ X C.hx C.hZ e A (j := j) (ixin hj (by simpa using hi)) (g := mkF K.m pc ls (.int v :: .int j :: .ref x :: st)) rfl rfl (hb C.by hd)
  have F' := Fr.snoc X' N0 hx
  rw [(ix hj).2] at W'
  obtain ⟨s₂, o, hs, r⟩ := k h' W' (A0.same W') T' _ X' e' F'
  exact ⟨s₂, o, s' _ hs, r⟩

/-! returns -/
theorem N.ret0 (C : Cx G K own nm bytes maxL ret W) (hr : ret = none) (hd : decode bytes pc = .ok (.return_, 1)) (ha : a ≤ rm.cells) (hb' : b ≤ rm.slots) (hq : Q none h) : N G K rm Q h a b pc ls [] := fun T locs X e N0 => by
  obtain ⟨fs, hr', hrun, hended, hW, hsame⟩ := X.leave (v := none) (fun _ => rfl) (hlocks := C.lk)
  exact ⟨_, _, X.returnOut C.hx (C.rt.trans hr) (hb C.by hd) hr', hrun, hended, _, _, rfl, ⟨by show Q none T.heap; rw [e]; exact hq, N0⟩, ⟨_, rfl⟩, hW, hsame.mono ha hb'⟩
theorem N.retV (C : Cx G K own nm bytes maxL ret W) {w : Value} {t : FieldType} {i : Instr} (hr : ret = some t) (hn : narrow t w = w)
    (hi : (i = .ireturn ∧ (t = .int ∨ t = .boolean ∨ t = .byte ∨ t = .char ∨ t = .short) ∧ ∃ z, w = .int z) ∨ (i = .lreturn ∧ t = .long ∧ ∃ z, w = .long z) ∨ (i = .dreturn ∧ t = .double ∧ ∃ z, w = .double z) ∨ (i = .freturn ∧ t = .float ∧ ∃ z, w = .float z) ∨ (i = .areturn ∧ t.isReference = true ∧ w.isRef = true))
    (hd : decode bytes pc = .ok (i, 1)) (ha : a ≤ rm.cells) (hb' : b ≤ rm.slots) (hq : Q (some w) h) : N G K rm Q h a b pc ls (w :: st) := fun T locs X e N0 => by
  obtain ⟨fs, hr', hrun, hended, hW, hsame⟩ := X.leave (v := some w) (fun q => by rw [C.rt, hr] at q; cases q) (hlocks := C.lk)
  exact ⟨_, _, retOut X C.hx (C.rt.trans hr) hn hi (hb C.by hd) hr', hrun, hended, _, _, rfl, ⟨by show Q (some w) T.heap; rw [e]; exact hq, N0⟩, ⟨_, rfl⟩, hW, hsame.mono ha hb'⟩
theorem N.retI (C : Cx G K own nm bytes maxL (some .int) W) {z : Int32} (hd : decode bytes pc = .ok (.ireturn, 1)) (ha : a ≤ rm.cells) (hb' : b ≤ rm.slots) (hq : Q (some (.int z)) h) : N G K rm Q h a b pc ls (.int z :: st) :=
  N.retV C rfl rfl (Or.inl ⟨rfl, Or.inl rfl, z, rfl⟩) hd ha hb' hq
theorem N.retL (C : Cx G K own nm bytes maxL (some .long) W) {z : Int64} (hd : decode bytes pc = .ok (.lreturn, 1)) (ha : a ≤ rm.cells) (hb' : b ≤ rm.slots) (hq : Q (some (.long z)) h) : N G K rm Q h a b pc ls (.long z :: st) :=
  N.retV C rfl rfl (Or.inr (Or.inl ⟨rfl, rfl, z, rfl⟩)) hd ha hb' hq
theorem N.retA (C : Cx G K own nm bytes maxL (some t) W) {w : Value} (ht : t.isReference = true) (hw : w.isRef = true) (hd : decode bytes pc = .ok (.areturn, 1)) (ha : a ≤ rm.cells) (hb' : b ≤ rm.slots) (hq : Q (some w) h) : N G K rm Q h a b pc ls (w :: st) :=
  N.retV C rfl (by rcases ref_cases hw with rfl | ⟨z, rfl⟩ <;> cases t <;> first | rfl | (cases ht)) (Or.inr (Or.inr (Or.inr (Or.inr ⟨rfl, ht, hw⟩)))) hd ha hb' hq
theorem N.retN (C : Cx G K own nm bytes maxL (some t) W) {z z' : Int32} (ht : t = .boolean ∨ t = .byte ∨ t = .char ∨ t = .short) (hz : nar t z = z') (hd : decode bytes pc = .ok (.ireturn, 1)) (ha : a ≤ rm.cells) (hb' : b ≤ rm.slots) (hq : Q (some (.int z')) h) : N G K rm Q h a b pc ls (.int z :: st) := fun T locs X e N0 => by
  subst hz
  obtain ⟨fs, hr', hrun, hended, hW, hsame⟩ := X.leave (v := some (.int (nar t z))) (fun q => by rw [C.rt] at q; cases q) (hlocks := C.lk)
  exact ⟨_, _, Jvm.RoadKit.retN X C.hx C.rt ht (hb C.by hd) hr', hrun, hended, _, _, rfl, ⟨by show Q (some (.int (nar t z))) T.heap; rw [e]; exact hq, N0⟩, ⟨_, rfl⟩, hW, hsame.mono ha hb'⟩
/-! calls by the callee's contract -/
section Calls
variable {y : MethodName} {bytes' : ByteArray} {maxL' : Nat} {ret' : Option FieldType} {rm' : Room} {as : Array Value} {R' : Option Value → Heap → Prop} {stk rest : List Value}
theorem N.callS (C : Cx G K own nm bytes maxL ret W) {i : Nat} (argsL : List Value) (hd : decode bytes pc = .ok (.invokestatic i, 3)) (w1 : (Jvm.Cond.methodLink own i y).before G.a0 G.Z = true) (w2 : (Jvm.Cond.static y).before G.a0 G.Z = true) (w3 : (Jvm.Cond.initialized y.cls).before G.a0 G.Z = true) (w4 : (Jvm.Cond.code y bytes' maxL' ret').before G.a0 G.Z = true)
    (hy : y.cls ≠ "java/lang/invoke/MethodHandle" ∧ y.cls ≠ "java/lang/invoke/VarHandle") (M : Con G y bytes' maxL' ret' rm' argsL.toArray h R') (hlen : ∀ sig, parseMethodDescriptor y.desc = some sig → argsL.length = sig.parameters.length) (hsz : ls.size = maxL)
    (hf : rm'.frames + 1 ≤ rm.frames) (hl : (rest.map fun v => v.category).sum + (maxL' + 11) + rm'.locals ≤ rm.locals) (hc : a + rm'.cells ≤ rm.cells) (hs : b + rm'.slots ≤ rm.slots) (hst : stk = argsL.reverse ++ rest) (hp : pc + 3 = pc')
    (k : ∀ v h', R' v h' → N G K rm Q h' (a + rm'.cells) (b + rm'.slots) pc' ls (v.toList ++ rest)) : N G K rm Q h a b pc ls stk := fun T locs X e N0 => by
  subst hp
  obtain ⟨v, _, ⟨T', L', k', n'⟩, -, X', ⟨Lc, ⟨hQ, N1⟩, l', y', z'⟩, s'⟩ := Jvm.LawKit.callS X C.hx (y := y) C.ow (mvT C.hZ w1) (mvT C.hZ w2) (mvT C.hZ w3) (mvT C.hZ w4) hy (backOf (W := (rest.map fun v => v.category).sum) (Q := fun v h L => R' v h ∧ Fr G.n0 L) (M []) C.hZ w4 w3 hf hl) (g := mkF K.m pc ls stk) rfl (by rw [C.ml]; exact hsz) (argsL := argsL) (rest := rest) hlen hst (by show 2 * 0 + _ ≤ _; omega) (hb C.by hd) (fun _ _ => ⟨rfl, e, hc, hs⟩)
  dsimp only [Pt.U, Pt.locs, Pt.cells, Pt.slots] at X' l' y' z' s' hQ
  subst l' y' z'
  obtain ⟨s₂, o, hs', r⟩ := k v T'.heap hQ T' _ X' rfl (N0.app N1)
  exact ⟨s₂, o, s' _ hs', r⟩
theorem N.callI (C : Cx G K own nm bytes maxL ret W) {i : Nat} (x : Addr) (argsL : List Value) (hd : decode bytes pc = .ok (.invokespecial i, 3)) (hy1 : y.name = "<init>") (w1 : (Jvm.Cond.methodLink own i y).before G.a0 G.Z = true) (w2 : (Jvm.Cond.instanceMethod y).before G.a0 G.Z = true) (w3 : (Jvm.Cond.initialized y.cls).before G.a0 G.Z = true) (w4 : (Jvm.Cond.code y bytes' maxL' none).before G.a0 G.Z = true)
    (hy : y.cls ≠ "java/lang/invoke/MethodHandle" ∧ y.cls ≠ "java/lang/invoke/VarHandle") (M : Con G y bytes' maxL' none rm' (.ref x :: argsL).toArray h R') (hlen : ∀ sig, parseMethodDescriptor y.desc = some sig → argsL.length = sig.parameters.length) (hsz : ls.size = maxL)
    (hf : rm'.frames + 1 ≤ rm.frames) (hl : (rest.map fun v => v.category).sum + (maxL' + 11) + rm'.locals ≤ rm.locals) (hc : a + rm'.cells ≤ rm.cells) (hs : b + rm'.slots ≤ rm.slots) (hst : stk = argsL.reverse ++ .ref x :: rest) (hp : pc + 3 = pc')
    (k : ∀ v h', R' v h' → N G K rm Q h' (a + rm'.cells) (b + rm'.slots) pc' ls (v.toList ++ rest)) : N G K rm Q h a b pc ls stk := fun T locs X e N0 => by
  subst hp
  obtain ⟨v, _, ⟨T', L', k', n'⟩, -, X', ⟨Lc, ⟨hQ, N1⟩, l', y', z'⟩, s'⟩ := X.specialBack C.hx (y := y) hy1 C.ow (mvT C.hZ w1) (mvT C.hZ w2) (mvT C.hZ w4) hy (backOf (W := (rest.map fun v => v.category).sum) (Q := fun v h L => R' v h ∧ Fr G.n0 L) (M []) C.hZ w4 w3 hf hl) (g := mkF K.m pc ls stk) rfl (by rw [C.ml]; exact hsz) (Steps.refl _) (a := x) (argsL := argsL) (rest := rest) hlen hst (by show 2 * 0 + _ ≤ _; omega) (hb C.by hd) (fun _ _ => ⟨rfl, e, hc, hs⟩)
  dsimp only [Pt.U, Pt.locs, Pt.cells, Pt.slots] at X' l' y' z' s' hQ
  subst l' y' z'
  obtain ⟨s₂, o, hs', r⟩ := k v T'.heap hQ T' _ X' rfl (N0.app N1)
  exact ⟨s₂, o, s'.trans hs', r⟩
/-- an instance method of a class that selects itself -/
theorem N.callV (C : Cx G K own nm bytes maxL ret W) {i : Nat} (x : Addr) (argsL : List Value) (hd : decode bytes pc = .ok (.invokevirtual i, 3)) (w1 : (Jvm.Cond.methodLink own i y).before G.a0 G.Z = true) (wd : (Jvm.Cond.declares y).before G.a0 G.Z = true) (ws : (Jvm.Cond.selects y.cls y y).before G.a0 G.Z = true) (w2 : (Jvm.Cond.instanceMethod y).before G.a0 G.Z = true) (w3 : (Jvm.Cond.initialized y.cls).before G.a0 G.Z = true) (w4 : (Jvm.Cond.code y bytes' maxL' ret').before G.a0 G.Z = true)
    (hy : y.cls ≠ "java/lang/invoke/MethodHandle" ∧ y.cls ≠ "java/lang/invoke/VarHandle") (E : Exa G.Z h x y.cls) (M : Con G y bytes' maxL' ret' rm' (.ref x :: argsL).toArray h R') (hlen : ∀ sig, parseMethodDescriptor y.desc = some sig → argsL.length = sig.parameters.length) (hsz : ls.size = maxL)
    (hf : rm'.frames + 1 ≤ rm.frames) (hl : (rest.map fun v => v.category).sum + (maxL' + 11) + rm'.locals ≤ rm.locals) (hc : a + rm'.cells ≤ rm.cells) (hs : b + rm'.slots ≤ rm.slots) (hst : stk = argsL.reverse ++ .ref x :: rest) (hp : pc + 3 = pc')
    (k : ∀ v h', R' v h' → N G K rm Q h' (a + rm'.cells) (b + rm'.slots) pc' ls (v.toList ++ rest)) : N G K rm Q h a b pc ls stk := fun T locs X e N0 => by
  subst hp
  obtain ⟨cq, kq, qa, qb, qc⟩ := isOf C.hZ e E
  obtain ⟨v, _, ⟨T', L', k', n'⟩, -, X', ⟨Lc, ⟨hQ, N1⟩, l', y', z'⟩, s'⟩ := X.virtualBack C.hx (y := y) (z := y) C.ow (mvT C.hZ w1) (mvT C.hZ wd) (notFace_of_selects (args := #[]) (mvT C.hZ ws)) (mvT C.hZ ws) (mvT C.hZ w2) hy (backOf (W := (rest.map fun v => v.category).sum) (Q := fun v h L => R' v h ∧ Fr G.n0 L) (M []) C.hZ w4 w3 hf hl) qa qc (g := mkF K.m pc ls stk) rfl (by rw [C.ml]; exact hsz) (Steps.refl _) (argsL := argsL) (rest := rest) hlen hst (by show 2 * 0 + _ ≤ _; omega) (hb C.by hd) (fun _ _ => ⟨rfl, e, hc, hs⟩)
  dsimp only [Pt.U, Pt.locs, Pt.cells, Pt.slots] at X' l' y' z' s' hQ
  subst l' y' z'
  obtain ⟨s₂, o, hs', r⟩ := k v T'.heap hQ T' _ X' rfl (N0.app N1)
  exact ⟨s₂, o, s'.trans hs', r⟩
/-- a private method -/
theorem N.callP (C : Cx G K own nm bytes maxL ret W) {i : Nat} (x : Addr) (argsL : List Value) (hd : decode bytes pc = .ok (.invokevirtual i, 3)) (w1 : (Jvm.Cond.methodLink own i y).before G.a0 G.Z = true) (wp : (Jvm.Cond.privateMethod y).before G.a0 G.Z = true) (ws : (Jvm.Cond.selects y.cls y y).before G.a0 G.Z = true) (w2 : (Jvm.Cond.instanceMethod y).before G.a0 G.Z = true) (w3 : (Jvm.Cond.initialized y.cls).before G.a0 G.Z = true) (w4 : (Jvm.Cond.code y bytes' maxL' ret').before G.a0 G.Z = true)
    (hy : y.cls ≠ "java/lang/invoke/MethodHandle" ∧ y.cls ≠ "java/lang/invoke/VarHandle") (E : Exa G.Z h x y.cls) (M : Con G y bytes' maxL' ret' rm' (.ref x :: argsL).toArray h R') (hlen : ∀ sig, parseMethodDescriptor y.desc = some sig → argsL.length = sig.parameters.length) (hsz : ls.size = maxL)
    (hf : rm'.frames + 1 ≤ rm.frames) (hl : (rest.map fun v => v.category).sum + (maxL' + 11) + rm'.locals ≤ rm.locals) (hc : a + rm'.cells ≤ rm.cells) (hs : b + rm'.slots ≤ rm.slots) (hst : stk = argsL.reverse ++ .ref x :: rest) (hp : pc + 3 = pc')
    (k : ∀ v h', R' v h' → N G K rm Q h' (a + rm'.cells) (b + rm'.slots) pc' ls (v.toList ++ rest)) : N G K rm Q h a b pc ls stk := fun T locs X e N0 => by
  subst hp
  obtain ⟨cq, qa, qb⟩ := E.cell
  obtain ⟨v, _, ⟨T', L', k', n'⟩, -, X', ⟨Lc, ⟨hQ, N1⟩, l', y', z'⟩, s'⟩ := X.privateBack C.hx (y := y) C.ow (mvT C.hZ w1) (mvT C.hZ w2) (mvT C.hZ ws) (Cond.privateMethod_at (mvP C.hZ wp (args := #[]))) (mvT C.hZ w4) hy (backOf (W := (rest.map fun v => v.category).sum) (Q := fun v h L => R' v h ∧ Fr G.n0 L) (M []) C.hZ w4 w3 hf hl) (g := mkF K.m pc ls stk) rfl (by rw [C.ml]; exact hsz) (Steps.refl _) (a := x) (by rw [e]; exact qa) qb (argsL := argsL) (rest := rest) hlen hst (by show 2 * 0 + _ ≤ _; omega) (hb C.by hd) (fun _ _ => ⟨rfl, e, hc, hs⟩)
  dsimp only [Pt.U, Pt.locs, Pt.cells, Pt.slots] at X' l' y' z' s' hQ
  subst l' y' z'
  obtain ⟨s₂, o, hs', r⟩ := k v T'.heap hQ T' _ X' rfl (N0.app N1)
  exact ⟨s₂, o, s'.trans hs', r⟩
end Calls
end Rules
end Jvm.OwnKit

namespace Jvm.Pilot.@@N@@
open Jvm Jvm.ClassFile Sem Op Lib Jvm.Free Jvm.Stand Jvm.LawKit Jvm.RoadKit Bundle Jvm.OwnKit Jvm.Pilot.@@N@@.Jvm.D
def own_sh (z : Int64) (k : Int32) : Int64 := (z.toUInt64 >>> (k &&& 0x3f).toInt64.toUInt64).toInt64
def own_m1 (z : Int64) : Int64 := (z ^^^ own_sh z 30) * (-4658895280553007687 : Int64)
def own_m2 (z : Int64) : Int64 := (z ^^^ own_sh z 27) * (-7723592293110705685 : Int64)
def own_m3 (z : Int64) : Int64 := z ^^^ own_sh z 31
def own_mix (z : Int64) : Int64 := own_m3 (own_m2 (own_m1 z))
theorem own_sh_bv (z : Int64) {k : Int32} {n : Nat} (h : ((k &&& 0x3f).toInt64.toUInt64.toBitVec % 64#64) = BitVec.ofNat 64 n) (hn : n < 64) : (own_sh z k).toBitVec = z.toBitVec >>> n := by
  show z.toBitVec >>> ((k &&& 0x3f).toInt64.toUInt64.toBitVec % 64#64) = _
  rw [h]
  show z.toBitVec >>> (BitVec.ofNat 64 n).toNat = _
  rw [BitVec.toNat_ofNat, Nat.mod_eq_of_lt (by omega)]
theorem own_s30 (z : Int64) : (own_sh z 30).toBitVec = z.toBitVec >>> 30 := own_sh_bv z (by decide) (by decide)
theorem own_s27 (z : Int64) : (own_sh z 27).toBitVec = z.toBitVec >>> 27 := own_sh_bv z (by decide) (by decide)
theorem own_s31 (z : Int64) : (own_sh z 31).toBitVec = z.toBitVec >>> 31 := own_sh_bv z (by decide) (by decide)
theorem own_xs_inj {n : Nat} (hn : 0 < n) {x y : BitVec 64} (h : x ^^^ x >>> n = y ^^^ y >>> n) : x = y := by
  have e : x ^^^ y = (x ^^^ y) >>> n := by
    rw [BitVec.ushiftRight_xor_distrib]
    have a1 : ∀ p q r : BitVec 64, (p ^^^ q) ^^^ (q ^^^ r) = p ^^^ r := fun p q r => by
      ext i; simp only [BitVec.getElem_xor]; cases p[i] <;> cases q[i] <;> cases r[i] <;> rfl
    have a2 : ∀ q r s : BitVec 64, (r ^^^ s) ^^^ (q ^^^ r) = q ^^^ s := fun q r s => by
      ext i; simp only [BitVec.getElem_xor]; cases s[i] <;> cases q[i] <;> cases r[i] <;> rfl
    rw [← a1 x (x >>> n) y, h, a2]
  have e2 : (x ^^^ y).toNat = (x ^^^ y).toNat / 2 ^ n := by
    have := congrArg BitVec.toNat e
    rwa [BitVec.toNat_ushiftRight, Nat.shiftRight_eq_div_pow] at this
  have e3 : (x ^^^ y).toNat = 0 := by
    rcases Nat.eq_zero_or_pos (x ^^^ y).toNat with q | q
    · exact q
    · have := Nat.div_lt_self q (Nat.one_lt_two_pow (Nat.pos_iff_ne_zero.mp hn))
      omega
  have e4 : x ^^^ y = 0#64 := BitVec.eq_of_toNat_eq (by simpa using e3)
  exact BitVec.xor_eq_zero_iff.mp e4
theorem own_mul_inj (c d : BitVec 64) (hcd : c * d = 1#64) {x y : BitVec 64} (h : x * c = y * c) : x = y := by
  have := congrArg (· * d) h
  simpa [BitVec.mul_assoc, hcd] using this
theorem own_m1_inj {x y : Int64} (h : own_m1 x = own_m1 y) : x = y := by
  have h1 := congrArg Int64.toBitVec h
  simp only [own_m1, Int64.toBitVec_mul, Int64.toBitVec_xor, own_s30] at h1
  exact Int64.toBitVec_inj.mp (own_xs_inj (by decide) (own_mul_inj _ 0x96de1b173f119089#64 (by decide) h1))
theorem own_m2_inj {x y : Int64} (h : own_m2 x = own_m2 y) : x = y := by
  have h1 := congrArg Int64.toBitVec h
  simp only [own_m2, Int64.toBitVec_mul, Int64.toBitVec_xor, own_s27] at h1
  exact Int64.toBitVec_inj.mp (own_xs_inj (by decide) (own_mul_inj _ 0x319642b2d24d8ec3#64 (by decide) h1))
theorem own_m3_inj {x y : Int64} (h : own_m3 x = own_m3 y) : x = y := by
  have h1 := congrArg Int64.toBitVec h
  simp only [own_m3, Int64.toBitVec_xor, own_s31] at h1
  exact Int64.toBitVec_inj.mp (own_xs_inj (by decide) h1)
theorem own_add_inj {a b c : Int64} (h : a + c = b + c) : a = b := by
  apply Int64.toBitVec_inj.mp
  have h1 := congrArg Int64.toBitVec h
  simp only [Int64.toBitVec_add] at h1
  exact (BitVec.add_left_inj c.toBitVec).mp h1
theorem own_mix_inj {a b : Int64} (h : own_mix (a + (-7046029254386353131 : Int64)) = own_mix (b + (-7046029254386353131 : Int64))) : a = b := own_add_inj (own_m1_inj (own_m2_inj (own_m3_inj h)))
def own_bits (s : Int64) : Int64 := own_sh (own_mix s) 1
def own_acc (b : Int32) (z : Int64) : Prop := (z - z % b.toInt64).toInt ≤ ((9223372036854775807 : Int64) - (b - (1 : Int32)).toInt64).toInt
def own_left (s : Int64) : Nat := ((-s.toBitVec) * 0xf1de83e19937733d#64).toNat
theorem own_left0 {s : Int64} (h : own_left s = 0) : s = 0 := by
  apply Int64.toBitVec_inj.mp
  have h1 : (-s.toBitVec) * 0xf1de83e19937733d#64 = 0#64 := BitVec.eq_of_toNat_eq h
  have h2 := own_mul_inj 0xf1de83e19937733d#64 0x9e3779b97f4a7c15#64 (by decide) (x := -s.toBitVec) (y := 0#64) (by rw [h1]; simp)
  have h3 : - -s.toBitVec = -0#64 := by rw [h2]
  rw [BitVec.neg_neg] at h3
  rw [h3]; decide
theorem own_left1 {s : Int64} (h : own_left s ≠ 0) : own_left (s + (-7046029254386353131 : Int64)) < own_left s := by
  have e : (-(s + (-7046029254386353131 : Int64)).toBitVec) * 0xf1de83e19937733d#64 = (-s.toBitVec) * 0xf1de83e19937733d#64 - 1#64 := by
    rw [Int64.toBitVec_add, BitVec.neg_add, BitVec.sub_eq_add_neg, BitVec.add_mul, BitVec.sub_eq_add_neg]
    congr 1
  unfold own_left at *
  rw [e]
  generalize (-s.toBitVec) * 0xf1de83e19937733d#64 = t at *
  have ht := t.isLt
  rw [BitVec.toNat_sub]
  have e1 : (1#64).toNat = 1 := rfl
  rw [e1]
  omega
theorem own_bits_bv (s : Int64) : (own_bits s).toBitVec = (own_mix s).toBitVec >>> 1 := own_sh_bv _ (by decide) (by decide)
theorem own_bits_nn (s : Int64) : 0 ≤ (own_bits s).toInt := by
  show 0 ≤ (own_bits s).toBitVec.toInt
  rw [own_bits_bv, BitVec.toInt_eq_toNat_cond, BitVec.toNat_ushiftRight, Nat.shiftRight_eq_div_pow]
  have := (own_mix s).toBitVec.isLt
  rw [if_pos (by omega)]
  omega
theorem own_bits0 : own_bits 0 = 0 := by decide +kernel
theorem own_i2l (b : Int32) : b.toInt64.toInt = b.toInt := Int32.toInt_toInt64 b
theorem own_rem {z : Int64} (b : Int32) (hz : 0 ≤ z.toInt) : (z % b.toInt64).toInt = z.toInt % b.toInt := by
  rw [Int64.toInt_mod, own_i2l]; exact Int.tmod_eq_emod_of_nonneg hz
theorem own_sub {a b : Int64} (h1 : -9223372036854775808 ≤ a.toInt - b.toInt) (h2 : a.toInt - b.toInt < 9223372036854775808) : (a - b).toInt = a.toInt - b.toInt := by
  rw [Int64.toInt_sub]; exact Int.bmod_eq_of_le (by omega) (by omega)
theorem own_add1 {a b : Int64} (h1 : -9223372036854775808 ≤ a.toInt + b.toInt) (h2 : a.toInt + b.toInt < 9223372036854775808) : (a + b).toInt = a.toInt + b.toInt := by
  rw [Int64.toInt_add]; exact Int.bmod_eq_of_le (by omega) (by omega)
theorem own_bm1 {b : Int32} (h : 1 ≤ b.toInt) : (b - (1 : Int32)).toInt64.toInt = b.toInt - 1 := by
  rw [own_i2l, Int32.toInt_sub]
  have e : (1 : Int32).toInt = 1 := by decide
  have := b.toInt_lt
  rw [e]; exact Int.bmod_eq_of_le (by omega) (by omega)
theorem own_max : (9223372036854775807 : Int64).toInt = 9223372036854775807 := by decide
theorem own_acc_iff {b : Int32} {z : Int64} (hb : 1 ≤ b.toInt) (hz : 0 ≤ z.toInt) : own_acc b z ↔ z.toInt - z.toInt % b.toInt ≤ 9223372036854775807 - (b.toInt - 1) := by
  unfold own_acc
  have h1 := own_rem b hz
  have h2 := Int.emod_nonneg z.toInt (by omega : b.toInt ≠ 0)
  have h3 := Int.emod_lt_of_pos z.toInt (by omega : 0 < b.toInt)
  have h4 := z.toInt_lt
  have h5 := b.toInt_lt
  have h6 : z.toInt % b.toInt ≤ z.toInt := by
    have d1 := Int.mul_ediv_add_emod z.toInt b.toInt
    have d2 := Int.mul_nonneg (by omega : 0 ≤ b.toInt) (Int.ediv_nonneg hz (by omega : 0 ≤ b.toInt))
    omega
  have h7 := own_bm1 hb
  have h8 := own_max
  rw [own_sub (by omega) (by omega), own_sub (by omega) (by omega), h1, h7, h8]
theorem own_acc0 {b : Int32} (hb : 1 ≤ b.toInt) : own_acc b 0 := by
  have e : (0 : Int64).toInt = 0 := by decide
  have h5 := b.toInt_lt
  rw [own_acc_iff hb (by omega), e, Int.zero_emod]
  omega
theorem own_lim {b : Int32} {z : Int64} (hb : 1 ≤ b.toInt) (hz : 0 ≤ z.toInt) : z.toInt ≤ ((9223372036854775807 : Int64) - (((9223372036854775807 : Int64) % b.toInt64) + (1 : Int64)) % b.toInt64).toInt ↔ own_acc b z := by
  rw [own_acc_iff hb hz]
  have h5 := b.toInt_lt
  have h8 := own_max
  have e1 : (1 : Int64).toInt = 1 := by decide
  have a1 := own_rem (z := (9223372036854775807 : Int64)) b (by omega)
  have a2 := Int.emod_nonneg (9223372036854775807 : Int64).toInt (by omega : b.toInt ≠ 0)
  have a3 := Int.emod_lt_of_pos (9223372036854775807 : Int64).toInt (by omega : 0 < b.toInt)
  have a4 : (((9223372036854775807 : Int64) % b.toInt64) + (1 : Int64)).toInt = (9223372036854775807 : Int64).toInt % b.toInt + 1 := by
    rw [own_add1 (by omega) (by omega), a1, e1]
  have a5 := own_rem (z := ((9223372036854775807 : Int64) % b.toInt64) + (1 : Int64)) b (by omega)
  rw [a4, Int.emod_add_emod, h8] at a5
  have a6 := Int.emod_nonneg (9223372036854775807 + 1 : Int) (by omega : b.toInt ≠ 0)
  have a7 := Int.emod_lt_of_pos (9223372036854775807 + 1 : Int) (by omega : 0 < b.toInt)
  rw [own_sub (by omega) (by omega), a5, h8]
  generalize z.toInt = Z at *
  generalize b.toInt = B at *
  have d1 := Int.mul_ediv_add_emod Z B
  have d2 := Int.mul_ediv_add_emod (9223372036854775807 + 1) B
  have d3 := Int.emod_nonneg Z (by omega : B ≠ 0)
  have d4 := Int.emod_lt_of_pos Z (by omega : 0 < B)
  generalize Z % B = R1 at *
  generalize (9223372036854775807 + 1 : Int) % B = R2 at *
  generalize Z / B = q at *
  generalize (9223372036854775807 + 1 : Int) / B = Q at *
  constructor
  · intro h
    have h1 : B * q < B * Q := by omega
    have h2 : q < Q := Int.lt_of_mul_lt_mul_left h1 (by omega)
    have h3 : B * (q + 1) ≤ B * Q := Int.mul_le_mul_of_nonneg_left (by omega) (by omega)
    rw [Int.mul_add] at h3
    omega
  · intro h
    have h1 : B * (q + 1) < B * (Q + 1) := by rw [Int.mul_add, Int.mul_add]; omega
    have h2 : q + 1 < Q + 1 := Int.lt_of_mul_lt_mul_left h1 (by omega)
    have h3 : B * (q + 1) ≤ B * Q := Int.mul_le_mul_of_nonneg_left (by omega) (by omega)
    rw [Int.mul_add] at h3
    omega
theorem own_r {b : Int32} {z : Int64} (hb : 1 ≤ b.toInt) (hz : 0 ≤ z.toInt) : (z % b.toInt64).toInt32.toInt = z.toInt % b.toInt ∧ (z % b.toInt64).toInt32.toInt64 = z % b.toInt64 := by
  have h1 := own_rem b hz
  have h2 := Int.emod_nonneg z.toInt (by omega : b.toInt ≠ 0)
  have h3 := Int.emod_lt_of_pos z.toInt (by omega : 0 < b.toInt)
  have h5 := b.toInt_lt
  have e : (z % b.toInt64).toInt32.toInt = z.toInt % b.toInt := by
    rw [Int64.toInt_toInt32, h1]; exact Int.bmod_eq_of_le (by omega) (by omega)
  exact ⟨e, Int64.toInt_inj.mp (by rw [own_i2l, e, h1])⟩
theorem own_nz {b : Int32} (hb : 1 ≤ b.toInt) : ¬ b.toInt64 = 0 := fun q => by
  have := congrArg Int64.toInt q
  have e : (0 : Int64).toInt = 0 := by decide
  rw [own_i2l] at this
  omega
theorem own_2g (s : Int64) : s + (-7046029254386353131 : Int64) + (-7046029254386353131 : Int64) = s + (2 : Int64) * (-7046029254386353131 : Int64) := by rw [Int64.add_assoc]; rfl
def own_P (G : Gx) (h : Heap) (x : Addr) (sd : Int64) (b : Int32) (s : Int64) (v : Option Value) (h' : Heap) : Prop :=
  ∃ (r : Int32) (s' : Int64), v = some (.int r) ∧ Keep h h' [x] ∧ Fld G.Z h' x "com/example/due_share/dueshare/Draws" "seed" "J" (.long sd) ∧ Fld G.Z h' x "com/example/due_share/dueshare/Draws" "state" "J" (.long s') ∧ 0 ≤ r.toInt ∧ r.toInt < b.toInt ∧ (own_acc b (own_bits s) → r.toInt64 = own_bits s % b.toInt64 ∧ s' = s) ∧ (¬ own_acc b (own_bits s) → own_acc b (own_bits (s + (-7046029254386353131 : Int64))) → r.toInt64 = own_bits (s + (-7046029254386353131 : Int64)) % b.toInt64 ∧ s' = s + (-7046029254386353131 : Int64))
theorem own_ret {b : Int32} {s : Int64} (hb : 1 ≤ b.toInt) : 0 ≤ (own_bits s % b.toInt64).toInt32.toInt ∧ (own_bits s % b.toInt64).toInt32.toInt < b.toInt ∧ (own_bits s % b.toInt64).toInt32.toInt64 = own_bits s % b.toInt64 := by
  obtain ⟨h1, h2⟩ := own_r (z := own_bits s) hb (own_bits_nn s)
  have h3 := Int.emod_nonneg (own_bits s).toInt (by omega : b.toInt ≠ 0)
  have h4 := Int.emod_lt_of_pos (own_bits s).toInt (by omega : 0 < b.toInt)
  exact ⟨by omega, by omega, h2⟩
theorem own_Pst {G : Gx} {h : Heap} {x : Addr} {sd : Int64} {b : Int32} {s : Int64} {v : Option Value} {h' : Heap} (hna : ¬ own_acc b (own_bits s)) (hP : own_P G h x sd b (s + (-7046029254386353131 : Int64)) v h') : own_P G h x sd b s v h' := by
  obtain ⟨r, s', e1, e2, e3, e4, e5, e6, e7, e8⟩ := hP
  exact ⟨r, s', e1, e2, e3, e4, e5, e6, fun q => absurd q hna, fun _ q => e7 q⟩
theorem pn0 : plainName "com/example/due_share/dueshare/DrawsBelowPinLaw" = true := by first | (simp [plainName, overriddenIn]; done) | decide +kernel
theorem pl1 : plainFor (⟨"java/lang/Math", "max", "(II)I"⟩ : MethodName) = true := Jvm.Free.JP.mathPlain rfl (by decide +kernel)
theorem pn2 : plainName "com/example/due_share/dueshare/Draws" = true := by first | (simp [plainName, overriddenIn]; done) | decide +kernel
theorem pn4 : plainName "com/example/due_share/dueshare/Draws" = true := by first | (simp [plainName, overriddenIn]; done) | decide +kernel
theorem pn7 : plainName "com/example/due_share/dueshare/Draws" = true := by first | (simp [plainName, overriddenIn]; done) | decide +kernel
theorem pn6 : plainName "com/example/due_share/dueshare/Draws" = true := by first | (simp [plainName, overriddenIn]; done) | decide +kernel
theorem pn5 : plainName "com/example/due_share/dueshare/Draws" = true := by first | (simp [plainName, overriddenIn]; done) | decide +kernel
theorem pd__II_I : parseMethodDescriptor "(II)I" = some ⟨[.int, .int], some .int⟩ := by decide +kernel
theorem pd__JJ_V : parseMethodDescriptor "(JJ)V" = some ⟨[.long, .long], none⟩ := by decide +kernel
theorem pd___J : parseMethodDescriptor "()J" = some ⟨[], some .long⟩ := by decide +kernel
theorem pd__I_I : parseMethodDescriptor "(I)I" = some ⟨[.int], some .int⟩ := by decide +kernel
theorem d1_0 : decode jdk_29_method_65_code 0 = .ok (.iload_n 0, 1) := by decide +kernel
theorem d1_1 : decode jdk_29_method_65_code 1 = .ok (.iload_n 1, 1) := by decide +kernel
theorem d1_2 : decode jdk_29_method_65_code 2 = .ok (.if_icmp .lt 7, 3) := by decide +kernel
theorem d1_5 : decode jdk_29_method_65_code 5 = .ok (.iload_n 0, 1) := by decide +kernel
theorem d1_6 : decode jdk_29_method_65_code 6 = .ok (.goto 4, 3) := by decide +kernel
theorem d1_9 : decode jdk_29_method_65_code 9 = .ok (.iload_n 1, 1) := by decide +kernel
theorem d1_10 : decode jdk_29_method_65_code 10 = .ok (.ireturn, 1) := by decide +kernel
theorem d2_0 : decode prog_6_method_1_code 0 = .ok (.aload_n 0, 1) := by decide +kernel
theorem d2_1 : decode prog_6_method_1_code 1 = .ok (.invokespecial 1, 3) := by decide +kernel
theorem d2_4 : decode prog_6_method_1_code 4 = .ok (.aload_n 0, 1) := by decide +kernel
theorem d2_5 : decode prog_6_method_1_code 5 = .ok (.lload_n 1, 1) := by decide +kernel
theorem d2_6 : decode prog_6_method_1_code 6 = .ok (.putfield 7, 3) := by decide +kernel
theorem d2_9 : decode prog_6_method_1_code 9 = .ok (.aload_n 0, 1) := by decide +kernel
theorem d2_10 : decode prog_6_method_1_code 10 = .ok (.lload_n 3, 1) := by decide +kernel
theorem d2_11 : decode prog_6_method_1_code 11 = .ok (.putfield 13, 3) := by decide +kernel
theorem d2_14 : decode prog_6_method_1_code 14 = .ok (.return_, 1) := by decide +kernel
theorem d4_0 : decode prog_6_method_6_code 0 = .ok (.aload_n 0, 1) := by decide +kernel
theorem d4_1 : decode prog_6_method_6_code 1 = .ok (.dup, 1) := by decide +kernel
theorem d4_2 : decode prog_6_method_6_code 2 = .ok (.getfield 13, 3) := by decide +kernel
theorem d4_5 : decode prog_6_method_6_code 5 = .ok (.ldc2_w 36, 3) := by decide +kernel
theorem d4_8 : decode prog_6_method_6_code 8 = .ok (.ladd, 1) := by decide +kernel
theorem d4_9 : decode prog_6_method_6_code 9 = .ok (.putfield 13, 3) := by decide +kernel
theorem d4_12 : decode prog_6_method_6_code 12 = .ok (.aload_n 0, 1) := by decide +kernel
theorem d4_13 : decode prog_6_method_6_code 13 = .ok (.getfield 13, 3) := by decide +kernel
theorem d4_16 : decode prog_6_method_6_code 16 = .ok (.lstore_n 1, 1) := by decide +kernel
theorem d4_17 : decode prog_6_method_6_code 17 = .ok (.lload_n 1, 1) := by decide +kernel
theorem d4_18 : decode prog_6_method_6_code 18 = .ok (.lload_n 1, 1) := by decide +kernel
theorem d4_19 : decode prog_6_method_6_code 19 = .ok (.bipush 30, 2) := by decide +kernel
theorem d4_21 : decode prog_6_method_6_code 21 = .ok (.lushr, 1) := by decide +kernel
theorem d4_22 : decode prog_6_method_6_code 22 = .ok (.lxor, 1) := by decide +kernel
theorem d4_23 : decode prog_6_method_6_code 23 = .ok (.ldc2_w 38, 3) := by decide +kernel
theorem d4_26 : decode prog_6_method_6_code 26 = .ok (.lmul, 1) := by decide +kernel
theorem d4_27 : decode prog_6_method_6_code 27 = .ok (.lstore_n 1, 1) := by decide +kernel
theorem d4_28 : decode prog_6_method_6_code 28 = .ok (.lload_n 1, 1) := by decide +kernel
theorem d4_29 : decode prog_6_method_6_code 29 = .ok (.lload_n 1, 1) := by decide +kernel
theorem d4_30 : decode prog_6_method_6_code 30 = .ok (.bipush 27, 2) := by decide +kernel
theorem d4_32 : decode prog_6_method_6_code 32 = .ok (.lushr, 1) := by decide +kernel
theorem d4_33 : decode prog_6_method_6_code 33 = .ok (.lxor, 1) := by decide +kernel
theorem d4_34 : decode prog_6_method_6_code 34 = .ok (.ldc2_w 40, 3) := by decide +kernel
theorem d4_37 : decode prog_6_method_6_code 37 = .ok (.lmul, 1) := by decide +kernel
theorem d4_38 : decode prog_6_method_6_code 38 = .ok (.lstore_n 1, 1) := by decide +kernel
theorem d4_39 : decode prog_6_method_6_code 39 = .ok (.lload_n 1, 1) := by decide +kernel
theorem d4_40 : decode prog_6_method_6_code 40 = .ok (.lload_n 1, 1) := by decide +kernel
theorem d4_41 : decode prog_6_method_6_code 41 = .ok (.bipush 31, 2) := by decide +kernel
theorem d4_43 : decode prog_6_method_6_code 43 = .ok (.lushr, 1) := by decide +kernel
theorem d4_44 : decode prog_6_method_6_code 44 = .ok (.lxor, 1) := by decide +kernel
theorem d4_45 : decode prog_6_method_6_code 45 = .ok (.lreturn, 1) := by decide +kernel
theorem d7_0 : decode prog_6_method_4_code 0 = .ok (.aload_n 0, 1) := by decide +kernel
theorem d7_1 : decode prog_6_method_4_code 1 = .ok (.getfield 13, 3) := by decide +kernel
theorem d7_4 : decode prog_6_method_4_code 4 = .ok (.lreturn, 1) := by decide +kernel
theorem d6_0 : decode prog_6_method_3_code 0 = .ok (.aload_n 0, 1) := by decide +kernel
theorem d6_1 : decode prog_6_method_3_code 1 = .ok (.getfield 7, 3) := by decide +kernel
theorem d6_4 : decode prog_6_method_3_code 4 = .ok (.lreturn, 1) := by decide +kernel
theorem d5_0 : decode prog_6_method_5_code 0 = .ok (.iload_n 1, 1) := by decide +kernel
theorem d5_1 : decode prog_6_method_5_code 1 = .ok (.iconst 1, 1) := by decide +kernel
theorem d5_2 : decode prog_6_method_5_code 2 = .ok (.if_icmp .ge 17, 3) := by decide +kernel
theorem d5_19 : decode prog_6_method_5_code 19 = .ok (.aload_n 0, 1) := by decide +kernel
theorem d5_20 : decode prog_6_method_5_code 20 = .ok (.invokevirtual 28, 3) := by decide +kernel
theorem d5_23 : decode prog_6_method_5_code 23 = .ok (.iconst 1, 1) := by decide +kernel
theorem d5_24 : decode prog_6_method_5_code 24 = .ok (.lushr, 1) := by decide +kernel
theorem d5_25 : decode prog_6_method_5_code 25 = .ok (.lstore_n 2, 1) := by decide +kernel
theorem d5_26 : decode prog_6_method_5_code 26 = .ok (.lload_n 2, 1) := by decide +kernel
theorem d5_27 : decode prog_6_method_5_code 27 = .ok (.iload_n 1, 1) := by decide +kernel
theorem d5_28 : decode prog_6_method_5_code 28 = .ok (.i2l, 1) := by decide +kernel
theorem d5_29 : decode prog_6_method_5_code 29 = .ok (.lrem, 1) := by decide +kernel
theorem d5_30 : decode prog_6_method_5_code 30 = .ok (.lstore 4, 2) := by decide +kernel
theorem d5_32 : decode prog_6_method_5_code 32 = .ok (.lload_n 2, 1) := by decide +kernel
theorem d5_33 : decode prog_6_method_5_code 33 = .ok (.lload 4, 2) := by decide +kernel
theorem d5_35 : decode prog_6_method_5_code 35 = .ok (.lsub, 1) := by decide +kernel
theorem d5_36 : decode prog_6_method_5_code 36 = .ok (.ldc2_w 34, 3) := by decide +kernel
theorem d5_39 : decode prog_6_method_5_code 39 = .ok (.iload_n 1, 1) := by decide +kernel
theorem d5_40 : decode prog_6_method_5_code 40 = .ok (.iconst 1, 1) := by decide +kernel
theorem d5_41 : decode prog_6_method_5_code 41 = .ok (.isub, 1) := by decide +kernel
theorem d5_42 : decode prog_6_method_5_code 42 = .ok (.i2l, 1) := by decide +kernel
theorem d5_43 : decode prog_6_method_5_code 43 = .ok (.lsub, 1) := by decide +kernel
theorem d5_44 : decode prog_6_method_5_code 44 = .ok (.lcmp, 1) := by decide +kernel
theorem d5_45 : decode prog_6_method_5_code 45 = .ok (.ifCond .le 19, 3) := by decide +kernel
theorem d5_48 : decode prog_6_method_5_code 48 = .ok (.aload_n 0, 1) := by decide +kernel
theorem d5_49 : decode prog_6_method_5_code 49 = .ok (.invokevirtual 28, 3) := by decide +kernel
theorem d5_52 : decode prog_6_method_5_code 52 = .ok (.iconst 1, 1) := by decide +kernel
theorem d5_53 : decode prog_6_method_5_code 53 = .ok (.lushr, 1) := by decide +kernel
theorem d5_54 : decode prog_6_method_5_code 54 = .ok (.lstore_n 2, 1) := by decide +kernel
theorem d5_55 : decode prog_6_method_5_code 55 = .ok (.lload_n 2, 1) := by decide +kernel
theorem d5_56 : decode prog_6_method_5_code 56 = .ok (.iload_n 1, 1) := by decide +kernel
theorem d5_57 : decode prog_6_method_5_code 57 = .ok (.i2l, 1) := by decide +kernel
theorem d5_58 : decode prog_6_method_5_code 58 = .ok (.lrem, 1) := by decide +kernel
theorem d5_59 : decode prog_6_method_5_code 59 = .ok (.lstore 4, 2) := by decide +kernel
theorem d5_61 : decode prog_6_method_5_code 61 = .ok (.goto (-29), 3) := by decide +kernel
theorem d5_64 : decode prog_6_method_5_code 64 = .ok (.lload 4, 2) := by decide +kernel
theorem d5_66 : decode prog_6_method_5_code 66 = .ok (.l2i, 1) := by decide +kernel
theorem d5_67 : decode prog_6_method_5_code 67 = .ok (.ireturn, 1) := by decide +kernel
theorem ef1 (m : MethodId) (x0 : Int32) (x1 : Int32) : entryFrame m #[(.int x0), (.int x1)] 2 = mkF m 0 #[.val (.int x0), .val (.int x1)] [] := by first | (simp [entryFrame, mkF, argsToLocals, Value.category]; done) | rfl
theorem ef2 (m : MethodId) (x0 : Addr) (x1 : Int64) (x2 : Int64) : entryFrame m #[(.ref x0), (.long x1), (.long x2)] 5 = mkF m 0 #[.val (.ref x0), .val (.long x1), .second, .val (.long x2), .second] [] := by first | (simp [entryFrame, mkF, argsToLocals, Value.category]; done) | rfl
theorem ef4 (m : MethodId) (x0 : Addr) : entryFrame m #[(.ref x0)] 3 = mkF m 0 #[.val (.ref x0), .unset, .unset] [] := by first | (simp [entryFrame, mkF, argsToLocals, Value.category]; done) | rfl
theorem ef7 (m : MethodId) (x0 : Addr) : entryFrame m #[(.ref x0)] 1 = mkF m 0 #[.val (.ref x0)] [] := by first | (simp [entryFrame, mkF, argsToLocals, Value.category]; done) | rfl
theorem ef6 (m : MethodId) (x0 : Addr) : entryFrame m #[(.ref x0)] 1 = mkF m 0 #[.val (.ref x0)] [] := by first | (simp [entryFrame, mkF, argsToLocals, Value.category]; done) | rfl
theorem ef5 (m : MethodId) (x0 : Addr) (x1 : Int32) : entryFrame m #[(.ref x0), (.int x1)] 6 = mkF m 0 #[.val (.ref x0), .val (.int x1), .unset, .unset, .unset, .unset] [] := by first | (simp [entryFrame, mkF, argsToLocals, Value.category]; done) | rfl
theorem ef0 (m : MethodId) (x0 : Int64) (x1 : Int64) (x2 : Int32) : entryFrame m #[(.long x0), (.long x1), (.int x2)] maxLocals = mkF m 0 #[.val (.long x0), .second, .val (.long x1), .second, .val (.int x2), .unset, .unset, .unset, .unset, .unset, .unset, .unset, .unset, .unset, .unset, .unset, .unset, .unset, .unset, .unset] [] := by first | (simp [entryFrame, mkF, argsToLocals, Value.category, maxLocals]; done) | rfl
def rm1 : Room := { frames := 0, cells := 0, slots := 0, locals := 0 }
def rm2 : Room := { frames := 1, cells := 0, slots := 0, locals := 12 }
def rm4 : Room := { frames := 0, cells := 0, slots := 0, locals := 0 }
def rm7 : Room := { frames := 0, cells := 0, slots := 0, locals := 0 }
def rm6 : Room := { frames := 0, cells := 0, slots := 0, locals := 0 }
def rm5 : Room := { frames := 1, cells := 0, slots := 0, locals := 20 }
set_option maxRecDepth 65536 in
set_option maxHeartbeats 40000000 in
theorem con1 (G : Gx) (hw : ∀ d ∈ tables_1, d.before G.a0 G.Z = true) (p r : Int32) (h : Heap) :
    Con G (⟨"java/lang/Math", "max", "(II)I"⟩ : MethodName) jdk_29_method_65_code 2 (some .int) rm1 #[(.int p), (.int r)] h (fun v h' => ∃ z : Int32, v = some (.int z) ∧ h = h' ∧ p.toInt ≤ z.toInt) := by
  refine Con.of (W := tables_1) pl1 hw (fun mm => ef1 mm p r) (fun K C => ?_)
  have C : Cx G K "java/lang/Math" "max" jdk_29_method_65_code 2 (some .int) tables_1 := C
  generalize hQ : (fun v h' => ∃ z : Int32, v = some (.int z) ∧ h = h' ∧ p.toInt ≤ z.toInt : Option Value → Heap → Prop) = Q
  refine N.iloadN C (pc' := 1) d1_0 rfl rfl ?_
  refine N.iloadN C (pc' := 2) d1_1 rfl rfl ?_
  refine N.icmp C (pt := 9) (pf := 5) d1_2 rfl rfl (fun (hc2 : p.toInt < r.toInt) => ?_) (fun (hc2 : r.toInt ≤ p.toInt) => ?_)
  · refine N.iloadN C (pc' := 10) d1_9 rfl rfl ?_
    exact N.retI C d1_10 (by decide) (by decide) (by subst hQ; exact ⟨_, rfl, rfl, by omega⟩)
  · refine N.iloadN C (pc' := 6) d1_5 rfl rfl ?_
    refine N.goto C (pc' := 10) d1_6 rfl ?_
    exact N.retI C d1_10 (by decide) (by decide) (by subst hQ; exact ⟨_, rfl, rfl, by omega⟩)
set_option maxRecDepth 65536 in
set_option maxHeartbeats 40000000 in
theorem con2 (G : Gx) (hw : ∀ d ∈ tables_1, d.before G.a0 G.Z = true) (x : Addr) (sd st : Int64) (o1 o2 : Value) (h : Heap) (Z0 : G.n0 ≤ h.size) (g_x : G.n0 ≤ x) (E_x : Exa G.Z h x "com/example/due_share/dueshare/Draws") (F_x_seed : Fld G.Z h x "com/example/due_share/dueshare/Draws" "seed" "J" o1) (F_x_state : Fld G.Z h x "com/example/due_share/dueshare/Draws" "state" "J" o2) :
    Con G (⟨"com/example/due_share/dueshare/Draws", "<init>", "(JJ)V"⟩ : MethodName) prog_6_method_1_code 5 none rm2 #[(.ref x), (.long sd), (.long st)] h (fun v h' => v = none ∧ Keep h h' [x] ∧ Fld G.Z h' x "com/example/due_share/dueshare/Draws" "seed" "J" (.long sd) ∧ Fld G.Z h' x "com/example/due_share/dueshare/Draws" "state" "J" (.long st)) := by
  refine Con.of (W := tables_1) (plainFor_of_name pn2) hw (fun mm => ef2 mm x sd st) (fun K C => ?_)
  have C : Cx G K "com/example/due_share/dueshare/Draws" "<init>" prog_6_method_1_code 5 none tables_1 := C
  generalize hQ : (fun v h' => v = none ∧ Keep h h' [x] ∧ Fld G.Z h' x "com/example/due_share/dueshare/Draws" "seed" "J" (.long sd) ∧ Fld G.Z h' x "com/example/due_share/dueshare/Draws" "state" "J" (.long st) : Option Value → Heap → Prop) = Q
  have K0 : Keep h h [x] := Keep.refl _ _
  refine N.aloadN C (pc' := 1) d2_0 rfl rfl rfl ?_
  refine N.initO C (pc' := 4) d2_1 (C.w (i := 11) rfl) (C.w (i := 12) rfl) (C.w (i := 13) rfl) rfl (by decide) (show 0 + 12 ≤ _ from by decide) rfl ?_
  refine N.aloadN C (pc' := 5) d2_4 rfl rfl rfl ?_
  refine N.lloadN C (pc' := 6) d2_5 rfl rfl ?_
  refine N.putF C (pc' := 9) d2_6 (C.w (i := 14) rfl) F_x_seed E_x (Or.inr ⟨(C.w (i := 15) rfl), rfl, rfl⟩) (C.w (i := 6) rfl) (ty := .long) (by decide) rfl rfl g_x rfl (fun h6_1 W6 => ?_)
  have Z0 : G.n0 ≤ _ := (Wr.size W6).symm ▸ Z0
  have F_x_seed := F_x_seed.same W6
  have F_x_state := F_x_state.other W6 (Or.inr (slot_ne (Or.inl (C.w (i := 17) rfl)) (Or.inr (C.w (i := 15) rfl)) (by decide) (t := .long) (t' := .long) (by decide) (by decide)))
  have E_x := E_x.wr W6
  have K0 := K0.wr W6 (Or.inl (List.mem_of_getElem? (i := 0) rfl))
  refine N.aloadN C (pc' := 10) d2_9 rfl rfl rfl ?_
  refine N.lloadN C (pc' := 11) d2_10 rfl rfl ?_
  refine N.putF C (pc' := 14) d2_11 (C.w (i := 16) rfl) F_x_state E_x (Or.inl (C.w (i := 17) rfl)) (C.w (i := 6) rfl) (ty := .long) (by decide) rfl rfl g_x rfl (fun h11_2 W11 => ?_)
  have Z0 : G.n0 ≤ _ := (Wr.size W11).symm ▸ Z0
  have F_x_seed := F_x_seed.other W11 (Or.inr (slot_ne (Or.inr (C.w (i := 15) rfl)) (Or.inl (C.w (i := 17) rfl)) (by decide) (t := .long) (t' := .long) (by decide) (by decide)))
  have F_x_state := F_x_state.same W11
  have E_x := E_x.wr W11
  have K0 := K0.wr W11 (Or.inl (List.mem_of_getElem? (i := 0) rfl))
  exact N.ret0 C rfl d2_14 (by decide) (by decide) (by subst hQ; exact ⟨rfl, K0, F_x_seed, F_x_state⟩)
set_option maxRecDepth 65536 in
set_option maxHeartbeats 40000000 in
theorem con4 (G : Gx) (hw : ∀ d ∈ tables_1, d.before G.a0 G.Z = true) (x : Addr) (sd st : Int64) (h : Heap) (Z0 : G.n0 ≤ h.size) (g_x : G.n0 ≤ x) (E_x : Exa G.Z h x "com/example/due_share/dueshare/Draws") (F_x_seed : Fld G.Z h x "com/example/due_share/dueshare/Draws" "seed" "J" (.long sd)) (F_x_state : Fld G.Z h x "com/example/due_share/dueshare/Draws" "state" "J" (.long st)) :
    Con G (⟨"com/example/due_share/dueshare/Draws", "next", "()J"⟩ : MethodName) prog_6_method_6_code 3 (some .long) rm4 #[(.ref x)] h (fun v h' => v = some (.long (own_mix (st + (-7046029254386353131 : Int64)))) ∧ Keep h h' [x] ∧ Fld G.Z h' x "com/example/due_share/dueshare/Draws" "seed" "J" (.long sd) ∧ Fld G.Z h' x "com/example/due_share/dueshare/Draws" "state" "J" (.long (st + (-7046029254386353131 : Int64)))) := by
  refine Con.of (W := tables_1) (plainFor_of_name pn4) hw (fun mm => ef4 mm x) (fun K C => ?_)
  have C : Cx G K "com/example/due_share/dueshare/Draws" "next" prog_6_method_6_code 3 (some .long) tables_1 := C
  generalize hQ : (fun v h' => v = some (.long (own_mix (st + (-7046029254386353131 : Int64)))) ∧ Keep h h' [x] ∧ Fld G.Z h' x "com/example/due_share/dueshare/Draws" "seed" "J" (.long sd) ∧ Fld G.Z h' x "com/example/due_share/dueshare/Draws" "state" "J" (.long (st + (-7046029254386353131 : Int64))) : Option Value → Heap → Prop) = Q
  have K0 : Keep h h [x] := Keep.refl _ _
  refine N.aloadN C (pc' := 1) d4_0 rfl rfl rfl ?_
  refine N.dup C (pc' := 2) d4_1 rfl rfl ?_
  refine N.getF C (pc' := 5) d4_2 (C.w (i := 16) rfl) F_x_state rfl ?_
  refine N.ldcL C (pc' := 8) (v := -7046029254386353131) d4_5 (C.w (i := 23) rfl) rfl ?_
  refine N.ladd C (pc' := 9) d4_8 rfl ?_
  refine N.putF C (pc' := 12) d4_9 (C.w (i := 16) rfl) F_x_state E_x (Or.inl (C.w (i := 17) rfl)) (C.w (i := 6) rfl) (ty := .long) (by decide) rfl rfl g_x rfl (fun h9_1 W9 => ?_)
  have Z0 : G.n0 ≤ _ := (Wr.size W9).symm ▸ Z0
  have F_x_seed := F_x_seed.other W9 (Or.inr (slot_ne (Or.inr (C.w (i := 15) rfl)) (Or.inl (C.w (i := 17) rfl)) (by decide) (t := .long) (t' := .long) (by decide) (by decide)))
  have F_x_state := F_x_state.same W9
  have E_x := E_x.wr W9
  have K0 := K0.wr W9 (Or.inl (List.mem_of_getElem? (i := 0) rfl))
  refine N.aloadN C (pc' := 13) d4_12 rfl rfl rfl ?_
  refine N.getF C (pc' := 16) d4_13 (C.w (i := 16) rfl) F_x_state rfl ?_
  refine N.lstoreN C (pc' := 17) (ls' := #[.val (.ref x), .val (.long (st + (-7046029254386353131 : Int64))), .second]) d4_16 rfl rfl ?_
  refine N.lloadN C (pc' := 18) d4_17 rfl rfl ?_
  refine N.lloadN C (pc' := 19) d4_18 rfl rfl ?_
  refine N.bipush C (pc' := 21) (z := 30) d4_19 rfl rfl ?_
  refine N.lushr C (pc' := 22) d4_21 rfl ?_
  refine N.lxor C (pc' := 23) d4_22 rfl ?_
  refine N.ldcL C (pc' := 26) (v := -4658895280553007687) d4_23 (C.w (i := 24) rfl) rfl ?_
  refine N.lmul C (pc' := 27) d4_26 rfl ?_
  refine N.lstoreN C (pc' := 28) (ls' := #[.val (.ref x), .val (.long (((st + (-7046029254386353131 : Int64)) ^^^ (((st + (-7046029254386353131 : Int64)).toUInt64 >>> ((30 : Int32) &&& 0x3f).toInt64.toUInt64).toInt64)) * (-4658895280553007687 : Int64))), .second]) d4_27 rfl rfl ?_
  refine N.lloadN C (pc' := 29) d4_28 rfl rfl ?_
  refine N.lloadN C (pc' := 30) d4_29 rfl rfl ?_
  refine N.bipush C (pc' := 32) (z := 27) d4_30 rfl rfl ?_
  refine N.lushr C (pc' := 33) d4_32 rfl ?_
  refine N.lxor C (pc' := 34) d4_33 rfl ?_
  refine N.ldcL C (pc' := 37) (v := -7723592293110705685) d4_34 (C.w (i := 25) rfl) rfl ?_
  refine N.lmul C (pc' := 38) d4_37 rfl ?_
  refine N.lstoreN C (pc' := 39) (ls' := #[.val (.ref x), .val (.long (((((st + (-7046029254386353131 : Int64)) ^^^ (((st + (-7046029254386353131 : Int64)).toUInt64 >>> ((30 : Int32) &&& 0x3f).toInt64.toUInt64).toInt64)) * (-4658895280553007687 : Int64)) ^^^ (((((st + (-7046029254386353131 : Int64)) ^^^ (((st + (-7046029254386353131 : Int64)).toUInt64 >>> ((30 : Int32) &&& 0x3f).toInt64.toUInt64).toInt64)) * (-4658895280553007687 : Int64)).toUInt64 >>> ((27 : Int32) &&& 0x3f).toInt64.toUInt64).toInt64)) * (-7723592293110705685 : Int64))), .second]) d4_38 rfl rfl ?_
  refine N.lloadN C (pc' := 40) d4_39 rfl rfl ?_
  refine N.lloadN C (pc' := 41) d4_40 rfl rfl ?_
  refine N.bipush C (pc' := 43) (z := 31) d4_41 rfl rfl ?_
  refine N.lushr C (pc' := 44) d4_43 rfl ?_
  refine N.lxor C (pc' := 45) d4_44 rfl ?_
  exact N.retL C d4_45 (by decide) (by decide) (by subst hQ; exact ⟨rfl, K0, F_x_seed, F_x_state⟩)
set_option maxRecDepth 65536 in
set_option maxHeartbeats 40000000 in
theorem con7 (G : Gx) (hw : ∀ d ∈ tables_1, d.before G.a0 G.Z = true) (x : Addr) (z : Int64) (h : Heap) (F_x_state : Fld G.Z h x "com/example/due_share/dueshare/Draws" "state" "J" (.long z)) :
    Con G (⟨"com/example/due_share/dueshare/Draws", "state", "()J"⟩ : MethodName) prog_6_method_4_code 1 (some .long) rm7 #[(.ref x)] h (fun v h' => v = some (.long z) ∧ h = h') := by
  refine Con.of (W := tables_1) (plainFor_of_name pn7) hw (fun mm => ef7 mm x) (fun K C => ?_)
  have C : Cx G K "com/example/due_share/dueshare/Draws" "state" prog_6_method_4_code 1 (some .long) tables_1 := C
  generalize hQ : (fun v h' => v = some (.long z) ∧ h = h' : Option Value → Heap → Prop) = Q
  refine N.aloadN C (pc' := 1) d7_0 rfl rfl rfl ?_
  refine N.getF C (pc' := 4) d7_1 (C.w (i := 16) rfl) F_x_state rfl ?_
  exact N.retL C d7_4 (by decide) (by decide) (by subst hQ; exact ⟨rfl, rfl⟩)
set_option maxRecDepth 65536 in
set_option maxHeartbeats 40000000 in
theorem con6 (G : Gx) (hw : ∀ d ∈ tables_1, d.before G.a0 G.Z = true) (x : Addr) (z : Int64) (h : Heap) (F_x_seed : Fld G.Z h x "com/example/due_share/dueshare/Draws" "seed" "J" (.long z)) :
    Con G (⟨"com/example/due_share/dueshare/Draws", "seed", "()J"⟩ : MethodName) prog_6_method_3_code 1 (some .long) rm6 #[(.ref x)] h (fun v h' => v = some (.long z) ∧ h = h') := by
  refine Con.of (W := tables_1) (plainFor_of_name pn6) hw (fun mm => ef6 mm x) (fun K C => ?_)
  have C : Cx G K "com/example/due_share/dueshare/Draws" "seed" prog_6_method_3_code 1 (some .long) tables_1 := C
  generalize hQ : (fun v h' => v = some (.long z) ∧ h = h' : Option Value → Heap → Prop) = Q
  refine N.aloadN C (pc' := 1) d6_0 rfl rfl rfl ?_
  refine N.getF C (pc' := 4) d6_1 (C.w (i := 14) rfl) F_x_seed rfl ?_
  exact N.retL C d6_4 (by decide) (by decide) (by subst hQ; exact ⟨rfl, rfl⟩)
set_option maxRecDepth 65536 in
set_option maxHeartbeats 40000000 in
theorem con5 (G : Gx) (hw : ∀ d ∈ tables_1, d.before G.a0 G.Z = true) (x : Addr) (b : Int32) (sd st : Int64) (h : Heap) (hb : 1 ≤ b.toInt) (Z0 : G.n0 ≤ h.size) (g_x : G.n0 ≤ x) (E_x : Exa G.Z h x "com/example/due_share/dueshare/Draws") (F_x_seed : Fld G.Z h x "com/example/due_share/dueshare/Draws" "seed" "J" (.long sd)) (F_x_state : Fld G.Z h x "com/example/due_share/dueshare/Draws" "state" "J" (.long st)) :
    Con G (⟨"com/example/due_share/dueshare/Draws", "below", "(I)I"⟩ : MethodName) prog_6_method_5_code 6 (some .int) rm5 #[(.ref x), (.int b)] h (fun v h' => own_P G h x sd b (st + (-7046029254386353131 : Int64)) v h') := by
  refine Con.of (W := tables_1) (plainFor_of_name pn5) hw (fun mm => ef5 mm x b) (fun K C => ?_)
  have C : Cx G K "com/example/due_share/dueshare/Draws" "below" prog_6_method_5_code 6 (some .int) tables_1 := C
  generalize hQ : (fun v h' => own_P G h x sd b (st + (-7046029254386353131 : Int64)) v h' : Option Value → Heap → Prop) = Q
  have K0 : Keep h h [x] := Keep.refl _ _
  refine N.iloadN C (pc' := 1) d5_0 rfl rfl ?_
  refine N.iconst C (pc' := 2) (z := 1) d5_1 rfl rfl ?_
  refine N.icmp C (pt := 19) (pf := 5) d5_2 rfl rfl (fun (hc2 : 1 ≤ b.toInt) => ?_) (fun (hc2 : b.toInt < 1) => absurd (show False from by omega) id)
  refine N.aloadN C (pc' := 20) d5_19 rfl rfl rfl ?_
  refine N.callV C (pc' := 23) x [] d5_20 (C.w (i := 31) rfl) (C.w (i := 19) rfl) (C.w (i := 21) rfl) (C.w (i := 20) rfl) (C.w (i := 7) rfl) (C.w (i := 22) rfl) (by decide) E_x (con4 G hw x sd st h Z0 g_x E_x F_x_seed F_x_state) (lenOf pd___J rfl) rfl (by decide) (show 0 + (3 + 11) + _ ≤ _ from by decide) (by decide) (by decide) (rest := []) rfl rfl ?_
  rintro _ h20_1 ⟨rfl, Kph20_1, F1h20_1, F2h20_1⟩
  have Z0 := Nat.le_trans Z0 Kph20_1.1
  have E_x := E_x.keep Kph20_1
  have K0 := K0.trans Kph20_1 (allS (Or.inl (List.mem_of_getElem? (i := 0) rfl)) all0)
  have F_x_seed := F1h20_1
  have F_x_state := F2h20_1
  show N G K rm5 Q h20_1 0 0 23 #[.val (.ref x), .val (.int b), .unset, .unset, .unset, .unset] [(.long (own_mix (st + (-7046029254386353131 : Int64))))]
  refine N.iconst C (pc' := 24) (z := 1) d5_23 rfl rfl ?_
  refine N.lushr C (pc' := 25) d5_24 rfl ?_
  refine N.lstoreN C (pc' := 26) (ls' := #[.val (.ref x), .val (.int b), .val (.long (((own_mix (st + (-7046029254386353131 : Int64))).toUInt64 >>> ((1 : Int32) &&& 0x3f).toInt64.toUInt64).toInt64)), .second, .unset, .unset]) d5_25 rfl rfl ?_
  refine N.lloadN C (pc' := 27) d5_26 rfl rfl ?_
  refine N.iloadN C (pc' := 28) d5_27 rfl rfl ?_
  refine N.i2l C (pc' := 29) d5_28 rfl ?_
  have hnz_29 := own_nz hb
  refine N.lrem C (pc' := 30) d5_29 hnz_29 rfl ?_
  refine N.lstore C (pc' := 32) (ls' := #[.val (.ref x), .val (.int b), .val (.long (((own_mix (st + (-7046029254386353131 : Int64))).toUInt64 >>> ((1 : Int32) &&& 0x3f).toInt64.toUInt64).toInt64)), .second, .val (.long ((((own_mix (st + (-7046029254386353131 : Int64))).toUInt64 >>> ((1 : Int32) &&& 0x3f).toInt64.toUInt64).toInt64) % (b.toInt64))), .second]) d5_30 rfl rfl ?_
  have loop : ∀ (m : Nat) (s : Int64) (h1 : Heap), own_left s ≤ m → G.n0 ≤ h1.size → Exa G.Z h1 x "com/example/due_share/dueshare/Draws" → Fld G.Z h1 x "com/example/due_share/dueshare/Draws" "seed" "J" (.long sd) → Fld G.Z h1 x "com/example/due_share/dueshare/Draws" "state" "J" (.long s) → Keep h h1 [x] → (∀ v h', own_P G h x sd b s v h' → Q v h') → N G K rm5 Q h1 0 0 32 #[.val (.ref x), .val (.int b), .val (.long (own_bits s)), .second, .val (.long (own_bits s % b.toInt64)), .second] [] := by
    intro m
    induction m using Nat.strongRecOn with
    | _ m ih =>
    intro s h1 hm Z0 E_x F_x_seed F_x_state K0 himp
    refine N.lloadN C (pc' := 33) d5_32 rfl rfl ?_
    refine N.lload C (pc' := 35) d5_33 rfl rfl ?_
    refine N.lsub C (pc' := 36) d5_35 rfl ?_
    refine N.ldcL C (pc' := 39) (v := 9223372036854775807) d5_36 (C.w (i := 32) rfl) rfl ?_
    refine N.iloadN C (pc' := 40) d5_39 rfl rfl ?_
    refine N.iconst C (pc' := 41) (z := 1) d5_40 rfl rfl ?_
    refine N.isub C (pc' := 42) d5_41 rfl ?_
    refine N.i2l C (pc' := 43) d5_42 rfl ?_
    refine N.lsub C (pc' := 44) d5_43 rfl ?_
    refine N.lcmp C (pc' := 45) d5_44 rfl ?_
    refine N.lif C (pt := 64) (pf := 48) d5_45 rfl rfl (fun (hc45 : ((own_bits s) - (own_bits s % b.toInt64)).toInt ≤ ((9223372036854775807 : Int64) - ((b - (1 : Int32)).toInt64)).toInt) => ?_) (fun (hc45 : ((9223372036854775807 : Int64) - ((b - (1 : Int32)).toInt64)).toInt < ((own_bits s) - (own_bits s % b.toInt64)).toInt) => ?_)
    · refine N.lload C (pc' := 66) d5_64 rfl rfl ?_
      refine N.l2i C (pc' := 67) d5_66 rfl ?_
      exact N.retI C d5_67 (by decide) (by decide) (himp _ _ ⟨_, s, rfl, K0, F_x_seed, F_x_state, (own_ret hb).1, (own_ret hb).2.1, fun _ => ⟨(own_ret hb).2.2, rfl⟩, fun q => absurd (show own_acc b (own_bits s) from hc45) q⟩)
    · have hna : ¬ own_acc b (own_bits s) := by unfold own_acc; omega
      have hne : own_left s ≠ 0 := fun q => hna (by rw [own_left0 q, own_bits0]; exact own_acc0 hb)
      refine N.aloadN C (pc' := 49) d5_48 rfl rfl rfl ?_
      refine N.callV C (pc' := 52) x [] d5_49 (C.w (i := 31) rfl) (C.w (i := 19) rfl) (C.w (i := 21) rfl) (C.w (i := 20) rfl) (C.w (i := 7) rfl) (C.w (i := 22) rfl) (by decide) E_x (con4 G hw x sd s h1 Z0 g_x E_x F_x_seed F_x_state) (lenOf pd___J rfl) rfl (by decide) (show 0 + (3 + 11) + _ ≤ _ from by decide) (by decide) (by decide) (rest := []) rfl rfl ?_
      rintro _ h49_1 ⟨rfl, Kph49_1, F1h49_1, F2h49_1⟩
      have Z0 := Nat.le_trans Z0 Kph49_1.1
      have E_x := E_x.keep Kph49_1
      have K0 := K0.trans Kph49_1 (allS (Or.inl (List.mem_of_getElem? (i := 0) rfl)) all0)
      have F_x_seed := F1h49_1
      have F_x_state := F2h49_1
      show N G K rm5 Q h49_1 0 0 52 #[.val (.ref x), .val (.int b), .val (.long (own_bits s)), .second, .val (.long (own_bits s % b.toInt64)), .second] [(.long (own_mix (s + (-7046029254386353131 : Int64))))]
      refine N.iconst C (pc' := 53) (z := 1) d5_52 rfl rfl ?_
      refine N.lushr C (pc' := 54) d5_53 rfl ?_
      refine N.lstoreN C (pc' := 55) (ls' := #[.val (.ref x), .val (.int b), .val (.long (((own_mix (s + (-7046029254386353131 : Int64))).toUInt64 >>> ((1 : Int32) &&& 0x3f).toInt64.toUInt64).toInt64)), .second, .val (.long (own_bits s % b.toInt64)), .second]) d5_54 rfl rfl ?_
      refine N.lloadN C (pc' := 56) d5_55 rfl rfl ?_
      refine N.iloadN C (pc' := 57) d5_56 rfl rfl ?_
      refine N.i2l C (pc' := 58) d5_57 rfl ?_
      have hnz_58 := own_nz hb
      refine N.lrem C (pc' := 59) d5_58 hnz_58 rfl ?_
      refine N.lstore C (pc' := 61) (ls' := #[.val (.ref x), .val (.int b), .val (.long (((own_mix (s + (-7046029254386353131 : Int64))).toUInt64 >>> ((1 : Int32) &&& 0x3f).toInt64.toUInt64).toInt64)), .second, .val (.long ((((own_mix (s + (-7046029254386353131 : Int64))).toUInt64 >>> ((1 : Int32) &&& 0x3f).toInt64.toUInt64).toInt64) % (b.toInt64))), .second]) d5_59 rfl rfl ?_
      refine N.goto C (pc' := 32) d5_61 rfl ?_
      exact ih _ (by have := own_left1 (s := s) hne; omega) _ _ (Nat.le_refl _) Z0 E_x F_x_seed F_x_state K0 (fun v h' hP => himp v h' (own_Pst hna hP))
  exact loop _ _ _ (Nat.le_refl _) Z0 E_x F_x_seed F_x_state K0 (fun v h' q => by subst hQ; exact q)
set_option maxRecDepth 65536 in
set_option maxHeartbeats 40000000 in
theorem con0 (G : Gx) (hw : ∀ d ∈ tables_1, d.before G.a0 G.Z = true) (seed st : Int64) (p : Int32) (h : Heap) (Z0 : G.n0 ≤ h.size) :
    Con G x code maxLocals ret room_1 #[(.long seed), (.long st), (.int p)] h (fun v _ => v = some (.int 1)) := by
  refine Con.of (W := tables_1) (plainFor_of_name pn0) hw (fun mm => ef0 mm seed st p) (fun K C => ?_)
  have C : Cx G K "com/example/due_share/dueshare/DrawsBelowPinLaw" "law" code maxLocals ret tables_1 := C
  generalize hQ : (fun v _ => v = some (.int 1) : Option Value → Heap → Prop) = Q
  refine N.iconst C (pc' := 1) (z := 1) at_0 rfl rfl ?_
  refine N.iload C (pc' := 3) at_1 rfl rfl ?_
  refine N.ldcI C (pc' := 5) (v := 2147483647) at_3 (C.w (i := 0) rfl) rfl ?_
  refine N.iand C (pc' := 6) at_5 rfl ?_
  refine N.callS C (pc' := 9) [(.int (1 : Int32)), (.int (p &&& (2147483647 : Int32)))] at_6 (C.w (i := 1) rfl) (C.w (i := 2) rfl) (C.w (i := 3) rfl) (C.w (i := 4) rfl) (by decide) (con1 G hw (1 : Int32) (p &&& (2147483647 : Int32)) h) (lenOf pd__II_I rfl) rfl (by decide) (show 0 + (2 + 11) + _ ≤ _ from by decide) (by decide) (by decide) (rest := []) rfl rfl ?_
  rintro _ h6_1 ⟨b, rfl, rfl, hb⟩
  show N G K room_1 Q h 0 0 9 #[.val (.long seed), .second, .val (.long st), .second, .val (.int p), .unset, .unset, .unset, .unset, .unset, .unset, .unset, .unset, .unset, .unset, .unset, .unset, .unset, .unset, .unset] [(.int b)]
  have hb : 1 ≤ b.toInt := hb
  refine N.istore C (pc' := 11) (ls' := #[.val (.long seed), .second, .val (.long st), .second, .val (.int p), .val (.int b), .unset, .unset, .unset, .unset, .unset, .unset, .unset, .unset, .unset, .unset, .unset, .unset, .unset, .unset]) at_9 rfl rfl ?_
  refine N.newO C (pc' := 14) at_11 (C.w (i := 5) rfl) (C.w (i := 6) rfl) (C.w (i := 7) rfl) (by decide) (by decide) rfl (fun h11_2 d hx_d Ex11 E_d D_d => ?_)
  have g_d : G.n0 ≤ d := by rw [hx_d]; exact Z0
  have Z0 := Nat.le_trans Z0 Ex11.1
  have F_d_seed : Fld G.Z h11_2 d "com/example/due_share/dueshare/Draws" "seed" "J" (.long (0 : Int64)) := D_d (Or.inr (C.w (i := 15) rfl)) (ty := .long) (by decide)
  have F_d_state : Fld G.Z h11_2 d "com/example/due_share/dueshare/Draws" "state" "J" (.long (0 : Int64)) := D_d (Or.inl (C.w (i := 17) rfl)) (ty := .long) (by decide)
  refine N.dup C (pc' := 15) at_14 rfl rfl ?_
  refine N.lloadN C (pc' := 16) at_15 rfl rfl ?_
  refine N.lloadN C (pc' := 17) at_16 rfl rfl ?_
  refine N.callI C (pc' := 20) d [(.long seed), (.long st)] at_17 rfl (C.w (i := 8) rfl) (C.w (i := 9) rfl) (C.w (i := 7) rfl) (C.w (i := 10) rfl) (by decide) (con2 G hw d seed st _ _ h11_2 Z0 g_d E_d F_d_seed F_d_state) (lenOf pd__JJ_V rfl) rfl (by decide) (show 1 + (5 + 11) + _ ≤ _ from by decide) (by decide) (by decide) (rest := [(.ref d)]) rfl rfl ?_
  rintro _ h17_3 ⟨rfl, Kph17_3, F1h17_3, F2h17_3⟩
  have Z0 := Nat.le_trans Z0 Kph17_3.1
  have E_d := E_d.keep Kph17_3
  have F_d_seed := F1h17_3
  have F_d_state := F2h17_3
  show N G K room_1 Q h17_3 (0 + 1) (0 + 2) 20 #[.val (.long seed), .second, .val (.long st), .second, .val (.int p), .val (.int b), .unset, .unset, .unset, .unset, .unset, .unset, .unset, .unset, .unset, .unset, .unset, .unset, .unset, .unset] [(.ref d)]
  refine N.astore C (pc' := 22) (ls' := #[.val (.long seed), .second, .val (.long st), .second, .val (.int p), .val (.int b), .val (.ref d), .unset, .unset, .unset, .unset, .unset, .unset, .unset, .unset, .unset, .unset, .unset, .unset, .unset]) at_20 rfl rfl rfl ?_
  refine N.newO C (pc' := 25) at_22 (C.w (i := 5) rfl) (C.w (i := 6) rfl) (C.w (i := 7) rfl) (by decide) (by decide) rfl (fun h22_4 t hx_t Ex22 E_t D_t => ?_)
  have ne_d_t : d ≠ t := by rw [hx_t]; exact Nat.ne_of_lt F_d_seed.lt
  have ne_t_d := Ne.symm ne_d_t
  have g_t : G.n0 ≤ t := by rw [hx_t]; exact Z0
  have Z0 := Nat.le_trans Z0 Ex22.1
  have F_d_seed := F_d_seed.ext Ex22
  have F_d_state := F_d_state.ext Ex22
  have E_d := E_d.ext Ex22
  have F_t_seed : Fld G.Z h22_4 t "com/example/due_share/dueshare/Draws" "seed" "J" (.long (0 : Int64)) := D_t (Or.inr (C.w (i := 15) rfl)) (ty := .long) (by decide)
  have F_t_state : Fld G.Z h22_4 t "com/example/due_share/dueshare/Draws" "state" "J" (.long (0 : Int64)) := D_t (Or.inl (C.w (i := 17) rfl)) (ty := .long) (by decide)
  refine N.dup C (pc' := 26) at_25 rfl rfl ?_
  refine N.lloadN C (pc' := 27) at_26 rfl rfl ?_
  refine N.lloadN C (pc' := 28) at_27 rfl rfl ?_
  refine N.callI C (pc' := 31) t [(.long seed), (.long st)] at_28 rfl (C.w (i := 8) rfl) (C.w (i := 9) rfl) (C.w (i := 7) rfl) (C.w (i := 10) rfl) (by decide) (con2 G hw t seed st _ _ h22_4 Z0 g_t E_t F_t_seed F_t_state) (lenOf pd__JJ_V rfl) rfl (by decide) (show 1 + (5 + 11) + _ ≤ _ from by decide) (by decide) (by decide) (rest := [(.ref t)]) rfl rfl ?_
  rintro _ h28_5 ⟨rfl, Kph28_5, F1h28_5, F2h28_5⟩
  have Z0 := Nat.le_trans Z0 Kph28_5.1
  have F_d_seed := F_d_seed.keep Kph28_5 (ninS ne_d_t nin0)
  have F_d_state := F_d_state.keep Kph28_5 (ninS ne_d_t nin0)
  have E_d := E_d.keep Kph28_5
  have E_t := E_t.keep Kph28_5
  have F_t_seed := F1h28_5
  have F_t_state := F2h28_5
  show N G K room_1 Q h28_5 ((0 + 1) + 1) ((0 + 2) + 2) 31 #[.val (.long seed), .second, .val (.long st), .second, .val (.int p), .val (.int b), .val (.ref d), .unset, .unset, .unset, .unset, .unset, .unset, .unset, .unset, .unset, .unset, .unset, .unset, .unset] [(.ref t)]
  refine N.astore C (pc' := 33) (ls' := #[.val (.long seed), .second, .val (.long st), .second, .val (.int p), .val (.int b), .val (.ref d), .val (.ref t), .unset, .unset, .unset, .unset, .unset, .unset, .unset, .unset, .unset, .unset, .unset, .unset]) at_31 rfl rfl rfl ?_
  refine N.aload C (pc' := 35) at_33 rfl rfl rfl ?_
  refine N.callV C (pc' := 38) t [] at_35 (C.w (i := 18) rfl) (C.w (i := 19) rfl) (C.w (i := 21) rfl) (C.w (i := 20) rfl) (C.w (i := 7) rfl) (C.w (i := 22) rfl) (by decide) E_t (con4 G hw t seed st h28_5 Z0 g_t E_t F_t_seed F_t_state) (lenOf pd___J rfl) rfl (by decide) (show 0 + (3 + 11) + _ ≤ _ from by decide) (by decide) (by decide) (rest := []) rfl rfl ?_
  rintro _ h35_6 ⟨rfl, Kph35_6, F1h35_6, F2h35_6⟩
  have Z0 := Nat.le_trans Z0 Kph35_6.1
  have F_d_seed := F_d_seed.keep Kph35_6 (ninS ne_d_t nin0)
  have F_d_state := F_d_state.keep Kph35_6 (ninS ne_d_t nin0)
  have E_d := E_d.keep Kph35_6
  have E_t := E_t.keep Kph35_6
  have F_t_seed := F1h35_6
  have F_t_state := F2h35_6
  show N G K room_1 Q h35_6 ((0 + 1) + 1) ((0 + 2) + 2) 38 #[.val (.long seed), .second, .val (.long st), .second, .val (.int p), .val (.int b), .val (.ref d), .val (.ref t), .unset, .unset, .unset, .unset, .unset, .unset, .unset, .unset, .unset, .unset, .unset, .unset] [(.long (own_mix (st + (-7046029254386353131 : Int64))))]
  refine N.iconst C (pc' := 39) (z := 1) at_38 rfl rfl ?_
  refine N.lushr C (pc' := 40) at_39 rfl ?_
  show N G K room_1 Q h35_6 ((0 + 1) + 1) ((0 + 2) + 2) 40 #[.val (.long seed), .second, .val (.long st), .second, .val (.int p), .val (.int b), .val (.ref d), .val (.ref t), .unset, .unset, .unset, .unset, .unset, .unset, .unset, .unset, .unset, .unset, .unset, .unset] [(.long (own_bits (st + (-7046029254386353131 : Int64))))]
  refine N.lstore C (pc' := 42) (ls' := #[.val (.long seed), .second, .val (.long st), .second, .val (.int p), .val (.int b), .val (.ref d), .val (.ref t), .val (.long (own_bits (st + (-7046029254386353131 : Int64)))), .second, .unset, .unset, .unset, .unset, .unset, .unset, .unset, .unset, .unset, .unset]) at_40 rfl rfl ?_
  refine N.aload C (pc' := 44) at_42 rfl rfl rfl ?_
  refine N.callV C (pc' := 47) t [] at_44 (C.w (i := 18) rfl) (C.w (i := 19) rfl) (C.w (i := 21) rfl) (C.w (i := 20) rfl) (C.w (i := 7) rfl) (C.w (i := 22) rfl) (by decide) E_t (con4 G hw t seed (st + (-7046029254386353131 : Int64)) h35_6 Z0 g_t E_t F_t_seed F_t_state) (lenOf pd___J rfl) rfl (by decide) (show 0 + (3 + 11) + _ ≤ _ from by decide) (by decide) (by decide) (rest := []) rfl rfl ?_
  rintro _ h44_7 ⟨rfl, Kph44_7, F1h44_7, F2h44_7⟩
  have Z0 := Nat.le_trans Z0 Kph44_7.1
  have F_d_seed := F_d_seed.keep Kph44_7 (ninS ne_d_t nin0)
  have F_d_state := F_d_state.keep Kph44_7 (ninS ne_d_t nin0)
  have E_d := E_d.keep Kph44_7
  have E_t := E_t.keep Kph44_7
  have F_t_seed := F1h44_7
  have F_t_state := F2h44_7
  show N G K room_1 Q h44_7 ((0 + 1) + 1) ((0 + 2) + 2) 47 #[.val (.long seed), .second, .val (.long st), .second, .val (.int p), .val (.int b), .val (.ref d), .val (.ref t), .val (.long (own_bits (st + (-7046029254386353131 : Int64)))), .second, .unset, .unset, .unset, .unset, .unset, .unset, .unset, .unset, .unset, .unset] [(.long (own_mix ((st + (-7046029254386353131 : Int64)) + (-7046029254386353131 : Int64))))]
  refine N.iconst C (pc' := 48) (z := 1) at_47 rfl rfl ?_
  refine N.lushr C (pc' := 49) at_48 rfl ?_
  show N G K room_1 Q h44_7 ((0 + 1) + 1) ((0 + 2) + 2) 49 #[.val (.long seed), .second, .val (.long st), .second, .val (.int p), .val (.int b), .val (.ref d), .val (.ref t), .val (.long (own_bits (st + (-7046029254386353131 : Int64)))), .second, .unset, .unset, .unset, .unset, .unset, .unset, .unset, .unset, .unset, .unset] [(.long (own_bits ((st + (-7046029254386353131 : Int64)) + (-7046029254386353131 : Int64))))]
  refine N.lstore C (pc' := 51) (ls' := #[.val (.long seed), .second, .val (.long st), .second, .val (.int p), .val (.int b), .val (.ref d), .val (.ref t), .val (.long (own_bits (st + (-7046029254386353131 : Int64)))), .second, .val (.long (own_bits ((st + (-7046029254386353131 : Int64)) + (-7046029254386353131 : Int64)))), .second, .unset, .unset, .unset, .unset, .unset, .unset, .unset, .unset]) at_49 rfl rfl ?_
  refine N.aload C (pc' := 53) at_51 rfl rfl rfl ?_
  refine N.iload C (pc' := 55) at_53 rfl rfl ?_
  refine N.callV C (pc' := 58) d [(.int b)] at_55 (C.w (i := 26) rfl) (C.w (i := 27) rfl) (C.w (i := 29) rfl) (C.w (i := 28) rfl) (C.w (i := 7) rfl) (C.w (i := 30) rfl) (by decide) E_d (con5 G hw d b seed st h44_7 hb Z0 g_d E_d F_d_seed F_d_state) (lenOf pd__I_I rfl) rfl (by decide) (show 0 + (6 + 11) + _ ≤ _ from by decide) (by decide) (by decide) (rest := []) rfl rfl ?_
  rintro _ h55_8 ⟨r, s', rfl, KpB, F1B, F2B, hr0, hr1, hac1, hac2⟩
  have Z0 := Nat.le_trans Z0 KpB.1
  have F_t_seed := F_t_seed.keep KpB (ninS ne_t_d nin0)
  have F_t_state := F_t_state.keep KpB (ninS ne_t_d nin0)
  have E_d := E_d.keep KpB
  have E_t := E_t.keep KpB
  have F_d_seed := F1B
  have F_d_state := F2B
  show N G K room_1 Q h55_8 ((0 + 1) + 1) ((0 + 2) + 2) 58 #[.val (.long seed), .second, .val (.long st), .second, .val (.int p), .val (.int b), .val (.ref d), .val (.ref t), .val (.long (own_bits (st + (-7046029254386353131 : Int64)))), .second, .val (.long (own_bits ((st + (-7046029254386353131 : Int64)) + (-7046029254386353131 : Int64)))), .second, .unset, .unset, .unset, .unset, .unset, .unset, .unset, .unset] [(.int r)]
  refine N.istore C (pc' := 60) (ls' := #[.val (.long seed), .second, .val (.long st), .second, .val (.int p), .val (.int b), .val (.ref d), .val (.ref t), .val (.long (own_bits (st + (-7046029254386353131 : Int64)))), .second, .val (.long (own_bits ((st + (-7046029254386353131 : Int64)) + (-7046029254386353131 : Int64)))), .second, .val (.int r), .unset, .unset, .unset, .unset, .unset, .unset, .unset]) at_58 rfl rfl ?_
  refine N.ldcL C (pc' := 63) (v := 9223372036854775807) at_60 (C.w (i := 33) rfl) rfl ?_
  refine N.iload C (pc' := 65) at_63 rfl rfl ?_
  refine N.i2l C (pc' := 66) at_65 rfl ?_
  have hnz_66 := own_nz hb
  refine N.lrem C (pc' := 67) at_66 hnz_66 rfl ?_
  refine N.lconst C (pc' := 68) (z := 1) at_67 rfl rfl ?_
  refine N.ladd C (pc' := 69) at_68 rfl ?_
  refine N.iload C (pc' := 71) at_69 rfl rfl ?_
  refine N.i2l C (pc' := 72) at_71 rfl ?_
  have hnz_72 := own_nz hb
  refine N.lrem C (pc' := 73) at_72 hnz_72 rfl ?_
  refine N.lstore C (pc' := 75) (ls' := #[.val (.long seed), .second, .val (.long st), .second, .val (.int p), .val (.int b), .val (.ref d), .val (.ref t), .val (.long (own_bits (st + (-7046029254386353131 : Int64)))), .second, .val (.long (own_bits ((st + (-7046029254386353131 : Int64)) + (-7046029254386353131 : Int64)))), .second, .val (.int r), .val (.long ((((9223372036854775807 : Int64) % (b.toInt64)) + (1 : Int64)) % (b.toInt64))), .second, .unset, .unset, .unset, .unset, .unset]) at_73 rfl rfl ?_
  refine N.ldcL C (pc' := 78) (v := 9223372036854775807) at_75 (C.w (i := 33) rfl) rfl ?_
  refine N.lload C (pc' := 80) at_78 rfl rfl ?_
  refine N.lsub C (pc' := 81) at_80 rfl ?_
  refine N.lstore C (pc' := 83) (ls' := #[.val (.long seed), .second, .val (.long st), .second, .val (.int p), .val (.int b), .val (.ref d), .val (.ref t), .val (.long (own_bits (st + (-7046029254386353131 : Int64)))), .second, .val (.long (own_bits ((st + (-7046029254386353131 : Int64)) + (-7046029254386353131 : Int64)))), .second, .val (.int r), .val (.long ((((9223372036854775807 : Int64) % (b.toInt64)) + (1 : Int64)) % (b.toInt64))), .second, .val (.long ((9223372036854775807 : Int64) - ((((9223372036854775807 : Int64) % (b.toInt64)) + (1 : Int64)) % (b.toInt64)))), .second, .unset, .unset, .unset]) at_81 rfl rfl ?_
  refine N.ldcL C (pc' := 86) (v := -7046029254386353131) at_83 (C.w (i := 34) rfl) rfl ?_
  refine N.lstore C (pc' := 88) (ls' := #[.val (.long seed), .second, .val (.long st), .second, .val (.int p), .val (.int b), .val (.ref d), .val (.ref t), .val (.long (own_bits (st + (-7046029254386353131 : Int64)))), .second, .val (.long (own_bits ((st + (-7046029254386353131 : Int64)) + (-7046029254386353131 : Int64)))), .second, .val (.int r), .val (.long ((((9223372036854775807 : Int64) % (b.toInt64)) + (1 : Int64)) % (b.toInt64))), .second, .val (.long ((9223372036854775807 : Int64) - ((((9223372036854775807 : Int64) % (b.toInt64)) + (1 : Int64)) % (b.toInt64)))), .second, .val (.long (-7046029254386353131 : Int64)), .second, .unset]) at_86 rfl rfl ?_
  refine N.iload C (pc' := 90) at_88 rfl rfl ?_
  refine N.ifc C (pt := 114) (pf := 93) at_90 rfl rfl (fun (hc90 : r.toInt < 0) => absurd (show False from by exact absurd hr0 (Int.not_le.mpr hc90)) id) (fun (hc90 : 0 ≤ r.toInt) => ?_)
  refine N.iload C (pc' := 95) at_93 rfl rfl ?_
  refine N.iload C (pc' := 97) at_95 rfl rfl ?_
  refine N.icmp C (pt := 114) (pf := 100) at_97 rfl rfl (fun (hc97 : b.toInt ≤ r.toInt) => absurd (show False from by exact absurd hr1 (Int.not_lt.mpr hc97)) id) (fun (hc97 : r.toInt < b.toInt) => ?_)
  refine N.aload C (pc' := 102) at_100 rfl rfl rfl ?_
  refine N.callV C (pc' := 105) d [] at_102 (C.w (i := 35) rfl) (C.w (i := 36) rfl) (C.w (i := 38) rfl) (C.w (i := 37) rfl) (C.w (i := 7) rfl) (C.w (i := 39) rfl) (by decide) E_d (con6 G hw d seed h55_8 F_d_seed) (lenOf pd___J rfl) rfl (by decide) (show 0 + (1 + 11) + _ ≤ _ from by decide) (by decide) (by decide) (rest := []) rfl rfl ?_
  rintro _ h102_9 ⟨rfl, rfl⟩
  show N G K room_1 Q h55_8 ((0 + 1) + 1) ((0 + 2) + 2) 105 #[.val (.long seed), .second, .val (.long st), .second, .val (.int p), .val (.int b), .val (.ref d), .val (.ref t), .val (.long (own_bits (st + (-7046029254386353131 : Int64)))), .second, .val (.long (own_bits ((st + (-7046029254386353131 : Int64)) + (-7046029254386353131 : Int64)))), .second, .val (.int r), .val (.long ((((9223372036854775807 : Int64) % (b.toInt64)) + (1 : Int64)) % (b.toInt64))), .second, .val (.long ((9223372036854775807 : Int64) - ((((9223372036854775807 : Int64) % (b.toInt64)) + (1 : Int64)) % (b.toInt64)))), .second, .val (.long (-7046029254386353131 : Int64)), .second, .unset] [(.long seed)]
  refine N.lloadN C (pc' := 106) at_105 rfl rfl ?_
  refine N.lcmp C (pc' := 107) at_106 rfl ?_
  refine N.lif C (pt := 114) (pf := 110) at_107 rfl rfl (fun (hc107 : ¬ seed = seed) => absurd (show False from by exact hc107 rfl) id) (fun (hc107 : seed = seed) => ?_)
  refine N.iconst C (pc' := 111) (z := 1) at_110 rfl rfl ?_
  refine N.goto C (pc' := 115) at_111 rfl ?_
  refine N.istore C (pc' := 117) (ls' := #[.val (.long seed), .second, .val (.long st), .second, .val (.int p), .val (.int b), .val (.ref d), .val (.ref t), .val (.long (own_bits (st + (-7046029254386353131 : Int64)))), .second, .val (.long (own_bits ((st + (-7046029254386353131 : Int64)) + (-7046029254386353131 : Int64)))), .second, .val (.int r), .val (.long ((((9223372036854775807 : Int64) % (b.toInt64)) + (1 : Int64)) % (b.toInt64))), .second, .val (.long ((9223372036854775807 : Int64) - ((((9223372036854775807 : Int64) % (b.toInt64)) + (1 : Int64)) % (b.toInt64)))), .second, .val (.long (-7046029254386353131 : Int64)), .second, .val (.int (1 : Int32))]) at_115 rfl rfl ?_
  have l1 := own_lim (b := b) (z := (own_bits (st + (-7046029254386353131 : Int64)))) hb (own_bits_nn _)
  have l2 := own_lim (b := b) (z := (own_bits ((st + (-7046029254386353131 : Int64)) + (-7046029254386353131 : Int64)))) hb (own_bits_nn _)
  refine N.lload C (pc' := 119) at_117 rfl rfl ?_
  refine N.lload C (pc' := 121) at_119 rfl rfl ?_
  refine N.lcmp C (pc' := 122) at_121 rfl ?_
  refine N.lif C (pt := 162) (pf := 125) at_122 rfl rfl (fun (hc122 : ((9223372036854775807 : Int64) - ((((9223372036854775807 : Int64) % (b.toInt64)) + (1 : Int64)) % (b.toInt64))).toInt < (own_bits (st + (-7046029254386353131 : Int64))).toInt) => ?_) (fun (hc122 : (own_bits (st + (-7046029254386353131 : Int64))).toInt ≤ ((9223372036854775807 : Int64) - ((((9223372036854775807 : Int64) % (b.toInt64)) + (1 : Int64)) % (b.toInt64))).toInt) => ?_)
  · refine N.lload C (pc' := 164) at_162 rfl rfl ?_
    refine N.lload C (pc' := 166) at_164 rfl rfl ?_
    refine N.lcmp C (pc' := 167) at_166 rfl ?_
    refine N.lif C (pt := 211) (pf := 170) at_167 rfl rfl (fun (hc167 : ((9223372036854775807 : Int64) - ((((9223372036854775807 : Int64) % (b.toInt64)) + (1 : Int64)) % (b.toInt64))).toInt < (own_bits ((st + (-7046029254386353131 : Int64)) + (-7046029254386353131 : Int64))).toInt) => ?_) (fun (hc167 : (own_bits ((st + (-7046029254386353131 : Int64)) + (-7046029254386353131 : Int64))).toInt ≤ ((9223372036854775807 : Int64) - ((((9223372036854775807 : Int64) % (b.toInt64)) + (1 : Int64)) % (b.toInt64))).toInt) => ?_)
    · refine N.iload C (pc' := 213) at_211 rfl rfl ?_
      exact N.retN C (by simp) (z' := (1 : Int32)) rfl at_213 (by decide) (by decide) (by subst hQ; exact rfl)
    · obtain ⟨v1, v2⟩ := hac2 (fun q => absurd (l1.mpr q) (Int.not_le.mpr hc122)) (l2.mp hc167)
      refine N.iload C (pc' := 172) at_170 rfl rfl ?_
      refine N.ifc C (pt := 209) (pf := 175) at_172 rfl rfl (fun (q : (1 : Int32) = (0 : Int32)) => absurd q (by decide)) (fun _ => ?_)
      refine N.iload C (pc' := 177) at_175 rfl rfl ?_
      refine N.i2l C (pc' := 178) at_177 rfl ?_
      refine N.lload C (pc' := 180) at_178 rfl rfl ?_
      refine N.iload C (pc' := 182) at_180 rfl rfl ?_
      refine N.i2l C (pc' := 183) at_182 rfl ?_
      have hnz_183 := own_nz hb
      refine N.lrem C (pc' := 184) at_183 hnz_183 rfl ?_
      refine N.lcmp C (pc' := 185) at_184 rfl ?_
      refine N.lif C (pt := 209) (pf := 188) at_185 rfl rfl (fun (hc185 : ¬ (r.toInt64) = ((own_bits ((st + (-7046029254386353131 : Int64)) + (-7046029254386353131 : Int64))) % (b.toInt64))) => absurd (show False from by exact hc185 v1) id) (fun (hc185 : (r.toInt64) = ((own_bits ((st + (-7046029254386353131 : Int64)) + (-7046029254386353131 : Int64))) % (b.toInt64))) => ?_)
      refine N.aload C (pc' := 190) at_188 rfl rfl rfl ?_
      refine N.callV C (pc' := 193) d [] at_190 (C.w (i := 40) rfl) (C.w (i := 41) rfl) (C.w (i := 43) rfl) (C.w (i := 42) rfl) (C.w (i := 7) rfl) (C.w (i := 44) rfl) (by decide) E_d (con7 G hw d s' h55_8 F_d_state) (lenOf pd___J rfl) rfl (by decide) (show 0 + (1 + 11) + _ ≤ _ from by decide) (by decide) (by decide) (rest := []) rfl rfl ?_
      rintro _ h190_10 ⟨rfl, rfl⟩
      show N G K room_1 Q h55_8 ((0 + 1) + 1) ((0 + 2) + 2) 193 #[.val (.long seed), .second, .val (.long st), .second, .val (.int p), .val (.int b), .val (.ref d), .val (.ref t), .val (.long (own_bits (st + (-7046029254386353131 : Int64)))), .second, .val (.long (own_bits ((st + (-7046029254386353131 : Int64)) + (-7046029254386353131 : Int64)))), .second, .val (.int r), .val (.long ((((9223372036854775807 : Int64) % (b.toInt64)) + (1 : Int64)) % (b.toInt64))), .second, .val (.long ((9223372036854775807 : Int64) - ((((9223372036854775807 : Int64) % (b.toInt64)) + (1 : Int64)) % (b.toInt64)))), .second, .val (.long (-7046029254386353131 : Int64)), .second, .val (.int (1 : Int32))] [(.long s')]
      refine N.lloadN C (pc' := 194) at_193 rfl rfl ?_
      refine N.ldcL C (pc' := 197) (v := 2) at_194 (C.w (i := 45) rfl) rfl ?_
      refine N.lload C (pc' := 199) at_197 rfl rfl ?_
      refine N.lmul C (pc' := 200) at_199 rfl ?_
      show N G K room_1 Q h55_8 ((0 + 1) + 1) ((0 + 2) + 2) 200 #[.val (.long seed), .second, .val (.long st), .second, .val (.int p), .val (.int b), .val (.ref d), .val (.ref t), .val (.long (own_bits (st + (-7046029254386353131 : Int64)))), .second, .val (.long (own_bits ((st + (-7046029254386353131 : Int64)) + (-7046029254386353131 : Int64)))), .second, .val (.int r), .val (.long ((((9223372036854775807 : Int64) % (b.toInt64)) + (1 : Int64)) % (b.toInt64))), .second, .val (.long ((9223372036854775807 : Int64) - ((((9223372036854775807 : Int64) % (b.toInt64)) + (1 : Int64)) % (b.toInt64)))), .second, .val (.long (-7046029254386353131 : Int64)), .second, .val (.int (1 : Int32))] [(.long (4354685564936845354 : Int64)), (.long st), (.long s')]
      refine N.ladd C (pc' := 201) at_200 rfl ?_
      refine N.lcmp C (pc' := 202) at_201 rfl ?_
      refine N.lif C (pt := 209) (pf := 205) at_202 rfl rfl (fun (hc202 : ¬ s' = (st + (4354685564936845354 : Int64))) => absurd (show False from by exact hc202 (v2.trans (own_2g st))) id) (fun (hc202 : s' = (st + (4354685564936845354 : Int64))) => ?_)
      refine N.iconst C (pc' := 206) (z := 1) at_205 rfl rfl ?_
      refine N.goto C (pc' := 210) at_206 rfl ?_
      exact N.retN C (by simp) (z' := (1 : Int32)) rfl at_210 (by decide) (by decide) (by subst hQ; exact rfl)
  · obtain ⟨v1, v2⟩ := hac1 (l1.mp hc122)
    refine N.iload C (pc' := 127) at_125 rfl rfl ?_
    refine N.ifc C (pt := 160) (pf := 130) at_127 rfl rfl (fun (q : (1 : Int32) = (0 : Int32)) => absurd q (by decide)) (fun _ => ?_)
    refine N.iload C (pc' := 132) at_130 rfl rfl ?_
    refine N.i2l C (pc' := 133) at_132 rfl ?_
    refine N.lload C (pc' := 135) at_133 rfl rfl ?_
    refine N.iload C (pc' := 137) at_135 rfl rfl ?_
    refine N.i2l C (pc' := 138) at_137 rfl ?_
    have hnz_138 := own_nz hb
    refine N.lrem C (pc' := 139) at_138 hnz_138 rfl ?_
    refine N.lcmp C (pc' := 140) at_139 rfl ?_
    refine N.lif C (pt := 160) (pf := 143) at_140 rfl rfl (fun (hc140 : ¬ (r.toInt64) = ((own_bits (st + (-7046029254386353131 : Int64))) % (b.toInt64))) => absurd (show False from by exact hc140 v1) id) (fun (hc140 : (r.toInt64) = ((own_bits (st + (-7046029254386353131 : Int64))) % (b.toInt64))) => ?_)
    refine N.aload C (pc' := 145) at_143 rfl rfl rfl ?_
    refine N.callV C (pc' := 148) d [] at_145 (C.w (i := 40) rfl) (C.w (i := 41) rfl) (C.w (i := 43) rfl) (C.w (i := 42) rfl) (C.w (i := 7) rfl) (C.w (i := 44) rfl) (by decide) E_d (con7 G hw d s' h55_8 F_d_state) (lenOf pd___J rfl) rfl (by decide) (show 0 + (1 + 11) + _ ≤ _ from by decide) (by decide) (by decide) (rest := []) rfl rfl ?_
    rintro _ h145_11 ⟨rfl, rfl⟩
    show N G K room_1 Q h55_8 ((0 + 1) + 1) ((0 + 2) + 2) 148 #[.val (.long seed), .second, .val (.long st), .second, .val (.int p), .val (.int b), .val (.ref d), .val (.ref t), .val (.long (own_bits (st + (-7046029254386353131 : Int64)))), .second, .val (.long (own_bits ((st + (-7046029254386353131 : Int64)) + (-7046029254386353131 : Int64)))), .second, .val (.int r), .val (.long ((((9223372036854775807 : Int64) % (b.toInt64)) + (1 : Int64)) % (b.toInt64))), .second, .val (.long ((9223372036854775807 : Int64) - ((((9223372036854775807 : Int64) % (b.toInt64)) + (1 : Int64)) % (b.toInt64)))), .second, .val (.long (-7046029254386353131 : Int64)), .second, .val (.int (1 : Int32))] [(.long s')]
    refine N.lloadN C (pc' := 149) at_148 rfl rfl ?_
    refine N.lload C (pc' := 151) at_149 rfl rfl ?_
    refine N.ladd C (pc' := 152) at_151 rfl ?_
    refine N.lcmp C (pc' := 153) at_152 rfl ?_
    refine N.lif C (pt := 160) (pf := 156) at_153 rfl rfl (fun (hc153 : ¬ s' = (st + (-7046029254386353131 : Int64))) => absurd (show False from by exact hc153 v2) id) (fun (hc153 : s' = (st + (-7046029254386353131 : Int64))) => ?_)
    refine N.iconst C (pc' := 157) (z := 1) at_156 rfl rfl ?_
    refine N.goto C (pc' := 161) at_157 rfl ?_
    exact N.retN C (by simp) (z' := (1 : Int32)) rfl at_161 (by decide) (by decide) (by subst hQ; exact rfl)
set_option maxRecDepth 65536 in
set_option maxHeartbeats 40000000 in
theorem comes_1 {Post : Tables → Env → Array Value → State → Outcome → State → Prop} (hpost : ∀ tb e args s v u, (limb_1_1.after args s (.returned v) u = true ∧ limb_1_2.after args s (.returned v) u = true ∧ True) → FrameEnd s (.returned v) u (Jvm.fieldLocs frame_1_writes args s ++ Jvm.arrayLocs frame_1_arrays args s ++ Jvm.staticLocs frame_1_statics s) 16 128 → Post tb e args s (.returned v) u) :
    ArmFor flags0 classFile x code maxLocals ret World_1 tables_1 room_1 Calls_1 rest_1 Pre_1 Post := by
  intro l hfl _ _ p e ha hc hk s m args below hf hA hF happ hP
  obtain ⟨hcalls, hrest, hpre⟩ := hP
  obtain ⟨-, -, -, hnamed, -, -, -, hat⟩ := (Spec.applies_iff hf).mp happ
  obtain ⟨hg, hn⟩ := and_e (Cond.before_iff.mp (show (Jvm.Cond.and given_1 narrow_1).before args s = true from hpre))
  obtain ⟨hcount, hrow⟩ := and_e hg
  obtain ⟨ha0, hrow⟩ := and_e hrow
  obtain ⟨ha1, hrow⟩ := and_e hrow
  have ha2 := hrow
  obtain ⟨w0, w1, w2, rfl⟩ : ∃ w0 w1 w2 : Value, args = #[w0, w1, w2] := by
    have hs : args.size = 3 := by simpa [Cond.value, given_1] using hcount
    obtain ⟨L⟩ := args
    match L, hs with
    | [w0, w1, w2], _ => exact ⟨w0, w1, w2, rfl⟩
  have hw := fun d (hd : d ∈ tables_1) => atoms_spec (ws := Jvm.Cond.code x code maxLocals ret :: tables_1) hat d (List.mem_cons_of_mem _ hd)
  have hfit : Fit s := fun {y c} hc i hi => by
    obtain ⟨ha, rfl⟩ := Array.getElem?_eq_some_iff.mp hc
    have q := List.all_eq_true.mp ((Array.all_eq_true_iff_forall_mem.mp hF) _ (Array.getElem_mem ha)) i (List.mem_range.mpr hi)
    simpa [Array.getElem?_eq_getElem hi] using q
  obtain ⟨i0, ei0⟩ := isL_v ha0
  obtain rfl : w0 = (.long i0) := Option.some.inj ei0
  obtain ⟨i1, ei1⟩ := isL_v ha1
  obtain rfl : w1 = (.long i1) := Option.some.inj ei1
  obtain ⟨i2, ei2⟩ := is_v ha2
  obtain rfl : w2 = (.int i2) := Option.some.inj ei2
  obtain ⟨n, o, h1, h2, h3, _, L, rfl, ⟨rfl, N⟩, hq⟩ := con0 (l, s, _, s.heap.size) hw i0 i1 i2 s.heap (Nat.le_refl _) tables_1 p e ha hc hk s m _ below hf ((Spec.applies_iff_loose hf).mp happ).1 ⟨rfl, State.Warmed39.refl s, rfl⟩ trivial
  refine ⟨n, _, h1, h2, h3, hpost _ _ _ _ _ _ ⟨Cond.after_iff.mpr rfl, Cond.after_iff.mpr (eq_i res_at (Term.int_eval (1)) rfl), trivial⟩ ⟨hq.1, hq.2.1, (hq.2.2.sift fun y hy => Or.inr (N y hy)).mono (by decide) (by decide)⟩⟩
theorem main_1_1 : Claimed_1_1 := comes_1 fun _ _ _ _ _ _ h hF => ⟨h.1, hF⟩
theorem main_1_2 : Claimed_1_2 := comes_1 fun _ _ _ _ _ _ h hF => ⟨h.2.1, hF⟩
end Jvm.Pilot.@@N@@
namespace Jvm.Pilot.@@N@@
open Jvm Jvm.ClassFile Sem Op Lib Jvm.Free Jvm.Stand Jvm.Pilot.@@N@@.Jvm.D
/-! MADE BY PROGRAM (witnessworld.py) out of the Statement's table words and the real class files: 10 classes; the members and pool entries that the words name. The judged class is class 1, her method 1. -/
namespace start1
open Jvm.ClassFile
def u (s : String) : CpInfo := .utf8 (stringToUtf16 s)
/-- a pool by its gaps: so many unusable entries, then the entry; so many at the end -/
def gap : Nat → List CpInfo → List CpInfo
  | 0, r => r
  | n + 1, r => .unusable :: gap n r
def poolList (es : List (Nat × CpInfo)) (last : Nat) : List CpInfo := es.foldr (fun e r => gap e.1 (e.2 :: r)) (gap last [])
def pool (es : List (Nat × CpInfo)) (last : Nat) : Array CpInfo := ⟨poolList es last⟩
def fileOf (pool : Array CpInfo) (this : Nat) (attrs : Array Attribute := #[]) (ms : Array MethodInfo := #[]) (fl : Nat := 33) (sup : Nat := 0) (ifs : Array Nat := #[]) (fds : Array FieldInfo := #[]) : ClassFile where
  minorVersion := 0
  majorVersion := 65
  constantPool := pool
  accessFlags := fl
  thisClass := this
  superClass := sup
  interfaces := ifs
  fields := fds
  methods := ms
  attributes := attrs
def plain (name : String) (sup : Option ClassId) : Class where
  name := name
  kind := .ordinary
  loader := none
  accessFlags := 33
  super := sup
  interfaces := #[]
  cf := none
  fields := #[]
  methods := #[]
  instanceTypes := #[]
  staticTypes := #[]
  resolved := #[]
  callSites := []
  init := .initialized
  statics := none
  mirror := none

def pool0 : Array CpInfo := pool [(5, u "<init>"), (0, u "()V"), (1, .class_ 10), (1, u "java/lang/Object")] 113

def k0c0 : Code := { maxStack := 0, maxLocals := 1, code := object_method_1_code, exceptionTable := #[], attributes := #[] }
def k0m0 : Method := { name := "<init>", desc := "()V", sig := { parameters := [], returnType := none }, accessFlags := 1, code := some k0c0 }
/-- java/lang/Object -/
def k0 : Class := { plain "java/lang/Object" none with
  accessFlags := 33
  interfaces := #[]
  cf := some (fileOf pool0 8 #[] #[{ accessFlags := 1, nameIndex := 5, descriptorIndex := 6, attributes := #[] }] 33 0 #[] #[])
  fields := #[]
  methods := #[k0m0]
  instanceTypes := #[]
  staticTypes := #[]
  resolved := Array.replicate 124 none
  statics := none }

def pool1 : Array CpInfo := pool [(2, .class_ 4), (1, u "java/lang/Object"), (0, u "<init>"), (0, u "()V"), (0, .integer 2147483647), (0, .methodref 9 10), (0, .class_ 11), (0, .nameAndType 12 13), (0, u "java/lang/Math"), (0, u "max"), (0, u "(II)I"), (0, .class_ 15), (0, u "com/example/due_share/dueshare/Draws"), (0, .methodref 14 17), (0, .nameAndType 5 18), (0, u "(JJ)V"), (0, .methodref 14 20), (0, .nameAndType 21 22), (0, u "next"), (0, u "()J"), (0, .methodref 14 24), (0, .nameAndType 25 26), (0, u "below"), (0, u "(I)I"), (2, .long 9223372036854775807), (1, .long 11400714819323198485), (1, .methodref 14 34), (0, .nameAndType 35 22), (0, u "seed"), (0, .methodref 14 37), (0, .nameAndType 38 22), (0, u "state"), (0, .long 2), (1, .class_ 42), (0, u "com/example/due_share/dueshare/DrawsBelowPinLaw"), (2, u "law"), (0, u "(JJI)Z")] 3

def k1m0 : Method := { name := "<init>", desc := "()V", sig := { parameters := [], returnType := none }, accessFlags := 1, code := none }
def k1c1 : Code := { maxStack := 8, maxLocals := 20, code := code, exceptionTable := #[], attributes := #[] }
def k1m1 : Method := { name := "law", desc := "(JJI)Z", sig := { parameters := [.long, .long, .int], returnType := some .boolean }, accessFlags := 9, code := some k1c1 }
/-- com/example/due_share/dueshare/DrawsBelowPinLaw -/
def k1 : Class := { plain "com/example/due_share/dueshare/DrawsBelowPinLaw" (some 0) with
  accessFlags := 49
  interfaces := #[]
  cf := some (fileOf pool1 41 #[] #[{ accessFlags := 1, nameIndex := 5, descriptorIndex := 6, attributes := #[] }, { accessFlags := 9, nameIndex := 45, descriptorIndex := 46, attributes := #[] }] 49 2 #[] #[])
  fields := #[]
  methods := #[k1m0, k1m1]
  instanceTypes := #[]
  staticTypes := #[]
  resolved := Array.replicate 50 none
  statics := none }

def pool2 : Array CpInfo := pool [(1, .class_ 2), (0, u "java/lang/Math"), (1, .class_ 6), (1, u "java/lang/Object"), (0, u "<init>"), (0, u "()V"), (89, .class_ 100), (1, u "java/lang/Math$RandomNumberGeneratorHolder"), (71, u "negativeZeroFloatBits"), (0, u "J"), (2, u "negativeZeroDoubleBits"), (21, u "max"), (46, u "$assertionsDisabled"), (0, u "Z"), (88, u "(II)I"), (2, u "twoToTheDoubleScaleDown"), (0, u "D"), (4, u "twoToTheDoubleScaleUp"), (9, u "E"), (3, u "PI"), (2, u "TAU"), (2, u "DEGREES_TO_RADIANS"), (0, u "RADIANS_TO_DEGREES")] 94

def k2m0 : Method := { name := "<init>", desc := "()V", sig := { parameters := [], returnType := none }, accessFlags := 2, code := none }
def k2c1 : Code := { maxStack := 2, maxLocals := 2, code := jdk_29_method_65_code, exceptionTable := #[], attributes := #[] }
def k2m1 : Method := { name := "max", desc := "(II)I", sig := { parameters := [.int, .int], returnType := some .int }, accessFlags := 9, code := some k2c1 }
/-- java/lang/Math -/
def k2 : Class := { plain "java/lang/Math" (some 0) with
  accessFlags := 49
  interfaces := #[]
  cf := some (fileOf pool2 1 #[.nestMembers #[98]] #[{ accessFlags := 2, nameIndex := 7, descriptorIndex := 8, attributes := #[] }, { accessFlags := 9, nameIndex := 198, descriptorIndex := 335, attributes := #[] }] 49 4 #[] #[{ accessFlags := 25, nameIndex := 354, descriptorIndex := 339, attributes := #[] }, { accessFlags := 25, nameIndex := 358, descriptorIndex := 339, attributes := #[] }, { accessFlags := 25, nameIndex := 361, descriptorIndex := 339, attributes := #[] }, { accessFlags := 26, nameIndex := 364, descriptorIndex := 339, attributes := #[] }, { accessFlags := 26, nameIndex := 365, descriptorIndex := 339, attributes := #[] }, { accessFlags := 26, nameIndex := 172, descriptorIndex := 173, attributes := #[] }, { accessFlags := 26, nameIndex := 176, descriptorIndex := 173, attributes := #[] }, { accessFlags := 8, nameIndex := 344, descriptorIndex := 339, attributes := #[] }, { accessFlags := 8, nameIndex := 338, descriptorIndex := 339, attributes := #[] }, { accessFlags := 4120, nameIndex := 245, descriptorIndex := 246, attributes := #[] }])
  fields := #[{ name := "E", type := .double, accessFlags := 25, slot := 0, constantValue := 0 }, { name := "PI", type := .double, accessFlags := 25, slot := 1, constantValue := 0 }, { name := "TAU", type := .double, accessFlags := 25, slot := 2, constantValue := 0 }, { name := "DEGREES_TO_RADIANS", type := .double, accessFlags := 26, slot := 3, constantValue := 0 }, { name := "RADIANS_TO_DEGREES", type := .double, accessFlags := 26, slot := 4, constantValue := 0 }, { name := "negativeZeroFloatBits", type := .long, accessFlags := 26, slot := 5, constantValue := 0 }, { name := "negativeZeroDoubleBits", type := .long, accessFlags := 26, slot := 6, constantValue := 0 }, { name := "twoToTheDoubleScaleUp", type := .double, accessFlags := 8, slot := 7, constantValue := 0 }, { name := "twoToTheDoubleScaleDown", type := .double, accessFlags := 8, slot := 8, constantValue := 0 }, { name := "$assertionsDisabled", type := .boolean, accessFlags := 4120, slot := 9, constantValue := 0 }]
  methods := #[k2m0, k2m1]
  instanceTypes := #[]
  staticTypes := #[.double, .double, .double, .double, .double, .long, .long, .double, .double, .boolean]
  resolved := Array.replicate 460 none
  statics := none }

def pool3 : Array CpInfo := pool [(1, .methodref 2 3), (0, .class_ 4), (0, .nameAndType 5 6), (0, u "java/lang/Object"), (0, u "<init>"), (0, u "()V"), (0, .fieldref 8 9), (0, .class_ 10), (0, .nameAndType 11 12), (0, u "com/example/due_share/dueshare/Draws"), (0, u "seed"), (0, u "J"), (0, .fieldref 8 14), (0, .nameAndType 15 12), (0, u "state"), (2, u "(JJ)V"), (9, .methodref 8 29), (0, .nameAndType 30 31), (0, u "next"), (0, u "()J"), (2, .long 9223372036854775807), (1, .long 11400714819323198485), (1, .long 13787848793156543929), (1, .long 10723151780598845931), (1, u "GAMMA"), (5, u "below"), (0, u "(I)I")] 18

def k3c0 : Code := { maxStack := 3, maxLocals := 5, code := prog_6_method_1_code, exceptionTable := #[], attributes := #[] }
def k3m0 : Method := { name := "<init>", desc := "(JJ)V", sig := { parameters := [.long, .long], returnType := none }, accessFlags := 0, code := some k3c0 }
def k3c1 : Code := { maxStack := 2, maxLocals := 1, code := prog_6_method_3_code, exceptionTable := #[], attributes := #[] }
def k3m1 : Method := { name := "seed", desc := "()J", sig := { parameters := [], returnType := some .long }, accessFlags := 0, code := some k3c1 }
def k3c2 : Code := { maxStack := 2, maxLocals := 1, code := prog_6_method_4_code, exceptionTable := #[], attributes := #[] }
def k3m2 : Method := { name := "state", desc := "()J", sig := { parameters := [], returnType := some .long }, accessFlags := 0, code := some k3c2 }
def k3c3 : Code := { maxStack := 6, maxLocals := 6, code := prog_6_method_5_code, exceptionTable := #[], attributes := #[] }
def k3m3 : Method := { name := "below", desc := "(I)I", sig := { parameters := [.int], returnType := some .int }, accessFlags := 0, code := some k3c3 }
def k3c4 : Code := { maxStack := 5, maxLocals := 3, code := prog_6_method_6_code, exceptionTable := #[], attributes := #[] }
def k3m4 : Method := { name := "next", desc := "()J", sig := { parameters := [], returnType := some .long }, accessFlags := 0, code := some k3c4 }
/-- com/example/due_share/dueshare/Draws -/
def k3 : Class := { plain "com/example/due_share/dueshare/Draws" (some 0) with
  accessFlags := 32
  interfaces := #[]
  cf := some (fileOf pool3 8 #[] #[{ accessFlags := 0, nameIndex := 5, descriptorIndex := 18, attributes := #[] }, { accessFlags := 0, nameIndex := 11, descriptorIndex := 31, attributes := #[] }, { accessFlags := 0, nameIndex := 15, descriptorIndex := 31, attributes := #[] }, { accessFlags := 0, nameIndex := 48, descriptorIndex := 49, attributes := #[] }, { accessFlags := 0, nameIndex := 30, descriptorIndex := 31, attributes := #[] }] 32 2 #[] #[{ accessFlags := 26, nameIndex := 42, descriptorIndex := 12, attributes := #[] }, { accessFlags := 18, nameIndex := 11, descriptorIndex := 12, attributes := #[] }, { accessFlags := 2, nameIndex := 15, descriptorIndex := 12, attributes := #[] }])
  fields := #[{ name := "GAMMA", type := .long, accessFlags := 26, slot := 0, constantValue := 0 }, { name := "seed", type := .long, accessFlags := 18, slot := 0, constantValue := 0 }, { name := "state", type := .long, accessFlags := 2, slot := 1, constantValue := 0 }]
  methods := #[k3m0, k3m1, k3m2, k3m3, k3m4]
  instanceTypes := #[.long, .long]
  staticTypes := #[.long]
  resolved := Array.replicate 68 none
  statics := none }

def pool4 : Array CpInfo := pool [(1, u "java/lang/Cloneable"), (0, .class_ 1), (0, u "java/lang/Object"), (0, .class_ 3)] 3

/-- java/lang/Cloneable -/
def k4 : Class := { plain "java/lang/Cloneable" (some 0) with
  accessFlags := 1537
  interfaces := #[]
  cf := some (fileOf pool4 2 #[] #[] 1537 4 #[] #[])
  fields := #[]
  methods := #[]
  instanceTypes := #[]
  staticTypes := #[]
  resolved := Array.replicate 8 none
  statics := none }

def pool5 : Array CpInfo := pool [(1, u "java/io/Serializable"), (0, .class_ 1), (0, u "java/lang/Object"), (0, .class_ 3)] 3

/-- java/io/Serializable -/
def k5 : Class := { plain "java/io/Serializable" (some 0) with
  accessFlags := 1537
  interfaces := #[]
  cf := some (fileOf pool5 2 #[] #[] 1537 4 #[] #[])
  fields := #[]
  methods := #[]
  instanceTypes := #[]
  staticTypes := #[]
  resolved := Array.replicate 8 none
  statics := none }

/-- the primitive byte -/
def k6 : Class := { plain "byte" none with kind := .primitive 'B', accessFlags := 0x411 }
/-- [B -/
def k7 : Class := { plain "[B" (some 0) with kind := .array 6 .byte, interfaces := #[4, 5], accessFlags := 1041 }

/-- the primitive int -/
def k8 : Class := { plain "int" none with kind := .primitive 'I', accessFlags := 0x411 }
/-- [I -/
def k9 : Class := { plain "[I" (some 0) with kind := .array 8 .int, interfaces := #[4, 5], accessFlags := 1041 }

def heap : Heap := #[]
def classes : Array Class := #[k0, k1, k2, k3, k4, k5, k6, k7, k8, k9]
def interned : List (Array UInt16 × Addr) := []
def slotsUsed : Nat := 0
def theMethod : MethodId := ⟨1, 1⟩
def args0 : Array Value := #[.long 5, .long 6, .int 7]
def aboutOver (below : List Frame) : State where
  vm := { classes := classes, interned := interned.toArray }
  heap := heap
  slotsUsed := slotsUsed
  threads := #[{ frames := .invoking theMethod args0 :: below }]
def below0 : List Frame := [.native { method := ⟨0, 0⟩, args := #[] }]
def about1 : State := aboutOver below0
def p0 : Program := .bare "" "" ""
def e0 : Env := launch0.env 0 0 0
theorem w_frames : about1.frames = Frame.invoking theMethod args0 :: below0 := rfl
set_option maxRecDepth 65536 in
theorem w_args : argsFit about1.vm theMethod args0 = true := by decide +kernel
set_option maxRecDepth 65536 in
theorem w_heap : heapFits about1 = true := by decide +kernel
set_option maxRecDepth 65536 in
theorem w_runnable : about1.curStatus? = some .runnable := by decide +kernel
set_option maxRecDepth 65536 in
theorem w_alone : about1.alone = true := by decide +kernel
set_option maxRecDepth 65536 in
theorem w_named : about1.methodNamed? x = some theMethod := by decide +kernel
set_option maxRecDepth 65536 in
theorem w_hears : about1.hears theMethod below0 = true := by decide +kernel
set_option maxRecDepth 65536 in
theorem w_ripe : about1.ripe theMethod args0 below0 = true := by decide +kernel
theorem w_running : about1.status = .running := rfl
set_option maxRecDepth 65536 in
theorem w_room : about1.hasRoom e0.platform room_1 = true :=
  launch0.hasRoom_least _ room_1 (by decide +kernel) (by decide +kernel) (by decide +kernel) (by decide +kernel) (by decide +kernel) (by decide +kernel)
theorem allAtoms_all (ts : List Jvm.Cond) (a : Array Jvm.Value) (st : Jvm.State) : (allAtoms ts).before a st = ts.all (fun c => c.before a st) := by
  induction ts with
  | nil => rfl
  | cons c t ih =>
    show (Jvm.Cond.and c (allAtoms t)).before a st = _
    rw [Jvm.Cond.before_and, ih, List.all_cons]
def words1 : List Jvm.Cond := Jvm.Cond.code x code maxLocals ret :: tables_1
/-- a 'code' word, met by the world's own term for the bytes: nothing is compared byte by byte -/
theorem code_word {y : MethodName} {bytes : ByteArray} {mx : Nat} {rt : Option FieldType} {a : Array Value} {s : State} {m : MethodId} {meth : Method} {c : Code} (h1 : s.methodNamed? y = some m) (h2 : s.vm.method? m = some meth) (h3 : meth.code = some c) (h4 : c.code = bytes)
    (h5 : (c.maxLocals == mx && c.exceptionTable.isEmpty && decide (c.maxStack ≤ mostOperands) && decide (meth.sig.returnType = rt) && !meth.locks && decide (parseMethodDescriptor y.desc = some meth.sig)) = true) : (Jvm.Cond.code y bytes mx rt).before a s = true := by
  simp only [Bool.and_eq_true, beq_iff_eq, Bool.not_eq_true', decide_eq_true_eq] at h5
  obtain ⟨⟨⟨⟨⟨g1, g2⟩, g3⟩, g4⟩, g5⟩, g6⟩ := h5
  simp [Cond.before, Cond.holds, Cond.value, h1, h2, h3, h4, g1, g2, g3, g4, g5, g6]
def isCode : Jvm.Cond → Bool
  | .code _ _ _ _ => true
  | _ => false
theorem all_split {L : List Jvm.Cond} {P : Jvm.Cond → Bool} (h1 : L.all (fun c => isCode c || P c) = true) (h2 : ∀ c ∈ L.filter isCode, P c = true) : L.all P = true := by
  refine List.all_eq_true.mpr fun c hc => ?_
  have h := List.all_eq_true.mp h1 c hc
  rcases Bool.eq_false_or_eq_true (isCode c) with hi | hi
  · exact h2 c (List.mem_filter.mpr ⟨hc, hi⟩)
  · simpa [hi] using h
set_option maxRecDepth 65536 in
theorem w_c0 : (Jvm.Cond.code x code maxLocals ret).before args0 about1 = true := code_word (m := ⟨1, 1⟩) (meth := k1m1) (c := k1c1) (by decide +kernel) rfl rfl rfl (by decide +kernel)
set_option maxRecDepth 65536 in
theorem w_c1 : (Jvm.Cond.code ({ cls := "java/lang/Math", name := "max", desc := "(II)I" } : Jvm.MethodName) jdk_29_method_65_code (2 : Nat) (Option.some Jvm.ClassFile.FieldType.int)).before args0 about1 = true := code_word (m := ⟨2, 1⟩) (meth := k2m1) (c := k2c1) (by decide +kernel) rfl rfl rfl (by decide +kernel)
set_option maxRecDepth 65536 in
theorem w_c2 : (Jvm.Cond.code ({ cls := "com/example/due_share/dueshare/Draws", name := "<init>", desc := "(JJ)V" } : Jvm.MethodName) prog_6_method_1_code (5 : Nat) (Option.none : Option Jvm.ClassFile.FieldType)).before args0 about1 = true := code_word (m := ⟨3, 0⟩) (meth := k3m0) (c := k3c0) (by decide +kernel) rfl rfl rfl (by decide +kernel)
set_option maxRecDepth 65536 in
theorem w_c3 : (Jvm.Cond.code ({ cls := "java/lang/Object", name := "<init>", desc := "()V" } : Jvm.MethodName) object_method_1_code (1 : Nat) (Option.none : Option Jvm.ClassFile.FieldType)).before args0 about1 = true := code_word (m := ⟨0, 0⟩) (meth := k0m0) (c := k0c0) (by decide +kernel) rfl rfl rfl (by decide +kernel)
set_option maxRecDepth 65536 in
theorem w_c4 : (Jvm.Cond.code ({ cls := "com/example/due_share/dueshare/Draws", name := "next", desc := "()J" } : Jvm.MethodName) prog_6_method_6_code (3 : Nat) (Option.some Jvm.ClassFile.FieldType.long)).before args0 about1 = true := code_word (m := ⟨3, 4⟩) (meth := k3m4) (c := k3c4) (by decide +kernel) rfl rfl rfl (by decide +kernel)
set_option maxRecDepth 65536 in
theorem w_c5 : (Jvm.Cond.code ({ cls := "com/example/due_share/dueshare/Draws", name := "below", desc := "(I)I" } : Jvm.MethodName) prog_6_method_5_code (6 : Nat) (Option.some Jvm.ClassFile.FieldType.int)).before args0 about1 = true := code_word (m := ⟨3, 3⟩) (meth := k3m3) (c := k3c3) (by decide +kernel) rfl rfl rfl (by decide +kernel)
set_option maxRecDepth 65536 in
theorem w_c6 : (Jvm.Cond.code ({ cls := "com/example/due_share/dueshare/Draws", name := "seed", desc := "()J" } : Jvm.MethodName) prog_6_method_3_code (1 : Nat) (Option.some Jvm.ClassFile.FieldType.long)).before args0 about1 = true := code_word (m := ⟨3, 1⟩) (meth := k3m1) (c := k3c1) (by decide +kernel) rfl rfl rfl (by decide +kernel)
set_option maxRecDepth 65536 in
theorem w_c7 : (Jvm.Cond.code ({ cls := "com/example/due_share/dueshare/Draws", name := "state", desc := "()J" } : Jvm.MethodName) prog_6_method_4_code (1 : Nat) (Option.some Jvm.ClassFile.FieldType.long)).before args0 about1 = true := code_word (m := ⟨3, 2⟩) (meth := k3m2) (c := k3c2) (by decide +kernel) rfl rfl rfl (by decide +kernel)
def codes1 : List Jvm.Cond := [Jvm.Cond.code x code maxLocals ret, Jvm.Cond.code ({ cls := "java/lang/Math", name := "max", desc := "(II)I" } : Jvm.MethodName) jdk_29_method_65_code (2 : Nat) (Option.some Jvm.ClassFile.FieldType.int), Jvm.Cond.code ({ cls := "com/example/due_share/dueshare/Draws", name := "<init>", desc := "(JJ)V" } : Jvm.MethodName) prog_6_method_1_code (5 : Nat) (Option.none : Option Jvm.ClassFile.FieldType), Jvm.Cond.code ({ cls := "java/lang/Object", name := "<init>", desc := "()V" } : Jvm.MethodName) object_method_1_code (1 : Nat) (Option.none : Option Jvm.ClassFile.FieldType), Jvm.Cond.code ({ cls := "com/example/due_share/dueshare/Draws", name := "next", desc := "()J" } : Jvm.MethodName) prog_6_method_6_code (3 : Nat) (Option.some Jvm.ClassFile.FieldType.long), Jvm.Cond.code ({ cls := "com/example/due_share/dueshare/Draws", name := "below", desc := "(I)I" } : Jvm.MethodName) prog_6_method_5_code (6 : Nat) (Option.some Jvm.ClassFile.FieldType.int), Jvm.Cond.code ({ cls := "com/example/due_share/dueshare/Draws", name := "seed", desc := "()J" } : Jvm.MethodName) prog_6_method_3_code (1 : Nat) (Option.some Jvm.ClassFile.FieldType.long), Jvm.Cond.code ({ cls := "com/example/due_share/dueshare/Draws", name := "state", desc := "()J" } : Jvm.MethodName) prog_6_method_4_code (1 : Nat) (Option.some Jvm.ClassFile.FieldType.long)]
set_option maxRecDepth 65536 in
theorem codes_eq : words1.filter isCode = codes1 := rfl
theorem w_codes : ∀ c ∈ words1.filter isCode, c.before args0 about1 = true := by
  rw [codes_eq]
  intro c hc
  simp only [codes1, List.mem_cons, List.not_mem_nil, or_false] at hc
  rcases hc with rfl | rfl | rfl | rfl | rfl | rfl | rfl | rfl
  · exact w_c0
  · exact w_c1
  · exact w_c2
  · exact w_c3
  · exact w_c4
  · exact w_c5
  · exact w_c6
  · exact w_c7
set_option maxRecDepth 65536 in
theorem w_t1 : (words1.take 24).all (fun c => isCode c || c.before args0 about1) = true := by decide +kernel
set_option maxRecDepth 65536 in
theorem w_t2 : (words1.drop 24).all (fun c => isCode c || c.before args0 about1) = true := by decide +kernel
theorem w_tables : (allAtoms (Jvm.Cond.code x code maxLocals ret :: tables_1)).before args0 about1 = true := by
  rw [allAtoms_all]
  show words1.all (fun c => c.before args0 about1) = true
  refine all_split ?_ w_codes
  rw [← List.take_append_drop 24 words1, List.all_append, w_t1, w_t2]
  rfl
set_option maxRecDepth 65536 in
theorem w_case : (Jvm.Cond.and given_1 narrow_1).before args0 about1 = true := by decide +kernel
theorem w_applies : (headSpec (Jvm.Cond.code x code maxLocals ret :: tables_1) room_1).applies x e0.platform about1 = true :=
  (Spec.applies_iff w_frames).mpr ⟨w_running, w_runnable, w_alone, w_named, w_hears, w_ripe, w_room, w_tables⟩
theorem atStart : AtStart classFile x code maxLocals ret World_1 tables_1 room_1 Calls_1 rest_1 Pre_1 launch0 p0 e0 about1 theMethod args0 below0 :=
  ⟨lists_1, trivial, launch0.admits_env _ _ _, launch0.least_env, fairChoices_fair.cas, fairChoices_fair.clock, w_frames, w_args, w_heap, w_applies, trivial, trivial, w_case⟩
end start1
theorem witness_1 : WitnessClaimed_1 := ⟨start1.p0, start1.e0, start1.about1, start1.theMethod, start1.args0, start1.below0, start1.atStart⟩
end Jvm.Pilot.@@N@@
