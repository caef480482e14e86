import JvmDerived
import JvmDerived.Pilot.@@N@@Statement
import JvmDerived.Pilot.@@N@@Code
set_option linter.unusedVariables false
set_option linter.unusedSimpArgs false
namespace Jvm.OwnKit
open Sem ClassFile Op Lib Jvm.Stand Jvm.Free Jvm.LawKit Jvm.RoadKit
/-- what is fixed in the whole proof: the launch, the start (whose tables the words speak of), its arguments, the least new address -/
abbrev Gx := Launch × State × Array Value × Nat
abbrev Gx.l (G : Gx) : Launch := G.1
abbrev Gx.Z (G : Gx) : State := G.2.1
abbrev Gx.a0 (G : Gx) : Array Value := G.2.2.1
abbrev Gx.n0 (G : Gx) : Nat := G.2.2.2
/-- what is fixed in one body's walk -/
abbrev Kx := Program × Env × State × MethodId × Array Value × List Frame × Method × Code
abbrev Kx.p (K : Kx) : Program := K.1
abbrev Kx.e (K : Kx) : Env := K.2.1
abbrev Kx.s (K : Kx) : State := K.2.2.1
abbrev Kx.m (K : Kx) : MethodId := K.2.2.2.1
abbrev Kx.args (K : Kx) : Array Value := K.2.2.2.2.1
abbrev Kx.below (K : Kx) : List Frame := K.2.2.2.2.2.1
abbrev Kx.meth (K : Kx) : Method := K.2.2.2.2.2.2.1
abbrev Kx.c (K : Kx) : Code := K.2.2.2.2.2.2.2
def Cx (G : Gx) (K : Kx) (own nm : String) (bytes : ByteArray) (maxL : Nat) (ret : Option FieldType) (W : List Jvm.Cond) : Prop :=
  K.p.tables.exec = Jvm.exec ∧ G.Z.Warmed39 K.s.vm ∧ K.c.code = bytes ∧ K.c.maxLocals = maxL ∧ K.s.vm.findClass own = some K.m.cls ∧ K.meth.name = nm ∧ K.meth.sig.returnType = ret ∧ K.meth.locks = false ∧ ∀ d ∈ W, d.before G.a0 G.Z = true
section Cxs
variable {G : Gx} {K : Kx} {own nm : String} {bytes : ByteArray} {maxL : Nat} {ret : Option FieldType} {W : List Jvm.Cond}
theorem Cx.hx (C : Cx G K own nm bytes maxL ret W) : K.p.tables.exec = Jvm.exec := C.1
theorem Cx.hZ (C : Cx G K own nm bytes maxL ret W) : G.Z.Warmed39 K.s.vm := C.2.1
theorem Cx.by (C : Cx G K own nm bytes maxL ret W) : K.c.code = bytes := C.2.2.1
theorem Cx.ml (C : Cx G K own nm bytes maxL ret W) : K.c.maxLocals = maxL := C.2.2.2.1
theorem Cx.ow (C : Cx G K own nm bytes maxL ret W) : K.s.vm.findClass own = some K.m.cls := C.2.2.2.2.1
theorem Cx.name (C : Cx G K own nm bytes maxL ret W) : K.meth.name = nm := C.2.2.2.2.2.1
theorem Cx.rt (C : Cx G K own nm bytes maxL ret W) : K.meth.sig.returnType = ret := C.2.2.2.2.2.2.1
theorem Cx.lk (C : Cx G K own nm bytes maxL ret W) : K.meth.locks = false := C.2.2.2.2.2.2.2.1
theorem Cx.w (C : Cx G K own nm bytes maxL ret W) {i : Nat} {d : Jvm.Cond} (h : W[i]? = some d) : d.before G.a0 G.Z = true := C.2.2.2.2.2.2.2.2 d (List.mem_of_getElem? h)
end Cxs
/-- the run stands in this body at pc with these locals and this stack, over the heap h, having made so many cells and slots: it ends as Q says -/
def N (G : Gx) (K : Kx) (rm : Room) (Q : Option Value → Heap → Prop) (h : Heap) (cells slots pc : Nat) (ls : Array Slot) (st : List Value) : Prop :=
  ∀ (T : State) (locs : List Loc), Stand K.p G.l K.e rm K.s K.m K.args K.below K.meth K.c T locs cells slots → T.heap = h → Fr G.n0 locs →
    ∃ s₂ o, Steps K.p.tables K.e K.below (T.setTop (mkF K.m pc ls st)) s₂ ∧ s₂.status = .running ∧ Ended s₂ K.below o ∧ ∃ v L, o = .returned v ∧ (Q v s₂.heap ∧ Fr G.n0 L) ∧ FrameEnd K.s o s₂ L rm.cells rm.slots
/-- a body's contract -/
def Con (G : Gx) (y : MethodName) (bytes : ByteArray) (maxL : Nat) (ret : Option FieldType) (rm : Room) (as : Array Value) (h : Heap) (Q : Option Value → Heap → Prop) : Prop :=
  ∀ ws : List Jvm.Cond, MetFree G.l y (head1 (Jvm.Cond.code y bytes maxL ret :: ws) rm) (fun a U => a = as ∧ G.Z.Warmed39 U.vm ∧ U.heap = h) (fun _ _ _ _ _ => True) (fun _ U o U' => ∃ v L, o = .returned v ∧ (Q v U'.heap ∧ Fr G.n0 L) ∧ FrameEnd U o U' L rm.cells rm.slots)
theorem Con.of {G : Gx} {y : MethodName} {bytes : ByteArray} {maxL : Nat} {ret : Option FieldType} {rm : Room} {as : Array Value} {h : Heap} {Q : Option Value → Heap → Prop} {W : List Jvm.Cond} {ls : Array Slot} (hpl : plainFor y = true) (hW : ∀ d ∈ W, d.before G.a0 G.Z = true)
    (he : ∀ m, entryFrame m as maxL = mkF m 0 ls []) (body : ∀ K : Kx, Cx G K y.cls y.name bytes maxL ret W → N G K rm Q h 0 0 0 ls []) : Con G y bytes maxL ret rm as h Q := fun ws => by
  refine MetFree.of_bodySF hpl hisR ?_
  intro p e s m args below meth c s₁ Bd hml hP hK
  obtain ⟨rfl, hZ, hh⟩ := hP
  have X0 : Stand p G.l e rm s m args below meth c s₁ [] 0 0 := Stand.of_body Bd
  obtain ⟨s₂, o, h1, h2, h3, h4⟩ := body (p, e, s, m, args, below, meth, c) ⟨Bd.exec, hZ, Bd.bytes, hml, findClass_of_methodNamed Bd.named, (name_of_methodNamed Bd.named Bd.method).1, Bd.returns, BodyLoose.notSynchronized Bd, hW⟩ s₁ [] X0 (by rw [← hh, Bd.state]; rfl) (Fr.nil _)
  exact ⟨s₂, o, castTop (he m) h1, h2, h3, h4⟩
theorem Con.mono {G : Gx} {y : MethodName} {bytes : ByteArray} {maxL : Nat} {ret : Option FieldType} {rm : Room} {as : Array Value} {h : Heap} {Q Q' : Option Value → Heap → Prop} (M : Con G y bytes maxL ret rm as h Q) (f : ∀ v h', Q v h' → Q' v h') : Con G y bytes maxL ret rm as h Q' := fun ws p e ha hc hk s m args below hf happ hP hK => by
  obtain ⟨n, o, h1, h2, h3, v, L, h4, ⟨h5, h6⟩, h7⟩ := M ws p e ha hc hk s m args below hf happ hP hK
  exact ⟨n, o, h1, h2, h3, v, L, h4, ⟨f _ _ h5, h6⟩, h7⟩
def cmpP : ClassFile.Cond → Int32 → Int32 → Prop
  | .eq, x, y => x = y
  | .ne, x, y => ¬ x = y
  | .lt, x, y => x.toInt < y.toInt
  | .ge, x, y => y.toInt ≤ x.toInt
  | .gt, x, y => y.toInt < x.toInt
  | .le, x, y => x.toInt ≤ y.toInt
def cmpN : ClassFile.Cond → Int32 → Int32 → Prop
  | .eq, x, y => ¬ x = y
  | .ne, x, y => x = y
  | .lt, x, y => y.toInt ≤ x.toInt
  | .ge, x, y => x.toInt < y.toInt
  | .gt, x, y => x.toInt ≤ y.toInt
  | .le, x, y => y.toInt < x.toInt
theorem cmp_or (cd : ClassFile.Cond) (x y : Int32) : (if_icmp.holds cd x y = true ∧ cmpP cd x y) ∨ (if_icmp.holds cd x y = false ∧ cmpN cd x y) := by
  have e1 := @Int32.lt_iff_toInt_lt x y
  have e2 := @Int32.lt_iff_toInt_lt y x
  by_cases h1 : x < y
  · obtain ⟨a1, a2, a3, a4⟩ := tlt h1
    have q := e1.mp h1
    have n : ¬ x = y := fun e => by subst e; omega
    obtain ⟨b1, b2⟩ := feq n
    have n' : ¬ y < x := fun z => by have := e2.mp z; omega
    obtain ⟨c1, c2, c3, c4⟩ := flt n'
    cases cd <;> simp only [cmpP, cmpN] <;> simp_all <;> omega
  · obtain ⟨a1, a2, a3, a4⟩ := flt h1
    have q : ¬ x.toInt < y.toInt := fun z => h1 (e1.mpr z)
    by_cases h2 : x = y
    · obtain ⟨b1, b2⟩ := teq h2
      subst h2
      obtain ⟨c1, c2, c3, c4⟩ := flt h1
      cases cd <;> simp only [cmpP, cmpN] <;> simp_all
    · obtain ⟨b1, b2⟩ := feq h2
      have q2 : ¬ x.toInt = y.toInt := fun z => h2 (Int32.toInt_inj.mp z)
      obtain ⟨c1, c2, c3, c4⟩ := tlt (e2.mpr (by omega : y.toInt < x.toInt))
      cases cd <;> simp only [cmpP, cmpN] <;> simp_all <;> omega
def cmpPL : ClassFile.Cond → Int64 → Int64 → Prop
  | .eq, x, y => x = y
  | .ne, x, y => ¬ x = y
  | .lt, x, y => x.toInt < y.toInt
  | .ge, x, y => y.toInt ≤ x.toInt
  | .gt, x, y => y.toInt < x.toInt
  | .le, x, y => x.toInt ≤ y.toInt
def cmpNL : ClassFile.Cond → Int64 → Int64 → Prop
  | .eq, x, y => ¬ x = y
  | .ne, x, y => x = y
  | .lt, x, y => y.toInt ≤ x.toInt
  | .ge, x, y => x.toInt < y.toInt
  | .gt, x, y => x.toInt ≤ y.toInt
  | .le, x, y => y.toInt < x.toInt
theorem cmp_orL (cd : ClassFile.Cond) (x y : Int64) : (ifCond.holds cd (lcmpW x y) = true ∧ cmpPL cd x y) ∨ (ifCond.holds cd (lcmpW x y) = false ∧ cmpNL cd x y) := by
  have hl : (lcmpW x y).toInt < (0 : Int32).toInt ↔ x.toInt < y.toInt := by rw [← Int32.lt_iff_toInt_lt, ← Int64.lt_iff_toInt_lt]; exact lw_lt x y
  have hg : (0 : Int32).toInt < (lcmpW x y).toInt ↔ y.toInt < x.toInt := by rw [← Int32.lt_iff_toInt_lt, ← Int64.lt_iff_toInt_lt]; exact lw_gt x y
  have he := lw_eq x y
  generalize lcmpW x y = z at *
  rw [if0]
  rcases cmp_or cd z 0 with ⟨h1, h2⟩ | ⟨h1, h2⟩
  · refine Or.inl ⟨h1, ?_⟩
    cases cd <;> simp only [cmpP, cmpPL] at h2 ⊢ <;> first | exact he.mp h2 | exact fun q => h2 (he.mpr q) | omega
  · refine Or.inr ⟨h1, ?_⟩
    cases cd <;> simp only [cmpN, cmpNL] at h2 ⊢ <;> first | exact he.mp h2 | exact fun q => h2 (he.mpr q) | omega
/-- the array at x, of that type, holds just these -/
def Av (Z : State) (h : Heap) (x : Addr) (ty : FieldType) (vs : List Value) : Prop := ∃ c : Cell, Arr Z h x c ty ∧ c.slots.toList = vs
theorem ix {j : Int32} {i : Nat} (h : j.toInt = (i : Int)) : ¬ j < 0 ∧ j.toNatClampNeg = i := by
  refine ⟨fun q => ?_, ?_⟩
  · have := Int32.lt_iff_toInt_lt.mp q
    have e0 : (0 : Int32).toInt = 0 := by decide
    omega
  · show j.toInt.toNat = i
    omega
theorem ixin {j : Int32} {i n : Nat} (h : j.toInt = (i : Int)) (hi : i < n) : ¬ (j < 0 ∨ n ≤ j.toNatClampNeg) := by
  obtain ⟨h1, h2⟩ := ix h
  rintro (q | q)
  · exact h1 q
  · omega
theorem eqI {x y : Int32} (h : x = y) : x.toInt = y.toInt := h ▸ rfl
theorem neI {x y : Int32} (h : ¬ x = y) : ¬ x.toInt = y.toInt := fun q => h (Int32.toInt_inj.mp q)
theorem eqL {x y : Int64} (h : x = y) : x.toInt = y.toInt := h ▸ rfl
theorem neL {x y : Int64} (h : ¬ x = y) : ¬ x.toInt = y.toInt := fun q => h (Int64.toInt_inj.mp q)
section Avs
variable {Z : State} {h h' : Heap} {x y : Addr} {ty : FieldType} {vs : List Value} {i : Nat} {v : Value} {sl : Nat} {ws : List Addr}
theorem Av.lt (A : Av Z h x ty vs) : x < h.size := by obtain ⟨c, A, -⟩ := A; exact A.lt
theorem Av.ext (A : Av Z h x ty vs) (E : Ext h h') : Av Z h' x ty vs := by obtain ⟨c, A, r⟩ := A; exact ⟨c, A.ext E, r⟩
theorem Av.other (A : Av Z h x ty vs) (W : Wr h h' y sl v) (q : x ≠ y) : Av Z h' x ty vs := by obtain ⟨c, A, r⟩ := A; exact ⟨c, A.other W q, r⟩
theorem Av.keep (A : Av Z h x ty vs) (K : Keep h h' ws) (q : x ∉ ws) : Av Z h' x ty vs := by obtain ⟨c, A, r⟩ := A; exact ⟨c, ⟨K.2.1 x c A.1 q, A.2⟩, r⟩
theorem Av.same (A : Av Z h x ty vs) (W : Wr h h' x i v) : Av Z h' x ty (vs.set i v) := by
  obtain ⟨c, A, rfl⟩ := A
  exact ⟨_, A.same W, by simp [Cell.setSlot]⟩
theorem Av.new {k : ClassId} {z : Int32} (A : Arr Z h x (newA k ty z) ty) : Av Z h x ty (List.replicate z.toNatClampNeg (defaultValue ty)) := ⟨_, A, by simp [newA]⟩
end Avs
section Rules
variable {G : Gx} {K : Kx} {rm : Room} {own nm : String} {bytes : ByteArray} {maxL : Nat} {ret : Option FieldType} {W : List Jvm.Cond} {Q Q' : Option Value → Heap → Prop} {h : Heap} {a b pc pc' : Nat} {ls ls' : Array Slot} {st st' : List Value}
theorem N.step (f : ∀ T, At T K.m K.c K.below → ∀ t, Steps K.p.tables K.e K.below (T.setTop (mkF K.m pc' ls' st')) t → Steps K.p.tables K.e K.below (T.setTop (mkF K.m pc ls st)) t) (k : N G K rm Q h a b pc' ls' st') : N G K rm Q h a b pc ls st := fun T locs X e F => by
  obtain ⟨s₂, o, hs, r⟩ := k T locs X e F
  exact ⟨s₂, o, f T X.here _ hs, r⟩
theorem N.stX (f : ∀ (T : State) (locs : List Loc), Stand K.p G.l K.e rm K.s K.m K.args K.below K.meth K.c T locs a b → T.heap = h → ∀ t, Steps K.p.tables K.e K.below (T.setTop (mkF K.m pc' ls' st')) t → Steps K.p.tables K.e K.below (T.setTop (mkF K.m pc ls st)) t) (k : N G K rm Q h a b pc' ls' st') : N G K rm Q h a b pc ls st := fun T locs X e F => by
  obtain ⟨s₂, o, hs, r⟩ := k T locs X e F
  exact ⟨s₂, o, f T locs X e _ hs, r⟩
theorem N.mono (k : N G K rm Q h a b pc ls st) (f : ∀ v h', Q v h' → Q' v h') : N G K rm Q' h a b pc ls st := fun T locs X e F => by
  obtain ⟨s₂, o, h1, h2, h3, v, L, h4, ⟨h5, h6⟩, h7⟩ := k T locs X e F
  exact ⟨s₂, o, h1, h2, h3, v, L, h4, ⟨f _ _ h5, h6⟩, h7⟩
theorem N.more {a' b' : Nat} (k : N G K rm Q h a' b' pc ls st) (ha : a ≤ a') (hb : b ≤ b') : N G K rm Q h a b pc ls st := fun T locs X e F => k T locs (X.more ha hb) e F

theorem N.iload (C : Cx G K own nm bytes maxL ret W) {k : Nat} {v : Int32} (hd : decode bytes pc = .ok (.iload k, 2)) (hl : ls[k]? = some (.val (.int v))) (hp : pc + 2 = pc') (k : N G K rm Q h a b pc' ls (.int v :: st)) : N G K rm Q h a b pc ls (st) := by
  subst hp; exact N.step (fun T A t ht => XS.iload A C.hx rfl (hb C.by hd) hl ht) k
theorem N.iloadN (C : Cx G K own nm bytes maxL ret W) {k : Fin 4} {v : Int32} (hd : decode bytes pc = .ok (.iload_n k, 1)) (hl : ls[k.val]? = some (.val (.int v))) (hp : pc + 1 = pc') (k : N G K rm Q h a b pc' ls (.int v :: st)) : N G K rm Q h a b pc ls (st) := by
  subst hp; exact N.step (fun T A t ht => XS.iloadN A C.hx rfl (hb C.by hd) hl ht) k
theorem N.istore (C : Cx G K own nm bytes maxL ret W) {k : Nat} {v : Int32} (hd : decode bytes pc = .ok (.istore k, 2)) (hl : storeLocals ls k (.int v) = some ls') (hp : pc + 2 = pc') (k : N G K rm Q h a b pc' ls' (st)) : N G K rm Q h a b pc ls (.int v :: st) := by
  subst hp; exact N.step (fun T A t ht => XS.istore A C.hx rfl (hb C.by hd) rfl hl ht) k
theorem N.istoreN (C : Cx G K own nm bytes maxL ret W) {k : Fin 4} {v : Int32} (hd : decode bytes pc = .ok (.istore_n k, 1)) (hl : storeLocals ls k.val (.int v) = some ls') (hp : pc + 1 = pc') (k : N G K rm Q h a b pc' ls' (st)) : N G K rm Q h a b pc ls (.int v :: st) := by
  subst hp; exact N.step (fun T A t ht => XS.istoreN A C.hx rfl (hb C.by hd) rfl hl ht) k
theorem N.iadd (C : Cx G K own nm bytes maxL ret W) {x y : Int32} (hd : decode bytes pc = .ok (.iadd, 1)) (hp : pc + 1 = pc') (k : N G K rm Q h a b pc' ls (.int (x + y) :: st)) : N G K rm Q h a b pc ls (.int y :: .int x :: st) := by
  subst hp; exact N.step (fun T A t ht => XS.iadd A C.hx rfl (hb C.by hd) rfl ht) k
theorem N.isub (C : Cx G K own nm bytes maxL ret W) {x y : Int32} (hd : decode bytes pc = .ok (.isub, 1)) (hp : pc + 1 = pc') (k : N G K rm Q h a b pc' ls (.int (x - y) :: st)) : N G K rm Q h a b pc ls (.int y :: .int x :: st) := by
  subst hp; exact N.step (fun T A t ht => XS.isub A C.hx rfl (hb C.by hd) rfl ht) k
theorem N.imul (C : Cx G K own nm bytes maxL ret W) {x y : Int32} (hd : decode bytes pc = .ok (.imul, 1)) (hp : pc + 1 = pc') (k : N G K rm Q h a b pc' ls (.int (x * y) :: st)) : N G K rm Q h a b pc ls (.int y :: .int x :: st) := by
  subst hp; exact N.step (fun T A t ht => XS.imul A C.hx rfl (hb C.by hd) rfl ht) k
theorem N.iand (C : Cx G K own nm bytes maxL ret W) {x y : Int32} (hd : decode bytes pc = .ok (.iand, 1)) (hp : pc + 1 = pc') (k : N G K rm Q h a b pc' ls (.int (x &&& y) :: st)) : N G K rm Q h a b pc ls (.int y :: .int x :: st) := by
  subst hp; exact N.step (fun T A t ht => XS.iand A C.hx rfl (hb C.by hd) rfl ht) k
theorem N.ior (C : Cx G K own nm bytes maxL ret W) {x y : Int32} (hd : decode bytes pc = .ok (.ior, 1)) (hp : pc + 1 = pc') (k : N G K rm Q h a b pc' ls (.int (x ||| y) :: st)) : N G K rm Q h a b pc ls (.int y :: .int x :: st) := by
  subst hp; exact N.step (fun T A t ht => XS.ior A C.hx rfl (hb C.by hd) rfl ht) k
theorem N.ixor (C : Cx G K own nm bytes maxL ret W) {x y : Int32} (hd : decode bytes pc = .ok (.ixor, 1)) (hp : pc + 1 = pc') (k : N G K rm Q h a b pc' ls (.int (x ^^^ y) :: st)) : N G K rm Q h a b pc ls (.int y :: .int x :: st) := by
  subst hp; exact N.step (fun T A t ht => XS.ixor A C.hx rfl (hb C.by hd) rfl ht) k
theorem N.idiv (C : Cx G K own nm bytes maxL ret W) {x y : Int32} (hd : decode bytes pc = .ok (.idiv, 1)) (hy : y ≠ 0) (hp : pc + 1 = pc') (k : N G K rm Q h a b pc' ls (.int (x / y) :: st)) : N G K rm Q h a b pc ls (.int y :: .int x :: st) := by
  subst hp; exact N.step (fun T A t ht => XS.idiv A C.hx rfl (hb C.by hd) rfl hy ht) k
theorem N.ineg (C : Cx G K own nm bytes maxL ret W) {x : Int32} (hd : decode bytes pc = .ok (.ineg, 1)) (hp : pc + 1 = pc') (k : N G K rm Q h a b pc' ls (.int (-x) :: st)) : N G K rm Q h a b pc ls (.int x :: st) := by
  subst hp; exact N.step (fun T A t ht => XS.ineg A C.hx rfl (hb C.by hd) rfl ht) k
theorem N.lload (C : Cx G K own nm bytes maxL ret W) {k : Nat} {v : Int64} (hd : decode bytes pc = .ok (.lload k, 2)) (hl : ls[k]? = some (.val (.long v))) (hp : pc + 2 = pc') (k : N G K rm Q h a b pc' ls (.long v :: st)) : N G K rm Q h a b pc ls (st) := by
  subst hp; exact N.step (fun T A t ht => XS.lload A C.hx rfl (hb C.by hd) hl ht) k
theorem N.lloadN (C : Cx G K own nm bytes maxL ret W) {k : Fin 4} {v : Int64} (hd : decode bytes pc = .ok (.lload_n k, 1)) (hl : ls[k.val]? = some (.val (.long v))) (hp : pc + 1 = pc') (k : N G K rm Q h a b pc' ls (.long v :: st)) : N G K rm Q h a b pc ls (st) := by
  subst hp; exact N.step (fun T A t ht => XS.lloadN A C.hx rfl (hb C.by hd) hl ht) k
theorem N.lstore (C : Cx G K own nm bytes maxL ret W) {k : Nat} {v : Int64} (hd : decode bytes pc = .ok (.lstore k, 2)) (hl : storeLocals ls k (.long v) = some ls') (hp : pc + 2 = pc') (k : N G K rm Q h a b pc' ls' (st)) : N G K rm Q h a b pc ls (.long v :: st) := by
  subst hp; exact N.step (fun T A t ht => XS.lstore A C.hx rfl (hb C.by hd) rfl hl ht) k
theorem N.lstoreN (C : Cx G K own nm bytes maxL ret W) {k : Fin 4} {v : Int64} (hd : decode bytes pc = .ok (.lstore_n k, 1)) (hl : storeLocals ls k.val (.long v) = some ls') (hp : pc + 1 = pc') (k : N G K rm Q h a b pc' ls' (st)) : N G K rm Q h a b pc ls (.long v :: st) := by
  subst hp; exact N.step (fun T A t ht => XS.lstoreN A C.hx rfl (hb C.by hd) rfl hl ht) k
theorem N.ladd (C : Cx G K own nm bytes maxL ret W) {x y : Int64} (hd : decode bytes pc = .ok (.ladd, 1)) (hp : pc + 1 = pc') (k : N G K rm Q h a b pc' ls (.long (x + y) :: st)) : N G K rm Q h a b pc ls (.long y :: .long x :: st) := by
  subst hp; exact N.step (fun T A t ht => XS.ladd A C.hx rfl (hb C.by hd) rfl ht) k
theorem N.lsub (C : Cx G K own nm bytes maxL ret W) {x y : Int64} (hd : decode bytes pc = .ok (.lsub, 1)) (hp : pc + 1 = pc') (k : N G K rm Q h a b pc' ls (.long (x - y) :: st)) : N G K rm Q h a b pc ls (.long y :: .long x :: st) := by
  subst hp; exact N.step (fun T A t ht => XS.lsub A C.hx rfl (hb C.by hd) rfl ht) k
theorem N.lmul (C : Cx G K own nm bytes maxL ret W) {x y : Int64} (hd : decode bytes pc = .ok (.lmul, 1)) (hp : pc + 1 = pc') (k : N G K rm Q h a b pc' ls (.long (x * y) :: st)) : N G K rm Q h a b pc ls (.long y :: .long x :: st) := by
  subst hp; exact N.step (fun T A t ht => XS.lmul A C.hx rfl (hb C.by hd) rfl ht) k
theorem N.land (C : Cx G K own nm bytes maxL ret W) {x y : Int64} (hd : decode bytes pc = .ok (.land, 1)) (hp : pc + 1 = pc') (k : N G K rm Q h a b pc' ls (.long (x &&& y) :: st)) : N G K rm Q h a b pc ls (.long y :: .long x :: st) := by
  subst hp; exact N.step (fun T A t ht => XS.land A C.hx rfl (hb C.by hd) rfl ht) k
theorem N.lor (C : Cx G K own nm bytes maxL ret W) {x y : Int64} (hd : decode bytes pc = .ok (.lor, 1)) (hp : pc + 1 = pc') (k : N G K rm Q h a b pc' ls (.long (x ||| y) :: st)) : N G K rm Q h a b pc ls (.long y :: .long x :: st) := by
  subst hp; exact N.step (fun T A t ht => XS.lor A C.hx rfl (hb C.by hd) rfl ht) k
theorem N.lxor (C : Cx G K own nm bytes maxL ret W) {x y : Int64} (hd : decode bytes pc = .ok (.lxor, 1)) (hp : pc + 1 = pc') (k : N G K rm Q h a b pc' ls (.long (x ^^^ y) :: st)) : N G K rm Q h a b pc ls (.long y :: .long x :: st) := by
  subst hp; exact N.step (fun T A t ht => XS.lxor A C.hx rfl (hb C.by hd) rfl ht) k
theorem N.ldiv (C : Cx G K own nm bytes maxL ret W) {x y : Int64} (hd : decode bytes pc = .ok (.ldiv, 1)) (hy : y ≠ 0) (hp : pc + 1 = pc') (k : N G K rm Q h a b pc' ls (.long (x / y) :: st)) : N G K rm Q h a b pc ls (.long y :: .long x :: st) := by
  subst hp; exact N.step (fun T A t ht => XS.ldiv A C.hx rfl (hb C.by hd) rfl hy ht) k
theorem N.lneg (C : Cx G K own nm bytes maxL ret W) {x : Int64} (hd : decode bytes pc = .ok (.lneg, 1)) (hp : pc + 1 = pc') (k : N G K rm Q h a b pc' ls (.long (-x) :: st)) : N G K rm Q h a b pc ls (.long x :: st) := by
  subst hp; exact N.step (fun T A t ht => XS.lneg A C.hx rfl (hb C.by hd) rfl ht) k
theorem N.irem (C : Cx G K own nm bytes maxL ret W) {x y : Int32} (hd : decode bytes pc = .ok (.irem, 1)) (hy : y ≠ 0) (hp : pc + 1 = pc') (k : N G K rm Q h a b pc' ls (.int (x % y) :: st)) : N G K rm Q h a b pc ls (.int y :: .int x :: st) := by
  subst hp; exact N.step (fun T A t ht => XS.irem A C.hx rfl (hb C.by hd) rfl hy (by rw [irem_eq_mod]; exact ht)) k
theorem N.lrem (C : Cx G K own nm bytes maxL ret W) {x y : Int64} (hd : decode bytes pc = .ok (.lrem, 1)) (hy : y ≠ 0) (hp : pc + 1 = pc') (k : N G K rm Q h a b pc' ls (.long (x % y) :: st)) : N G K rm Q h a b pc ls (.long y :: .long x :: st) := by
  subst hp; exact N.step (fun T A t ht => XS.lrem A C.hx rfl (hb C.by hd) rfl hy (by rw [lrem_mod]; exact ht)) k
theorem N.aload (C : Cx G K own nm bytes maxL ret W) {k : Nat} {v : Value} (hd : decode bytes pc = .ok (.aload k, 2)) (hl : ls[k]? = some (.val v)) (hv : v.isRef = true) (hp : pc + 2 = pc') (k : N G K rm Q h a b pc' ls (v :: st)) : N G K rm Q h a b pc ls (st) := by
  subst hp; exact N.step (fun T A t ht => XS.aload A C.hx rfl (hb C.by hd) hl hv ht) k
theorem N.aloadN (C : Cx G K own nm bytes maxL ret W) {k : Fin 4} {v : Value} (hd : decode bytes pc = .ok (.aload_n k, 1)) (hl : ls[k.val]? = some (.val v)) (hv : v.isRef = true) (hp : pc + 1 = pc') (k : N G K rm Q h a b pc' ls (v :: st)) : N G K rm Q h a b pc ls (st) := by
  subst hp; exact N.step (fun T A t ht => XS.aloadN A C.hx rfl (hb C.by hd) hl hv ht) k
theorem N.astore (C : Cx G K own nm bytes maxL ret W) {k : Nat} {v : Value} (hd : decode bytes pc = .ok (.astore k, 2)) (hv : v.isRef = true) (hl : storeLocals ls k v = some ls') (hp : pc + 2 = pc') (k : N G K rm Q h a b pc' ls' (st)) : N G K rm Q h a b pc ls (v :: st) := by
  subst hp; exact N.step (fun T A t ht => XS.astore A C.hx rfl (hb C.by hd) rfl hv hl ht) k
theorem N.astoreN (C : Cx G K own nm bytes maxL ret W) {k : Fin 4} {v : Value} (hd : decode bytes pc = .ok (.astore_n k, 1)) (hv : v.isRef = true) (hl : storeLocals ls k.val v = some ls') (hp : pc + 1 = pc') (k : N G K rm Q h a b pc' ls' (st)) : N G K rm Q h a b pc ls (v :: st) := by
  subst hp; exact N.step (fun T A t ht => XS.astoreN A C.hx rfl (hb C.by hd) rfl hv hl ht) k
theorem N.iconst (C : Cx G K own nm bytes maxL ret W) {i : Int} {z : Int32} (hd : decode bytes pc = .ok (.iconst i, 1)) (hz : Int32.ofInt i = z) (hp : pc + 1 = pc') (k : N G K rm Q h a b pc' ls (.int z :: st)) : N G K rm Q h a b pc ls st := by
  subst hp hz; exact N.step (fun T A t ht => XS.iconst A C.hx rfl (hb C.by hd) ht) k
theorem N.bipush (C : Cx G K own nm bytes maxL ret W) {i : Int} {z : Int32} (hd : decode bytes pc = .ok (.bipush i, 2)) (hz : (Int8.ofInt i).toInt32 = z) (hp : pc + 2 = pc') (k : N G K rm Q h a b pc' ls (.int z :: st)) : N G K rm Q h a b pc ls st := by
  subst hp hz; exact N.step (fun T A t ht => XS.bipush A C.hx rfl (hb C.by hd) ht) k
theorem N.sipush (C : Cx G K own nm bytes maxL ret W) {i : Int} {z : Int32} (hd : decode bytes pc = .ok (.sipush i, 3)) (hz : (Int16.ofInt i).toInt32 = z) (hp : pc + 3 = pc') (k : N G K rm Q h a b pc' ls (.int z :: st)) : N G K rm Q h a b pc ls st := by
  subst hp hz; exact N.step (fun T A t ht => XS.sipush A C.hx rfl (hb C.by hd) ht) k
theorem N.lconst (C : Cx G K own nm bytes maxL ret W) {k : Fin 2} {z : Int64} (hd : decode bytes pc = .ok (.lconst k, 1)) (hz : Int64.ofNat k = z) (hp : pc + 1 = pc') (k : N G K rm Q h a b pc' ls (.long z :: st)) : N G K rm Q h a b pc ls st := by
  subst hp hz; exact N.step (fun T A t ht => XS.lconst A C.hx rfl (hb C.by hd) ht) k
theorem N.aconst_null (C : Cx G K own nm bytes maxL ret W)  (hd : decode bytes pc = .ok (.aconst_null, 1)) (hp : pc + 1 = pc') (k : N G K rm Q h a b pc' ls (.null :: st)) : N G K rm Q h a b pc ls (st) := by
  subst hp; exact N.step (fun T A t ht => XS.aconstNull A C.hx rfl (hb C.by hd)  ht) k
theorem N.dup (C : Cx G K own nm bytes maxL ret W) {v : Value} (hd : decode bytes pc = .ok (.dup, 1)) (hc : v.category = 1) (hp : pc + 1 = pc') (k : N G K rm Q h a b pc' ls (v :: v :: st)) : N G K rm Q h a b pc ls (v :: st) := by
  subst hp; exact N.step (fun T A t ht => XS.dup A C.hx rfl (hb C.by hd) rfl hc ht) k
theorem N.pop (C : Cx G K own nm bytes maxL ret W) {v : Value} (hd : decode bytes pc = .ok (.pop, 1)) (hc : v.category = 1) (hp : pc + 1 = pc') (k : N G K rm Q h a b pc' ls (st)) : N G K rm Q h a b pc ls (v :: st) := by
  subst hp; exact N.step (fun T A t ht => XS.pop A C.hx rfl (hb C.by hd) rfl hc ht) k
theorem N.dup_x1 (C : Cx G K own nm bytes maxL ret W) {v w : Value} (hd : decode bytes pc = .ok (.dup_x1, 1)) (hc : v.category = 1) (hc' : w.category = 1) (hp : pc + 1 = pc') (k : N G K rm Q h a b pc' ls (v :: w :: v :: st)) : N G K rm Q h a b pc ls (v :: w :: st) := by
  subst hp; exact N.step (fun T A t ht => XS.dupX1 A C.hx rfl (hb C.by hd) rfl hc hc' ht) k
theorem N.dup2 (C : Cx G K own nm bytes maxL ret W) {v w : Value} (hd : decode bytes pc = .ok (.dup2, 1)) (hc : v.category = 1) (hc' : w.category = 1) (hp : pc + 1 = pc') (k : N G K rm Q h a b pc' ls (v :: w :: v :: w :: st)) : N G K rm Q h a b pc ls (v :: w :: st) := by
  subst hp; exact N.step (fun T A t ht => XT.dup2 A C.hx rfl (hb C.by hd) rfl hc hc' ht) k
theorem N.dup2L (C : Cx G K own nm bytes maxL ret W) {x : Int64} (hd : decode bytes pc = .ok (.dup2, 1)) (hp : pc + 1 = pc') (k : N G K rm Q h a b pc' ls (.long x :: .long x :: st)) : N G K rm Q h a b pc ls (.long x :: st) := by
  subst hp; exact N.step (fun T A t ht => XT.dup2L A C.hx rfl (hb C.by hd) rfl ht) k
theorem N.i2l (C : Cx G K own nm bytes maxL ret W) {x : Int32} (hd : decode bytes pc = .ok (.i2l, 1)) (hp : pc + 1 = pc') (k : N G K rm Q h a b pc' ls (.long (x.toInt64) :: st)) : N G K rm Q h a b pc ls (.int x :: st) := by
  subst hp; exact N.step (fun T A t ht => XS.i2l A C.hx rfl (hb C.by hd) rfl ht) k
theorem N.l2i (C : Cx G K own nm bytes maxL ret W) {x : Int64} (hd : decode bytes pc = .ok (.l2i, 1)) (hp : pc + 1 = pc') (k : N G K rm Q h a b pc' ls (.int (x.toInt32) :: st)) : N G K rm Q h a b pc ls (.long x :: st) := by
  subst hp; exact N.step (fun T A t ht => XS.l2i A C.hx rfl (hb C.by hd) rfl ht) k
theorem N.i2b (C : Cx G K own nm bytes maxL ret W) {x : Int32} (hd : decode bytes pc = .ok (.i2b, 1)) (hp : pc + 1 = pc') (k : N G K rm Q h a b pc' ls (.int (x.toInt8.toInt32) :: st)) : N G K rm Q h a b pc ls (.int x :: st) := by
  subst hp; exact N.step (fun T A t ht => XS.i2b A C.hx rfl (hb C.by hd) rfl ht) k
theorem N.i2s (C : Cx G K own nm bytes maxL ret W) {x : Int32} (hd : decode bytes pc = .ok (.i2s, 1)) (hp : pc + 1 = pc') (k : N G K rm Q h a b pc' ls (.int (x.toInt16.toInt32) :: st)) : N G K rm Q h a b pc ls (.int x :: st) := by
  subst hp; exact N.step (fun T A t ht => XS.i2s A C.hx rfl (hb C.by hd) rfl ht) k
theorem N.i2c (C : Cx G K own nm bytes maxL ret W) {x : Int32} (hd : decode bytes pc = .ok (.i2c, 1)) (hp : pc + 1 = pc') (k : N G K rm Q h a b pc' ls (.int (x.toUInt32.toUInt16.toUInt32.toInt32) :: st)) : N G K rm Q h a b pc ls (.int x :: st) := by
  subst hp; exact N.step (fun T A t ht => XS.i2c A C.hx rfl (hb C.by hd) rfl ht) k
theorem N.ishl (C : Cx G K own nm bytes maxL ret W) {x y : Int32} (hd : decode bytes pc = .ok (.ishl, 1)) (hp : pc + 1 = pc') (k : N G K rm Q h a b pc' ls (.int (x <<< (y &&& 31)) :: st)) : N G K rm Q h a b pc ls (.int y :: .int x :: st) := by
  subst hp; exact N.step (fun T A t ht => XS.ishl A C.hx rfl (hb C.by hd) rfl ht) k
theorem N.ishr (C : Cx G K own nm bytes maxL ret W) {x y : Int32} (hd : decode bytes pc = .ok (.ishr, 1)) (hp : pc + 1 = pc') (k : N G K rm Q h a b pc' ls (.int (x >>> (y &&& 31)) :: st)) : N G K rm Q h a b pc ls (.int y :: .int x :: st) := by
  subst hp; exact N.step (fun T A t ht => XS.ishr A C.hx rfl (hb C.by hd) rfl ht) k
theorem N.iushr (C : Cx G K own nm bytes maxL ret W) {x y : Int32} (hd : decode bytes pc = .ok (.iushr, 1)) (hp : pc + 1 = pc') (k : N G K rm Q h a b pc' ls (.int ((x.toUInt32 >>> (y &&& 31).toUInt32).toInt32) :: st)) : N G K rm Q h a b pc ls (.int y :: .int x :: st) := by
  subst hp; exact N.step (fun T A t ht => XS.iushr A C.hx rfl (hb C.by hd) rfl ht) k
theorem N.lshl (C : Cx G K own nm bytes maxL ret W) {x : Int64} {y : Int32} (hd : decode bytes pc = .ok (.lshl, 1)) (hp : pc + 1 = pc') (k : N G K rm Q h a b pc' ls (.long (x <<< (y &&& 0x3f).toInt64) :: st)) : N G K rm Q h a b pc ls (.int y :: .long x :: st) := by
  subst hp; exact N.step (fun T A t ht => XS.lshl A C.hx rfl (hb C.by hd) rfl ht) k
theorem N.lshr (C : Cx G K own nm bytes maxL ret W) {x : Int64} {y : Int32} (hd : decode bytes pc = .ok (.lshr, 1)) (hp : pc + 1 = pc') (k : N G K rm Q h a b pc' ls (.long (x >>> (y &&& 0x3f).toInt64) :: st)) : N G K rm Q h a b pc ls (.int y :: .long x :: st) := by
  subst hp; exact N.step (fun T A t ht => XS.lshr A C.hx rfl (hb C.by hd) rfl ht) k
theorem N.lushr (C : Cx G K own nm bytes maxL ret W) {x : Int64} {y : Int32} (hd : decode bytes pc = .ok (.lushr, 1)) (hp : pc + 1 = pc') (k : N G K rm Q h a b pc' ls (.long ((x.toUInt64 >>> (y &&& 0x3f).toInt64.toUInt64).toInt64) :: st)) : N G K rm Q h a b pc ls (.int y :: .long x :: st) := by
  subst hp; exact N.step (fun T A t ht => XS.lushr A C.hx rfl (hb C.by hd) rfl ht) k
theorem N.lcmp (C : Cx G K own nm bytes maxL ret W) {x y : Int64} (hd : decode bytes pc = .ok (.lcmp, 1)) (hp : pc + 1 = pc') (k : N G K rm Q h a b pc' ls (.int (lcmpW x y) :: st)) : N G K rm Q h a b pc ls (.long y :: .long x :: st) := by
  subst hp; exact N.step (fun T A t ht => XS.lcmp A C.hx rfl (hb C.by hd) rfl ht) k
theorem N.iinc (C : Cx G K own nm bytes maxL ret W) {k : Nat} {cst : Int} {x z : Int32} (hd : decode bytes pc = .ok (.iinc k cst, 3)) (hl : ls[k]? = some (.val (.int x))) (hz : Int32.ofInt cst = z) (hl' : storeLocals ls k (.int (x + z)) = some ls') (hp : pc + 3 = pc') (k : N G K rm Q h a b pc' ls' st) : N G K rm Q h a b pc ls st := by
  subst hp hz; exact N.step (fun T A t ht => XS.iinc A C.hx rfl (hb C.by hd) hl hl' ht) k
theorem N.goto (C : Cx G K own nm bytes maxL ret W) {o : Int} (hd : decode bytes pc = .ok (.goto o, 3)) (hp : (pc : Int) + o = (pc' : Nat)) (k : N G K rm Q h a b pc' ls st) : N G K rm Q h a b pc ls st :=
  N.step (fun T A t ht => XS.goto A C.hx rfl (pc0 := pc) rfl (hb C.by hd) (by omega) (by omega) ht) k
theorem N.icmp (C : Cx G K own nm bytes maxL ret W) {cd : ClassFile.Cond} {o : Int} {x y : Int32} {pt pf : Nat} (hd : decode bytes pc = .ok (.if_icmp cd o, 3)) (ht : (pc : Int) + o = (pt : Nat)) (hf : pc + 3 = pf) (kt : cmpP cd x y → N G K rm Q h a b pt ls st) (kf : cmpN cd x y → N G K rm Q h a b pf ls st) : N G K rm Q h a b pc ls (.int y :: .int x :: st) := by
  subst hf
  rcases cmp_or cd x y with ⟨h1, h2⟩ | ⟨h1, h2⟩
  · exact N.step (fun T A t k => XS.icmpYes A C.hx rfl (pc0 := pc) rfl (hb C.by hd) rfl h1 (by omega) (by omega) k) (kt h2)
  · exact N.step (fun T A t k => XS.icmpNo A C.hx rfl (hb C.by hd) rfl h1 k) (kf h2)
theorem N.ifc (C : Cx G K own nm bytes maxL ret W) {cd : ClassFile.Cond} {o : Int} {x : Int32} {pt pf : Nat} (hd : decode bytes pc = .ok (.ifCond cd o, 3)) (ht : (pc : Int) + o = (pt : Nat)) (hf : pc + 3 = pf) (kt : cmpP cd x 0 → N G K rm Q h a b pt ls st) (kf : cmpN cd x 0 → N G K rm Q h a b pf ls st) : N G K rm Q h a b pc ls (.int x :: st) := by
  subst hf
  rcases cmp_or cd x 0 with ⟨h1, h2⟩ | ⟨h1, h2⟩
  · exact N.step (fun T A t k => XS.ifYes A C.hx rfl (pc0 := pc) rfl (hb C.by hd) rfl ((if0 _ _).trans h1) (by omega) (by omega) k) (kt h2)
  · exact N.step (fun T A t k => XS.ifNo A C.hx rfl (hb C.by hd) rfl ((if0 _ _).trans h1) k) (kf h2)
/-- behind lcmp -/
theorem N.lif (C : Cx G K own nm bytes maxL ret W) {cd : ClassFile.Cond} {o : Int} {x y : Int64} {pt pf : Nat} (hd : decode bytes pc = .ok (.ifCond cd o, 3)) (ht : (pc : Int) + o = (pt : Nat)) (hf : pc + 3 = pf) (kt : cmpPL cd x y → N G K rm Q h a b pt ls st) (kf : cmpNL cd x y → N G K rm Q h a b pf ls st) : N G K rm Q h a b pc ls (.int (lcmpW x y) :: st) := by
  subst hf
  rcases cmp_orL cd x y with ⟨h1, h2⟩ | ⟨h1, h2⟩
  · exact N.step (fun T A t k => XS.ifYes A C.hx rfl (pc0 := pc) rfl (hb C.by hd) rfl h1 (by omega) (by omega) k) (kt h2)
  · exact N.step (fun T A t k => XS.ifNo A C.hx rfl (hb C.by hd) rfl h1 k) (kf h2)
theorem N.ifnull0 (C : Cx G K own nm bytes maxL ret W) {o : Int} (hd : decode bytes pc = .ok (.ifnull o, 3)) (ht : (pc : Int) + o = (pc' : Nat)) (k : N G K rm Q h a b pc' ls st) : N G K rm Q h a b pc ls (.null :: st) :=
  N.step (fun T A t k => XS.ifnullYes A C.hx rfl (pc0 := pc) rfl (hb C.by hd) rfl (by omega) (by omega) k) k
theorem N.ifnull1 (C : Cx G K own nm bytes maxL ret W) {o : Int} {x : Addr} (hd : decode bytes pc = .ok (.ifnull o, 3)) (hp : pc + 3 = pc') (k : N G K rm Q h a b pc' ls st) : N G K rm Q h a b pc ls (.ref x :: st) := by
  subst hp; exact N.step (fun T A t k => XS.ifnullNo A C.hx rfl (hb C.by hd) rfl k) k
theorem N.ifnonnull1 (C : Cx G K own nm bytes maxL ret W) {o : Int} {x : Addr} (hd : decode bytes pc = .ok (.ifnonnull o, 3)) (ht : (pc : Int) + o = (pc' : Nat)) (k : N G K rm Q h a b pc' ls st) : N G K rm Q h a b pc ls (.ref x :: st) :=
  N.step (fun T A t k => XS.ifnonnullYes A C.hx rfl (pc0 := pc) rfl (hb C.by hd) rfl (by omega) (by omega) k) k
theorem N.ifnonnull0 (C : Cx G K own nm bytes maxL ret W) {o : Int} (hd : decode bytes pc = .ok (.ifnonnull o, 3)) (hp : pc + 3 = pc') (k : N G K rm Q h a b pc' ls st) : N G K rm Q h a b pc ls (.null :: st) := by
  subst hp; exact N.step (fun T A t k => XS.ifnonnullNo A C.hx rfl (hb C.by hd) rfl k) k
theorem N.acmp (C : Cx G K own nm bytes maxL ret W) {cd : ACond} {o : Int} {v w : Value} (same : Bool) (hd : decode bytes pc = .ok (.if_acmp cd o, 3)) (h1 : v.isRef = true) (h2 : w.isRef = true) (hq : decide (v = w) = same) (ho : 0 ≤ (pc : Int) + o) (hp : pc' = if acV cd same = true then ((pc : Int) + o).toNat else pc + 3) (k : N G K rm Q h a b pc' ls st) : N G K rm Q h a b pc ls (w :: v :: st) :=
  N.stX (fun T locs X e t ht => Jvm.RoadKit.acmp (g := mkF K.m pc ls (w :: v :: st)) X C.hx rfl h1 h2 rfl (hb C.by hd) rfl hq ho hp ht) k
theorem N.ldcI (C : Cx G K own nm bytes maxL ret W) {i : Nat} {v : Int32} (hd : decode bytes pc = .ok (.ldc i, 2)) (w : (Jvm.Cond.constant own i v).before G.a0 G.Z = true) (hp : pc + 2 = pc') (k : N G K rm Q h a b pc' ls (.int v :: st)) : N G K rm Q h a b pc ls st := by
  subst hp; exact N.stX (fun T locs X e t ht => X.ldcInt C.hx C.ow (mvT C.hZ w) (g := mkF K.m pc ls st) rfl (hb C.by hd) t ht) k
theorem N.ldcwI (C : Cx G K own nm bytes maxL ret W) {i : Nat} {v : Int32} (hd : decode bytes pc = .ok (.ldc_w i, 3)) (w : (Jvm.Cond.constant own i v).before G.a0 G.Z = true) (hp : pc + 3 = pc') (k : N G K rm Q h a b pc' ls (.int v :: st)) : N G K rm Q h a b pc ls st := by
  subst hp; exact N.stX (fun T locs X e t ht => X.ldcwInt C.hx C.ow (mvT C.hZ w) (g := mkF K.m pc ls st) rfl (hb C.by hd) t ht) k
theorem N.ldcL (C : Cx G K own nm bytes maxL ret W) {i : Nat} {v : Int64} (hd : decode bytes pc = .ok (.ldc2_w i, 3)) (w : (Jvm.Cond.constantLong own i v).before G.a0 G.Z = true) (hp : pc + 3 = pc') (k : N G K rm Q h a b pc' ls (.long v :: st)) : N G K rm Q h a b pc ls st := by
  subst hp; exact N.stX (fun T locs X e t ht => X.ldc2Long C.hx C.ow (mvT C.hZ w) (g := mkF K.m pc ls st) rfl (hb C.by hd) t ht) k
theorem N.getF (C : Cx G K own nm bytes maxL ret W) {O n d : String} {i : Nat} {x : Addr} {v : Value} (hd : decode bytes pc = .ok (.getfield i, 3)) (w : (Jvm.Cond.fieldLink own i O n d).before G.a0 G.Z = true) (F : Fld G.Z h x O n d v) (hp : pc + 3 = pc') (k : N G K rm Q h a b pc' ls (v :: st)) : N G K rm Q h a b pc ls (.ref x :: st) := fun T locs X e N0 => by
  subst hp
  obtain ⟨T', X', e', s'⟩ := Jvm.RoadKit.getF X C.hx C.hZ C.ow (host := "") (Or.inl w) Via.refl e F (g := mkF K.m pc ls (.ref x :: st)) rfl rfl (hb C.by hd)
  obtain ⟨s₂, o, hs, r⟩ := k T' locs X' e' N0
  exact ⟨s₂, o, s' _ hs, r⟩
theorem N.getFN (C : Cx G K own nm bytes maxL ret W) {O n d host : String} {i : Nat} {x : Addr} {v : Value} (hd : decode bytes pc = .ok (.getfield i, 3)) (w : (Jvm.Cond.fieldLinkNest own i O n d host).before G.a0 G.Z = true) (F : Fld G.Z h x O n d v) (hp : pc + 3 = pc') (k : N G K rm Q h a b pc' ls (v :: st)) : N G K rm Q h a b pc ls (.ref x :: st) := fun T locs X e N0 => by
  subst hp
  obtain ⟨T', X', e', s'⟩ := Jvm.RoadKit.getF X C.hx C.hZ C.ow (Or.inr w) Via.refl e F (g := mkF K.m pc ls (.ref x :: st)) rfl rfl (hb C.by hd)
  obtain ⟨s₂, o, hs, r⟩ := k T' locs X' e' N0
  exact ⟨s₂, o, s' _ hs, r⟩
theorem N.putF (C : Cx G K own nm bytes maxL ret W) {O n d Cn : String} {i kk : Nat} {ty : FieldType} {x : Addr} {v old : Value} (hd : decode bytes pc = .ok (.putfield i, 3)) (w : (Jvm.Cond.fieldLink own i O n d).before G.a0 G.Z = true) (F : Fld G.Z h x O n d old) (E : Exa G.Z h x Cn)
    (L : (Jvm.Cond.lays Cn O n d).before G.a0 G.Z = true ∨ ((Jvm.Cond.laysFinal Cn O n d).before G.a0 G.Z = true ∧ own = O ∧ nm = "<init>")) (wi : (Jvm.Cond.instantiable Cn kk).before G.a0 G.Z = true) (hty : parseFieldDescriptor d = some ty) (hn : narrow ty v = v) (hf : fits ty v = true) (hx : G.n0 ≤ x) (hp : pc + 3 = pc')
    (k : ∀ h', Wr h h' x (Jvm.RoadKit.slotOf G.Z O n d) v → N G K rm Q h' a b pc' ls st) : N G K rm Q h a b pc ls (v :: .ref x :: st) := fun T locs X e N0 => by
  subst hp
  obtain ⟨T', h', X', e', W', s'⟩ := Jvm.RoadKit.putF X C.hx C.hZ C.ow (host := "") (Or.inl w) Via.refl e F E (L.imp id fun q => ⟨q.1, q.2.1, C.name.trans q.2.2⟩) wi hty hn hf (g := mkF K.m pc ls (v :: .ref x :: st)) rfl rfl (hb C.by hd)
  obtain ⟨s₂, o, hs, r⟩ := k h' W' T' _ X' e' (Fr.snoc X' N0 hx)
  exact ⟨s₂, o, s' _ hs, r⟩
theorem N.putFN (C : Cx G K own nm bytes maxL ret W) {O n d Cn : String} {i kk : Nat} {ty : FieldType} {x : Addr} {v v' old : Value} (hd : decode bytes pc = .ok (.putfield i, 3)) (w : (Jvm.Cond.fieldLink own i O n d).before G.a0 G.Z = true) (F : Fld G.Z h x O n d old) (E : Exa G.Z h x Cn)
    (L : (Jvm.Cond.lays Cn O n d).before G.a0 G.Z = true ∨ ((Jvm.Cond.laysFinal Cn O n d).before G.a0 G.Z = true ∧ own = O ∧ nm = "<init>")) (wi : (Jvm.Cond.instantiable Cn kk).before G.a0 G.Z = true) (hty : parseFieldDescriptor d = some ty) (hn : narrow ty v = v') (hf : fits ty v' = true) (hx : G.n0 ≤ x) (hp : pc + 3 = pc')
    (k : ∀ h', Wr h h' x (Jvm.RoadKit.slotOf G.Z O n d) v' → N G K rm Q h' a b pc' ls st) : N G K rm Q h a b pc ls (v :: .ref x :: st) := fun T locs X e N0 => by
  subst hp
  obtain ⟨T', h', X', e', W', s'⟩ := Jvm.RoadKit.putFN X C.hx C.hZ C.ow w Via.refl e F E (L.imp id fun q => ⟨q.1, q.2.1, C.name.trans q.2.2⟩) wi hty hn hf (g := mkF K.m pc ls (v :: .ref x :: st)) rfl rfl (hb C.by hd)
  obtain ⟨s₂, o, hs, r⟩ := k h' W' T' _ X' e' (Fr.snoc X' N0 hx)
  exact ⟨s₂, o, s' _ hs, r⟩
theorem N.getS (C : Cx G K own nm bytes maxL ret W) {O n d : String} {i : Nat} {v : Value} (hd : decode bytes pc = .ok (.getstatic i, 3)) (w : (Jvm.Cond.fieldLink own i O n d).before G.a0 G.Z = true) (F : Sta G.Z h O n d v) (hp : pc + 3 = pc') (k : N G K rm Q h a b pc' ls (v :: st)) : N G K rm Q h a b pc ls st := fun T locs X e N0 => by
  subst hp
  obtain ⟨T', X', e', s'⟩ := Jvm.RoadKit.getS X C.hx C.hZ (host := "") C.ow w Via.refl e F (g := mkF K.m pc ls st) rfl (hb C.by hd)
  obtain ⟨s₂, o, hs, r⟩ := k T' locs X' e' N0
  exact ⟨s₂, o, s' _ hs, r⟩
theorem N.newO (C : Cx G K own nm bytes maxL ret W) {Cn : String} {i n : Nat} (hd : decode bytes pc = .ok (.new i, 3)) (w : (Jvm.Cond.classLink own i Cn).before G.a0 G.Z = true) (wi : (Jvm.Cond.instantiable Cn n).before G.a0 G.Z = true) (wz : (Jvm.Cond.initialized Cn).before G.a0 G.Z = true) (hc : a + 1 ≤ rm.cells) (hl : b + n ≤ rm.slots) (hp : pc + 3 = pc')
    (k : ∀ (h' : Heap) (x : Addr), x = h.size → Ext h h' → Exa G.Z h' x Cn → (∀ {O f d : String} {ty : FieldType}, Laid G.Z G.a0 Cn O f d → parseFieldDescriptor d = some ty → Fld G.Z h' x O f d (defaultValue ty)) → N G K rm Q h' (a + 1) (b + n) pc' ls (.ref x :: st)) : N G K rm Q h a b pc ls st := fun T locs X e N0 => by
  subst hp
  obtain ⟨T', h', X', e', E', A', D', -, s'⟩ := Jvm.RoadKit.newO X C.hx C.hZ C.ow w wi wz e (g := mkF K.m pc ls st) rfl (hb C.by hd) hc hl
  obtain ⟨s₂, o, hs, r⟩ := k h' _ rfl E' A' D' T' locs X' e' N0
  exact ⟨s₂, o, s' _ hs, r⟩
theorem N.newP (C : Cx G K own nm bytes maxL ret W) {aty : ArrayType} {n : Int32} (cap : Nat) (hd : decode bytes pc = .ok (.newarray aty, 2)) (w : (Jvm.Cond.arrayClass (newarray.typeOf aty)).before G.a0 G.Z = true) (hn : 0 ≤ n.toInt) (hcap : n.toInt ≤ (cap : Int)) (hb8 : cap * 8 ≤ 536870912) (hc : a + 1 ≤ rm.cells) (hl : b + cap ≤ rm.slots) (hp : pc + 2 = pc')
    (k : ∀ (h' : Heap) (x : Addr), x = h.size → Ext h h' → Av G.Z h' x (newarray.typeOf aty) (List.replicate n.toInt.toNat (defaultValue (newarray.typeOf aty))) → N G K rm Q h' (a + 1) (b + cap) pc' ls (.ref x :: st)) : N G K rm Q h a b pc ls (.int n :: st) := fun T locs X e N0 => by
  subst hp
  have hneg : ¬ n < 0 := fun q => by
    have := Int32.lt_iff_toInt_lt.mp q
    have e0 : (0 : Int32).toInt = 0 := by decide
    omega
  obtain ⟨T', h', cA, X', e', E', A', s'⟩ := Jvm.RoadKit.newP X C.hx C.hZ w e (g := mkF K.m pc ls (.int n :: st)) rfl (hb C.by hd) rfl hneg (cap := cap) (by show n.toInt.toNat ≤ cap; omega) hb8 hc hl
  obtain ⟨s₂, o, hs, r⟩ := k h' _ rfl E' (Av.new A') T' locs X' e' N0
  exact ⟨s₂, o, s' _ hs, r⟩
theorem N.initO (C : Cx G K own nm bytes maxL ret W) {i : Nat} {x : Addr} (hd : decode bytes pc = .ok (.invokespecial i, 3)) (w1 : (Jvm.Cond.methodLink own i Lib.objectInit).before G.a0 G.Z = true) (w2 : (Jvm.Cond.instanceMethod Lib.objectInit).before G.a0 G.Z = true) (w3 : (Jvm.Cond.code Lib.objectInit ⟨#[0xb1]⟩ 1 none).before G.a0 G.Z = true) (hsz : ls.size = maxL) (hf : 1 ≤ rm.frames) (hl : (st.map fun v => v.category).sum + 12 ≤ rm.locals) (hp : pc + 3 = pc')
    (k : N G K rm Q h a b pc' ls st) : N G K rm Q h a b pc ls (.ref x :: st) := fun T locs X e N0 => by
  subst hp
  obtain ⟨T', X', e', s'⟩ := Jvm.RoadKit.initO X C.hx C.hZ C.ow w1 w2 w3 e (g := mkF K.m pc ls (.ref x :: st)) rfl (by rw [C.ml]; exact hsz) rfl (hb C.by hd) hf (W := (st.map fun v => v.category).sum) (by show 2 * 0 + _ ≤ _; omega) hl
  obtain ⟨s₂, o, hs, r⟩ := k T' locs X' e' N0
  exact ⟨s₂, o, s' _ hs, r⟩
theorem N.alen (C : Cx G K own nm bytes maxL ret W) {x : Addr} {ty : FieldType} {vs : List Value} {n : Int32} (hd : decode bytes pc = .ok (.arraylength, 1)) (A : Av G.Z h x ty vs) (hn : n.toInt = (vs.length : Nat)) (hp : pc + 1 = pc') (k : N G K rm Q h a b pc' ls (.int n :: st)) : N G K rm Q h a b pc ls (.ref x :: st) := by
  subst hp
  obtain ⟨c, A, rfl⟩ := A
  have hz : c.slots.size.toInt32 = n := by
    have h1 := n.toInt_lt
    apply Int32.toInt_inj.mp
    rw [hn]
    simp only [Array.length_toList] at hn ⊢
    show (Int32.ofNat c.slots.size).toInt = _
    rw [Int32.toInt_ofNat']
    have e32 : (Int32.size : Int) = 4294967296 := rfl
    exact Int.bmod_eq_of_le (by omega) (by omega)
  exact N.stX (fun T locs X e t ht => X.arraylength C.hx (by rw [e]; exact A.1) (State.isArrayOf_alike C.hZ.alike A.2.1) (g := mkF K.m pc ls (.ref x :: st)) rfl rfl (hb C.by hd) t (by rw [hz]; exact ht)) k

theorem N.iaload (C : Cx G K own nm bytes maxL ret W) {x : Addr} {vs : List Value} {j : Int32} {i : Nat} {v : Value} (hd : decode bytes pc = .ok (.iaload, 1)) (A : Av G.Z h x .int vs) (hj : j.toInt = (i : Nat)) (hv : vs[i]? = some v) (hp : pc + 1 = pc') (k : N G K rm Q h a b pc' ls (v :: st)) : N G K rm Q h a b pc ls (.int j :: .ref x :: st) := by
  subst hp
  obtain ⟨c, A, rfl⟩ := A
  have hi : i < c.slots.size := by have := (List.getElem?_eq_some_iff.mp hv).1; simpa using this
  have hv' : c.slots[j.toNatClampNeg]? = some v := by rw [(ix hj).2, ← Array.getElem?_toList]; exact hv
  exact N.stX (fun T locs X e t ht => X.iaload C.hx (by rw [e]; exact A.1) (State.isArrayOf_alike C.hZ.alike A.2.1) A.2.2 (ixin hj hi) hv' (g := mkF K.m pc ls (.int j :: .ref x :: st)) rfl rfl (hb C.by hd) t ht) k
theorem N.laload (C : Cx G K own nm bytes maxL ret W) {x : Addr} {vs : List Value} {j : Int32} {i : Nat} {v : Value} (hd : decode bytes pc = .ok (.laload, 1)) (A : Av G.Z h x .long vs) (hj : j.toInt = (i : Nat)) (hv : vs[i]? = some v) (hp : pc + 1 = pc') (k : N G K rm Q h a b pc' ls (v :: st)) : N G K rm Q h a b pc ls (.int j :: .ref x :: st) := by
  subst hp
  obtain ⟨c, A, rfl⟩ := A
  have hi : i < c.slots.size := by have := (List.getElem?_eq_some_iff.mp hv).1; simpa using this
  have hv' : c.slots[j.toNatClampNeg]? = some v := by rw [(ix hj).2, ← Array.getElem?_toList]; exact hv
  exact N.stX (fun T locs X e t ht => X.laload C.hx (by rw [e]; exact A.1) (State.isArrayOf_alike C.hZ.alike A.2.1) A.2.2 (ixin hj hi) hv' (g := mkF K.m pc ls (.int j :: .ref x :: st)) rfl rfl (hb C.by hd) t ht) k
theorem N.caload (C : Cx G K own nm bytes maxL ret W) {x : Addr} {vs : List Value} {j : Int32} {i : Nat} {v : Value} (hd : decode bytes pc = .ok (.caload, 1)) (A : Av G.Z h x .char vs) (hj : j.toInt = (i : Nat)) (hv : vs[i]? = some v) (hp : pc + 1 = pc') (k : N G K rm Q h a b pc' ls (v :: st)) : N G K rm Q h a b pc ls (.int j :: .ref x :: st) := by
  subst hp
  obtain ⟨c, A, rfl⟩ := A
  have hi : i < c.slots.size := by have := (List.getElem?_eq_some_iff.mp hv).1; simpa using this
  have hv' : c.slots[j.toNatClampNeg]? = some v := by rw [(ix hj).2, ← Array.getElem?_toList]; exact hv
  exact N.stX (fun T locs X e t ht => X.caload C.hx (by rw [e]; exact A.1) (State.isArrayOf_alike C.hZ.alike A.2.1) A.2.2 (ixin hj hi) hv' (g := mkF K.m pc ls (.int j :: .ref x :: st)) rfl rfl (hb C.by hd) t ht) k
theorem N.baload (C : Cx G K own nm bytes maxL ret W) {x : Addr} {vs : List Value} {j : Int32} {i : Nat} {v : Value} (hd : decode bytes pc = .ok (.baload, 1)) (A : Av G.Z h x .byte vs) (hj : j.toInt = (i : Nat)) (hv : vs[i]? = some v) (hp : pc + 1 = pc') (k : N G K rm Q h a b pc' ls (v :: st)) : N G K rm Q h a b pc ls (.int j :: .ref x :: st) := by
  subst hp
  obtain ⟨c, A, rfl⟩ := A
  have hi : i < c.slots.size := by have := (List.getElem?_eq_some_iff.mp hv).1; simpa using this
  have hv' : c.slots[j.toNatClampNeg]? = some v := by rw [(ix hj).2, ← Array.getElem?_toList]; exact hv
  exact N.stX (fun T locs X e t ht => X.baloadBytes C.hx (by rw [e]; exact A.1) (State.isArrayOf_alike C.hZ.alike A.2.1) A.2.2 (ixin hj hi) hv' (g := mkF K.m pc ls (.int j :: .ref x :: st)) rfl rfl (hb C.by hd) t ht) k
theorem N.zaload (C : Cx G K own nm bytes maxL ret W) {x : Addr} {vs : List Value} {j : Int32} {i : Nat} {v : Value} (hd : decode bytes pc = .ok (.baload, 1)) (A : Av G.Z h x .boolean vs) (hj : j.toInt = (i : Nat)) (hv : vs[i]? = some v) (hp : pc + 1 = pc') (k : N G K rm Q h a b pc' ls (v :: st)) : N G K rm Q h a b pc ls (.int j :: .ref x :: st) := by
  subst hp
  obtain ⟨c, A, rfl⟩ := A
  have hi : i < c.slots.size := by have := (List.getElem?_eq_some_iff.mp hv).1; simpa using this
  have hv' : c.slots[j.toNatClampNeg]? = some v := by rw [(ix hj).2, ← Array.getElem?_toList]; exact hv
  exact N.stX (fun T locs X e t ht => X.baloadBooleans C.hx (by rw [e]; exact A.1) (State.isArrayOf_alike C.hZ.alike A.2.1) A.2.2 (ixin hj hi) hv' (g := mkF K.m pc ls (.int j :: .ref x :: st)) rfl rfl (hb C.by hd) t ht) k
theorem N.iastore (C : Cx G K own nm bytes maxL ret W) {x : Addr} {vs : List Value} {j : Int32} {i : Nat} {v : Int32} (hd : decode bytes pc = .ok (.iastore, 1)) (A : Av G.Z h x .int vs) (hj : j.toInt = (i : Nat)) (hi : i < vs.length) (hx : G.n0 ≤ x) (hp : pc + 1 = pc') (k : ∀ h', Wr h h' x i (.int v) → Av G.Z h' x .int (vs.set i (.int v)) → N G K rm Q h' a b pc' ls st) : N G K rm Q h a b pc ls (.int v :: .int j :: .ref x :: st) := fun T locs X e N0 => by
  subst hp
  have A0 := A
  obtain ⟨c, A, rfl⟩ := A
  obtain ⟨T', h', X', e', W', s'⟩ := Jvm.RoadKit.stI X C.hx C.hZ e A (j := j) (ixin hj (by simpa using hi)) (g := mkF K.m pc ls (.int v :: .int j :: .ref x :: st)) rfl rfl (hb C.by hd)
  have F' := Fr.snoc X' N0 hx
  rw [(ix hj).2] at W'
  obtain ⟨s₂, o, hs, r⟩ := k h' W' (A0.same W') T' _ X' e' F'
  exact ⟨s₂, o, s' _ hs, r⟩
theorem N.lastore (C : Cx G K own nm bytes maxL ret W) {x : Addr} {vs : List Value} {j : Int32} {i : Nat} {v : Int64} (hd : decode bytes pc = .ok (.lastore, 1)) (A : Av G.Z h x .long vs) (hj : j.toInt = (i : Nat)) (hi : i < vs.length) (hx : G.n0 ≤ x) (hp : pc + 1 = pc') (k : ∀ h', Wr h h' x i (.long v) → Av G.Z h' x .long (vs.set i (.long v)) → N G K rm Q h' a b pc' ls st) : N G K rm Q h a b pc ls (.long v :: .int j :: .ref x :: st) := fun T locs X e N0 => by
  subst hp
  have A0 := A
  obtain ⟨c, A, rfl⟩ := A
  obtain ⟨T', h', X', e', W', s'⟩ := Jvm.RoadKit.stJ X C.hx C.hZ e A (j := j) (ixin hj (by simpa using hi)) (g := mkF K.m pc ls (.long v :: .int j :: .ref x :: st)) rfl rfl (hb C.by hd)
  have F' := Fr.snoc X' N0 hx
  rw [(ix hj).2] at W'
  obtain ⟨s₂, o, hs, r⟩ := k h' W' (A0.same W') T' _ X' e' F'
  exact ⟨s₂, o, s' _ hs, r⟩
theorem N.castore (C : Cx G K own nm bytes maxL ret W) {x : Addr} {vs : List Value} {j : Int32} {i : Nat} {v : Int32} (hd : decode bytes pc = .ok (.castore, 1)) (A : Av G.Z h x .char vs) (hj : j.toInt = (i : Nat)) (hi : i < vs.length) (hx : G.n0 ≤ x) (hp : pc + 1 = pc') (k : ∀ h', Wr h h' x i (.int (nar .char v)) → Av G.Z h' x .char (vs.set i (.int (nar .char v))) → N G K rm Q h' a b pc' ls st) : N G K rm Q h a b pc ls (.int v :: .int j :: .ref x :: st) := fun T locs X e N0 => by
  subst hp
  have A0 := A
  obtain ⟨c, A, rfl⟩ := A
  obtain ⟨T', h', X', e', W', s'⟩ := Jvm.RoadKit.stC X C.hx C.hZ e A (j := j) (ixin hj (by simpa using hi)) (g := mkF K.m pc ls (.int v :: .int j :: .ref x :: st)) rfl rfl (hb C.by hd)
  have F' := Fr.snoc X' N0 hx
  rw [(ix hj).2] at W'
  obtain ⟨s₂, o, hs, r⟩ := k h' W' (A0.same W') T' _ X' e' F'
  exact ⟨s₂, o, s' _ hs, r⟩
theorem N.bastore (C : Cx G K own nm bytes maxL ret W) {x : Addr} {vs : List Value} {j : Int32} {i : Nat} {v : Int32} (hd : decode bytes pc = .ok (.bastore, 1)) (A : Av G.Z h x .byte vs) (hj : j.toInt = (i : Nat)) (hi : i < vs.length) (hx : G.n0 ≤ x) (hp : pc + 1 = pc') (k : ∀ h', Wr h h' x i (.int (nar .byte v)) → Av G.Z h' x .byte (vs.set i (.int (nar .byte v))) → N G K rm Q h' a b pc' ls st) : N G K rm Q h a b pc ls (.int v :: .int j :: .ref x :: st) := fun T locs X e N0 => by
  subst hp
  have A0 := A
  obtain ⟨c, A, rfl⟩ := A
  obtain ⟨T', h', X', e', W', s'⟩ := Jvm.RoadKit.stB X C.hx C.hZ e A (j := j) (ixin hj (by simpa using hi)) (g := mkF K.m pc ls (.int v :: .int j :: .ref x :: st)) rfl rfl (hb C.by hd)
  have F' := Fr.snoc X' N0 hx
  rw [(ix hj).2] at W'
  obtain ⟨s₂, o, hs, r⟩ := k h' W' (A0.same W') T' _ X' e' F'
  exact ⟨s₂, o, s' _ hs, r⟩
theorem N.zastore (C : Cx G K own nm bytes maxL ret W) {x : Addr} {vs : List Value} {j : Int32} {i : Nat} {v : Int32} (hd : decode bytes pc = .ok (.bastore, 1)) (A : Av G.Z h x .boolean vs) (hj : j.toInt = (i : Nat)) (hi : i < vs.length) (hx : G.n0 ≤ x) (hp : pc + 1 = pc') (k : ∀ h', Wr h h' x i (.int (nar .boolean v)) → Av G.Z h' x .boolean (vs.set i (.int (nar .boolean v))) → N G K rm Q h' a b pc' ls st) : N G K rm Q h a b pc ls (.int v :: .int j :: .ref x :: st) := fun T locs X e N0 => by
  subst hp
  have A0 := A
  obtain ⟨c, A, rfl⟩ := A
  obtain ⟨T', h', X', e', W', s'⟩ := Jvm.RoadKit.stZ X C.hx C.hZ e A (j := j) (ixin hj (by simpa using hi)) (g := mkF K.m pc ls (.int v :: .int j :: .ref x :: st)) rfl rfl (hb C.by hd)
  have F' := Fr.snoc X' N0 hx
  rw [(ix hj).2] at W'
  obtain ⟨s₂, o, hs, r⟩ := k h' W' (A0.same W') T' _ X' e' F'
  exact ⟨s₂, o, s' _ hs, r⟩

/-! returns -/
theorem N.ret0 (C : Cx G K own nm bytes maxL ret W) (hr : ret = none) (hd : decode bytes pc = .ok (.return_, 1)) (ha : a ≤ rm.cells) (hb' : b ≤ rm.slots) (hq : Q none h) : N G K rm Q h a b pc ls [] := fun T locs X e N0 => by
  obtain ⟨fs, hr', hrun, hended, hW, hsame⟩ := X.leave (v := none) (fun _ => rfl) (hlocks := C.lk)
  exact ⟨_, _, X.returnOut C.hx (C.rt.trans hr) (hb C.by hd) hr', hrun, hended, _, _, rfl, ⟨by show Q none T.heap; rw [e]; exact hq, N0⟩, ⟨_, rfl⟩, hW, hsame.mono ha hb'⟩
theorem N.retV (C : Cx G K own nm bytes maxL ret W) {w : Value} {t : FieldType} {i : Instr} (hr : ret = some t) (hn : narrow t w = w)
    (hi : (i = .ireturn ∧ (t = .int ∨ t = .boolean ∨ t = .byte ∨ t = .char ∨ t = .short) ∧ ∃ z, w = .int z) ∨ (i = .lreturn ∧ t = .long ∧ ∃ z, w = .long z) ∨ (i = .dreturn ∧ t = .double ∧ ∃ z, w = .double z) ∨ (i = .freturn ∧ t = .float ∧ ∃ z, w = .float z) ∨ (i = .areturn ∧ t.isReference = true ∧ w.isRef = true))
    (hd : decode bytes pc = .ok (i, 1)) (ha : a ≤ rm.cells) (hb' : b ≤ rm.slots) (hq : Q (some w) h) : N G K rm Q h a b pc ls (w :: st) := fun T locs X e N0 => by
  obtain ⟨fs, hr', hrun, hended, hW, hsame⟩ := X.leave (v := some w) (fun q => by rw [C.rt, hr] at q; cases q) (hlocks := C.lk)
  exact ⟨_, _, retOut X C.hx (C.rt.trans hr) hn hi (hb C.by hd) hr', hrun, hended, _, _, rfl, ⟨by show Q (some w) T.heap; rw [e]; exact hq, N0⟩, ⟨_, rfl⟩, hW, hsame.mono ha hb'⟩
theorem N.retI (C : Cx G K own nm bytes maxL (some .int) W) {z : Int32} (hd : decode bytes pc = .ok (.ireturn, 1)) (ha : a ≤ rm.cells) (hb' : b ≤ rm.slots) (hq : Q (some (.int z)) h) : N G K rm Q h a b pc ls (.int z :: st) :=
  N.retV C rfl rfl (Or.inl ⟨rfl, Or.inl rfl, z, rfl⟩) hd ha hb' hq
theorem N.retL (C : Cx G K own nm bytes maxL (some .long) W) {z : Int64} (hd : decode bytes pc = .ok (.lreturn, 1)) (ha : a ≤ rm.cells) (hb' : b ≤ rm.slots) (hq : Q (some (.long z)) h) : N G K rm Q h a b pc ls (.long z :: st) :=
  N.retV C rfl rfl (Or.inr (Or.inl ⟨rfl, rfl, z, rfl⟩)) hd ha hb' hq
theorem N.retA (C : Cx G K own nm bytes maxL (some t) W) {w : Value} (ht : t.isReference = true) (hw : w.isRef = true) (hd : decode bytes pc = .ok (.areturn, 1)) (ha : a ≤ rm.cells) (hb' : b ≤ rm.slots) (hq : Q (some w) h) : N G K rm Q h a b pc ls (w :: st) :=
  N.retV C rfl (by rcases ref_cases hw with rfl | ⟨z, rfl⟩ <;> cases t <;> first | rfl | (cases ht)) (Or.inr (Or.inr (Or.inr (Or.inr ⟨rfl, ht, hw⟩)))) hd ha hb' hq
theorem N.retN (C : Cx G K own nm bytes maxL (some t) W) {z z' : Int32} (ht : t = .boolean ∨ t = .byte ∨ t = .char ∨ t = .short) (hz : nar t z = z') (hd : decode bytes pc = .ok (.ireturn, 1)) (ha : a ≤ rm.cells) (hb' : b ≤ rm.slots) (hq : Q (some (.int z')) h) : N G K rm Q h a b pc ls (.int z :: st) := fun T locs X e N0 => by
  subst hz
  obtain ⟨fs, hr', hrun, hended, hW, hsame⟩ := X.leave (v := some (.int (nar t z))) (fun q => by rw [C.rt] at q; cases q) (hlocks := C.lk)
  exact ⟨_, _, Jvm.RoadKit.retN X C.hx C.rt ht (hb C.by hd) hr', hrun, hended, _, _, rfl, ⟨by show Q (some (.int (nar t z))) T.heap; rw [e]; exact hq, N0⟩, ⟨_, rfl⟩, hW, hsame.mono ha hb'⟩
/-! calls by the callee's contract -/
section Calls
variable {y : MethodName} {bytes' : ByteArray} {maxL' : Nat} {ret' : Option FieldType} {rm' : Room} {as : Array Value} {R' : Option Value → Heap → Prop} {stk rest : List Value}
theorem N.callS (C : Cx G K own nm bytes maxL ret W) {i : Nat} (argsL : List Value) (hd : decode bytes pc = .ok (.invokestatic i, 3)) (w1 : (Jvm.Cond.methodLink own i y).before G.a0 G.Z = true) (w2 : (Jvm.Cond.static y).before G.a0 G.Z = true) (w3 : (Jvm.Cond.initialized y.cls).before G.a0 G.Z = true) (w4 : (Jvm.Cond.code y bytes' maxL' ret').before G.a0 G.Z = true)
    (hy : y.cls ≠ "java/lang/invoke/MethodHandle" ∧ y.cls ≠ "java/lang/invoke/VarHandle") (M : Con G y bytes' maxL' ret' rm' argsL.toArray h R') (hlen : ∀ sig, parseMethodDescriptor y.desc = some sig → argsL.length = sig.parameters.length) (hsz : ls.size = maxL)
    (hf : rm'.frames + 1 ≤ rm.frames) (hl : (rest.map fun v => v.category).sum + (maxL' + 11) + rm'.locals ≤ rm.locals) (hc : a + rm'.cells ≤ rm.cells) (hs : b + rm'.slots ≤ rm.slots) (hst : stk = argsL.reverse ++ rest) (hp : pc + 3 = pc')
    (k : ∀ v h', R' v h' → N G K rm Q h' (a + rm'.cells) (b + rm'.slots) pc' ls (v.toList ++ rest)) : N G K rm Q h a b pc ls stk := fun T locs X e N0 => by
  subst hp
  obtain ⟨v, _, ⟨T', L', k', n'⟩, -, X', ⟨Lc, ⟨hQ, N1⟩, l', y', z'⟩, s'⟩ := Jvm.LawKit.callS X C.hx (y := y) C.ow (mvT C.hZ w1) (mvT C.hZ w2) (mvT C.hZ w3) (mvT C.hZ w4) hy (backOf (W := (rest.map fun v => v.category).sum) (Q := fun v h L => R' v h ∧ Fr G.n0 L) (M []) C.hZ w4 w3 hf hl) (g := mkF K.m pc ls stk) rfl (by rw [C.ml]; exact hsz) (argsL := argsL) (rest := rest) hlen hst (by show 2 * 0 + _ ≤ _; omega) (hb C.by hd) (fun _ _ => ⟨rfl, e, hc, hs⟩)
  dsimp only [Pt.U, Pt.locs, Pt.cells, Pt.slots] at X' l' y' z' s' hQ
  subst l' y' z'
  obtain ⟨s₂, o, hs', r⟩ := k v T'.heap hQ T' _ X' rfl (N0.app N1)
  exact ⟨s₂, o, s' _ hs', r⟩
theorem N.callI (C : Cx G K own nm bytes maxL ret W) {i : Nat} (x : Addr) (argsL : List Value) (hd : decode bytes pc = .ok (.invokespecial i, 3)) (hy1 : y.name = "<init>") (w1 : (Jvm.Cond.methodLink own i y).before G.a0 G.Z = true) (w2 : (Jvm.Cond.instanceMethod y).before G.a0 G.Z = true) (w3 : (Jvm.Cond.initialized y.cls).before G.a0 G.Z = true) (w4 : (Jvm.Cond.code y bytes' maxL' none).before G.a0 G.Z = true)
    (hy : y.cls ≠ "java/lang/invoke/MethodHandle" ∧ y.cls ≠ "java/lang/invoke/VarHandle") (M : Con G y bytes' maxL' none rm' (.ref x :: argsL).toArray h R') (hlen : ∀ sig, parseMethodDescriptor y.desc = some sig → argsL.length = sig.parameters.length) (hsz : ls.size = maxL)
    (hf : rm'.frames + 1 ≤ rm.frames) (hl : (rest.map fun v => v.category).sum + (maxL' + 11) + rm'.locals ≤ rm.locals) (hc : a + rm'.cells ≤ rm.cells) (hs : b + rm'.slots ≤ rm.slots) (hst : stk = argsL.reverse ++ .ref x :: rest) (hp : pc + 3 = pc')
    (k : ∀ v h', R' v h' → N G K rm Q h' (a + rm'.cells) (b + rm'.slots) pc' ls (v.toList ++ rest)) : N G K rm Q h a b pc ls stk := fun T locs X e N0 => by
  subst hp
  obtain ⟨v, _, ⟨T', L', k', n'⟩, -, X', ⟨Lc, ⟨hQ, N1⟩, l', y', z'⟩, s'⟩ := X.specialBack C.hx (y := y) hy1 C.ow (mvT C.hZ w1) (mvT C.hZ w2) (mvT C.hZ w4) hy (backOf (W := (rest.map fun v => v.category).sum) (Q := fun v h L => R' v h ∧ Fr G.n0 L) (M []) C.hZ w4 w3 hf hl) (g := mkF K.m pc ls stk) rfl (by rw [C.ml]; exact hsz) (Steps.refl _) (a := x) (argsL := argsL) (rest := rest) hlen hst (by show 2 * 0 + _ ≤ _; omega) (hb C.by hd) (fun _ _ => ⟨rfl, e, hc, hs⟩)
  dsimp only [Pt.U, Pt.locs, Pt.cells, Pt.slots] at X' l' y' z' s' hQ
  subst l' y' z'
  obtain ⟨s₂, o, hs', r⟩ := k v T'.heap hQ T' _ X' rfl (N0.app N1)
  exact ⟨s₂, o, s'.trans hs', r⟩
/-- an instance method of a class that selects itself -/
theorem N.callV (C : Cx G K own nm bytes maxL ret W) {i : Nat} (x : Addr) (argsL : List Value) (hd : decode bytes pc = .ok (.invokevirtual i, 3)) (w1 : (Jvm.Cond.methodLink own i y).before G.a0 G.Z = true) (wd : (Jvm.Cond.declares y).before G.a0 G.Z = true) (ws : (Jvm.Cond.selects y.cls y y).before G.a0 G.Z = true) (w2 : (Jvm.Cond.instanceMethod y).before G.a0 G.Z = true) (w3 : (Jvm.Cond.initialized y.cls).before G.a0 G.Z = true) (w4 : (Jvm.Cond.code y bytes' maxL' ret').before G.a0 G.Z = true)
    (hy : y.cls ≠ "java/lang/invoke/MethodHandle" ∧ y.cls ≠ "java/lang/invoke/VarHandle") (E : Exa G.Z h x y.cls) (M : Con G y bytes' maxL' ret' rm' (.ref x :: argsL).toArray h R') (hlen : ∀ sig, parseMethodDescriptor y.desc = some sig → argsL.length = sig.parameters.length) (hsz : ls.size = maxL)
    (hf : rm'.frames + 1 ≤ rm.frames) (hl : (rest.map fun v => v.category).sum + (maxL' + 11) + rm'.locals ≤ rm.locals) (hc : a + rm'.cells ≤ rm.cells) (hs : b + rm'.slots ≤ rm.slots) (hst : stk = argsL.reverse ++ .ref x :: rest) (hp : pc + 3 = pc')
    (k : ∀ v h', R' v h' → N G K rm Q h' (a + rm'.cells) (b + rm'.slots) pc' ls (v.toList ++ rest)) : N G K rm Q h a b pc ls stk := fun T locs X e N0 => by
  subst hp
  obtain ⟨cq, kq, qa, qb, qc⟩ := isOf C.hZ e E
  obtain ⟨v, _, ⟨T', L', k', n'⟩, -, X', ⟨Lc, ⟨hQ, N1⟩, l', y', z'⟩, s'⟩ := X.virtualBack C.hx (y := y) (z := y) C.ow (mvT C.hZ w1) (mvT C.hZ wd) (notFace_of_selects (args := #[]) (mvT C.hZ ws)) (mvT C.hZ ws) (mvT C.hZ w2) hy (backOf (W := (rest.map fun v => v.category).sum) (Q := fun v h L => R' v h ∧ Fr G.n0 L) (M []) C.hZ w4 w3 hf hl) qa qc (g := mkF K.m pc ls stk) rfl (by rw [C.ml]; exact hsz) (Steps.refl _) (argsL := argsL) (rest := rest) hlen hst (by show 2 * 0 + _ ≤ _; omega) (hb C.by hd) (fun _ _ => ⟨rfl, e, hc, hs⟩)
  dsimp only [Pt.U, Pt.locs, Pt.cells, Pt.slots] at X' l' y' z' s' hQ
  subst l' y' z'
  obtain ⟨s₂, o, hs', r⟩ := k v T'.heap hQ T' _ X' rfl (N0.app N1)
  exact ⟨s₂, o, s'.trans hs', r⟩
/-- a private method -/
theorem N.callP (C : Cx G K own nm bytes maxL ret W) {i : Nat} (x : Addr) (argsL : List Value) (hd : decode bytes pc = .ok (.invokevirtual i, 3)) (w1 : (Jvm.Cond.methodLink own i y).before G.a0 G.Z = true) (wp : (Jvm.Cond.privateMethod y).before G.a0 G.Z = true) (ws : (Jvm.Cond.selects y.cls y y).before G.a0 G.Z = true) (w2 : (Jvm.Cond.instanceMethod y).before G.a0 G.Z = true) (w3 : (Jvm.Cond.initialized y.cls).before G.a0 G.Z = true) (w4 : (Jvm.Cond.code y bytes' maxL' ret').before G.a0 G.Z = true)
    (hy : y.cls ≠ "java/lang/invoke/MethodHandle" ∧ y.cls ≠ "java/lang/invoke/VarHandle") (E : Exa G.Z h x y.cls) (M : Con G y bytes' maxL' ret' rm' (.ref x :: argsL).toArray h R') (hlen : ∀ sig, parseMethodDescriptor y.desc = some sig → argsL.length = sig.parameters.length) (hsz : ls.size = maxL)
    (hf : rm'.frames + 1 ≤ rm.frames) (hl : (rest.map fun v => v.category).sum + (maxL' + 11) + rm'.locals ≤ rm.locals) (hc : a + rm'.cells ≤ rm.cells) (hs : b + rm'.slots ≤ rm.slots) (hst : stk = argsL.reverse ++ .ref x :: rest) (hp : pc + 3 = pc')
    (k : ∀ v h', R' v h' → N G K rm Q h' (a + rm'.cells) (b + rm'.slots) pc' ls (v.toList ++ rest)) : N G K rm Q h a b pc ls stk := fun T locs X e N0 => by
  subst hp
  obtain ⟨cq, qa, qb⟩ := E.cell
  obtain ⟨v, _, ⟨T', L', k', n'⟩, -, X', ⟨Lc, ⟨hQ, N1⟩, l', y', z'⟩, s'⟩ := X.privateBack C.hx (y := y) C.ow (mvT C.hZ w1) (mvT C.hZ w2) (mvT C.hZ ws) (Cond.privateMethod_at (mvP C.hZ wp (args := #[]))) (mvT C.hZ w4) hy (backOf (W := (rest.map fun v => v.category).sum) (Q := fun v h L => R' v h ∧ Fr G.n0 L) (M []) C.hZ w4 w3 hf hl) (g := mkF K.m pc ls stk) rfl (by rw [C.ml]; exact hsz) (Steps.refl _) (a := x) (by rw [e]; exact qa) qb (argsL := argsL) (rest := rest) hlen hst (by show 2 * 0 + _ ≤ _; omega) (hb C.by hd) (fun _ _ => ⟨rfl, e, hc, hs⟩)
  dsimp only [Pt.U, Pt.locs, Pt.cells, Pt.slots] at X' l' y' z' s' hQ
  subst l' y' z'
  obtain ⟨s₂, o, hs', r⟩ := k v T'.heap hQ T' _ X' rfl (N0.app N1)
  exact ⟨s₂, o, s'.trans hs', r⟩
end Calls
end Rules
end Jvm.OwnKit

namespace Jvm.Pilot.@@N@@
open Jvm Jvm.ClassFile Sem Op Lib Jvm.Free Jvm.Stand Jvm.LawKit Jvm.RoadKit Bundle Jvm.OwnKit Jvm.Pilot.@@N@@.Jvm.D
def own_F (M S i : Nat) : Nat := (i * M + S) % 5
def own_I (M S i : Nat) : Int32 := Int32.ofNat (own_F M S i)
theorem own_F5 (M S i : Nat) : own_F M S i < 5 := Nat.mod_lt _ (by decide)
theorem own_Finj0 : ((List.range 5).all fun M => (List.range 5).all fun S => (List.range 5).all fun i => (List.range 5).all fun j => M == 0 || own_F M S i != own_F M S j || i == j) = true := by decide +kernel
theorem own_Finj (M : Nat) (hM : M < 5) (hM1 : 1 ≤ M) (S : Nat) (hS : S < 5) (i : Nat) (hi : i < 5) (j : Nat) (hj : j < 5) (h : own_F M S i = own_F M S j) : i = j := by
  have h0 := own_Finj0
  simp only [List.all_eq_true, List.mem_range] at h0
  have := h0 M hM S hS i hi j hj
  simp only [Bool.or_eq_true, beq_iff_eq, bne_iff_ne, h, ne_eq, not_true, or_false] at this
  omega
theorem own_o5 : ∀ i : Nat, i < 5 → ∀ j : Nat, j < 5 → Int32.ofNat i = Int32.ofNat j → i = j := by decide +kernel
theorem own_t5 : ∀ i : Nat, i < 5 → (Int32.ofNat i).toInt = (i : Int) := by decide +kernel
theorem own_Iinj {M S i j : Nat} (hM : M < 5) (hM1 : 1 ≤ M) (hS : S < 5) (hi : i < 5) (hj : j < 5) (h : own_I M S i = own_I M S j) : i = j :=
  own_Finj M hM hM1 S hS i hi j hj (own_o5 _ (own_F5 M S i) _ (own_F5 M S j) h)
/-- the array of ints ps holds, at f(i), f(g i) -/
def own_Tr (M S : Nat) (ps : List Int32) (g : List Nat) : Prop := ps.length = 5 ∧ g.length = 5 ∧ (∀ i : Nat, i < 5 → g.getD i 0 < 5) ∧ ∀ i : Nat, i < 5 → ps[own_F M S i]? = some (own_I M S (g.getD i 0))
theorem own_Tr_set {M S : Nat} {ps : List Int32} {g : List Nat} (hM : M < 5) (hM1 : 1 ≤ M) (hS : S < 5) (h : own_Tr M S ps g) {c r : Nat} (hc : c < 5) (hr : r < 5) : own_Tr M S (ps.set (own_F M S c) (own_I M S r)) (g.set c r) := by
  obtain ⟨h1, h2, h3, h4⟩ := h
  have e : ∀ i : Nat, (g.set c r).getD i 0 = if i = c then r else g.getD i 0 := fun i => by
    by_cases q : i = c
    · subst q
      rw [if_pos rfl, List.getD_eq_getElem?_getD, List.getElem?_set_self (by omega)]; rfl
    · rw [if_neg q, List.getD_eq_getElem?_getD, List.getElem?_set_ne (Ne.symm q), ← List.getD_eq_getElem?_getD]
  refine ⟨by simp [h1], by simp [h2], fun i hi => ?_, fun i hi => ?_⟩
  · rw [e]; split
    · exact hr
    · exact h3 i hi
  · rw [e]
    by_cases q : i = c
    · subst q
      rw [if_pos rfl, List.getElem?_set_self (by rw [h1]; exact own_F5 M S i)]
    · rw [if_neg q, List.getElem?_set_ne (fun z => q (own_Finj M hM hM1 S hS i hi c hc z.symm))]
      exact h4 i hi
def own_up : Nat → List Nat → Nat → Option Nat
  | 0, _, _ => none
  | n + 1, g, c => if g.getD c 0 = c then some c else own_up n g (g.getD c 0)
def own_cp : Nat → List Nat → Nat → Nat → Option (List Nat)
  | 0, _, _, _ => none
  | n + 1, g, r, c => if g.getD c 0 = r then some g else own_cp n (g.set c r) r (g.getD c 0)
def own_pth (g : List Nat) (k i : Nat) : Bool := let a1 := g.getD k 0; let a2 := g.getD a1 0; let a3 := g.getD a2 0; i == k || i == a1 || i == a2 || i == a3
def own_rt (g : List Nat) (k : Nat) : Nat := let a1 := g.getD k 0; let a2 := g.getD a1 0; let a3 := g.getD a2 0; g.getD a3 0
def own_good (g : List Nat) (k : Nat) : Bool :=
  decide (own_up 6 g k = some (own_rt g k)) && match own_cp 6 g (own_rt g k) k with
    | none => false
    | some g' => (List.range 5).all fun i => g'.getD i 0 == if own_pth g k i && i != own_rt g k then own_rt g k else g.getD i 0
theorem own_all : ∀ q1 : Nat, q1 < 2 → ∀ q2 : Nat, q2 < 3 → ∀ q3 : Nat, q3 < 4 → ∀ q4 : Nat, q4 < 5 → ∀ k : Nat, k < 5 → own_good [0, q1, q2, q3, q4] k = true := by decide +kernel
def own_f (i m s : Int32) : Int32 := ((i * m) + s) % (5 : Int32)
theorem own_f_eq : ((List.range 5).all fun i => (List.range 5).all fun M => (List.range 5).all fun S => decide (own_f (Int32.ofNat i) (Int32.ofNat M) (Int32.ofNat S) = own_I M S i)) = true := by decide +kernel
theorem own_fI {i M S : Nat} (hi : i < 5) (hM : M < 5) (hS : S < 5) : own_f (Int32.ofNat i) (Int32.ofNat M) (Int32.ofNat S) = own_I M S i := by
  have h0 := own_f_eq
  simp only [List.all_eq_true, List.mem_range, decide_eq_true_eq] at h0
  exact h0 i hi M hM S hS
theorem own_It {M S i : Nat} : (own_I M S i).toInt = ((own_F M S i : Nat) : Int) := own_t5 _ (own_F5 M S i)
theorem own_of {x : Int32} {n : Nat} (hn : n ≤ 5) (h0 : 0 ≤ x.toInt) (h1 : x.toInt < n) : ∃ i : Nat, i < n ∧ x = Int32.ofNat i := by
  refine ⟨x.toInt.toNat, by omega, ?_⟩
  apply Int32.toInt_inj.mp
  rw [own_t5 _ (by omega)]
  omega
theorem own_Trget {M S : Nat} {ps : List Int32} {g : List Nat} (h : own_Tr M S ps g) {c : Nat} (hc : c < 5) : (ps.map Value.int)[own_F M S c]? = some (.int (own_I M S (g.getD c 0))) := by
  rw [List.getElem?_map, h.2.2.2 c hc]; rfl
theorem own_rem5 (x : Int32) : ∃ i : Nat, i < 5 ∧ (x &&& (2147483647 : Int32)) % (5 : Int32) = Int32.ofNat i := by
  have h1 := (c_and x 2147483647 (by decide)).1
  have h2 := (c_irem (x &&& (2147483647 : Int32)) 5 5 (by decide)).1 h1
  exact own_of (by decide) (by omega) (by omega)
theorem own_t120 (x : Int32) : 0 ≤ ((x &&& (2147483647 : Int32)) % (120 : Int32)).toInt ∧ ((x &&& (2147483647 : Int32)) % (120 : Int32)).toInt < 120 := by
  have h1 := (c_and x 2147483647 (by decide)).1
  have h2 := (c_irem (x &&& (2147483647 : Int32)) 120 120 (by decide)).1 h1
  omega
theorem own_q1 {t : Int32} (h : 0 ≤ t.toInt) : ∃ i : Nat, i < 2 ∧ t % (2 : Int32) = Int32.ofNat i := by
  have h2 := (c_irem t 2 2 (by decide)).1 h
  exact own_of (by decide) (by omega) (by omega)
theorem own_qd {t d e : Int32} {D E : Nat} (h : 0 ≤ t.toInt) (hd : d.toInt = (D : Nat)) (he : e.toInt = (E : Nat)) (hD : 1 < D) (hE : 0 < E) (hE5 : E ≤ 5) : ∃ i : Nat, i < E ∧ (t / d) % e = Int32.ofNat i := by
  have h1 := (c_idiv t d D hd (fun q => by rw [q] at hd; have : (-1 : Int32).toInt = -1 := (by decide); omega)).1 h
  have h3 : 0 ≤ (t / d).toInt := by rw [h1]; exact Int.ediv_nonneg h (by omega)
  have h2 := (c_iremV (t / d) e).1 h3 (by omega)
  exact own_of hE5 (by omega) (by omega)
theorem own_m4 (x : Int32) : ∃ M : Nat, M < 5 ∧ 1 ≤ M ∧ (x &&& (3 : Int32)) + (1 : Int32) = Int32.ofNat M := by
  have h1 := c_mask x 3 2 (by decide) (by decide)
  have h2 := c_iadd (x &&& 3) 1
  have h3 := rng32 ((x &&& (3 : Int32)) + (1 : Int32))
  have e1 : (1 : Int32).toInt = 1 := by decide
  obtain ⟨i, hi, e⟩ := own_of (x := (x &&& (3 : Int32)) + (1 : Int32)) (n := 5) (by decide) (by omega) (by omega)
  refine ⟨i, hi, ?_, e⟩
  have := own_t5 i hi
  rw [← e] at this
  omega
theorem own_l5 (i : Nat) (h : i < 5) : i = 0 ∨ i = 1 ∨ i = 2 ∨ i = 3 ∨ i = 4 := by omega
/-- the list that the five stores leave -/
theorem own_build {M S q1 q2 q3 q4 : Nat} (hM : M < 5) (hM1 : 1 ≤ M) (hS : S < 5) (h1 : q1 < 2) (h2 : q2 < 3) (h3 : q3 < 4) (h4 : q4 < 5) :
    own_Tr M S ((((([0, 0, 0, 0, 0] : List Int32).set (own_F M S 0) (own_I M S 0)).set (own_F M S 1) (own_I M S q1)).set (own_F M S 2) (own_I M S q2)).set (own_F M S 3) (own_I M S q3) |>.set (own_F M S 4) (own_I M S q4)) [0, q1, q2, q3, q4] := by
  have nf : ∀ i j : Nat, i < 5 → j < 5 → i ≠ j → own_F M S i ≠ own_F M S j := fun i j hi hj e q => e (own_Finj M hM hM1 S hS i hi j hj q)
  have f5 := fun i => own_F5 M S i
  refine ⟨by simp, rfl, fun i hi => ?_, fun i hi => ?_⟩
  · rcases own_l5 i hi with rfl | rfl | rfl | rfl | rfl <;> simp <;> omega
  · rcases own_l5 i hi with rfl | rfl | rfl | rfl | rfl
    · rw [List.getElem?_set_ne (nf 4 0 (by decide) (by decide) (by decide)), List.getElem?_set_ne (nf 3 0 (by decide) (by decide) (by decide)), List.getElem?_set_ne (nf 2 0 (by decide) (by decide) (by decide)), List.getElem?_set_ne (nf 1 0 (by decide) (by decide) (by decide)), List.getElem?_set_self (by simpa using f5 0)]; rfl
    · rw [List.getElem?_set_ne (nf 4 1 (by decide) (by decide) (by decide)), List.getElem?_set_ne (nf 3 1 (by decide) (by decide) (by decide)), List.getElem?_set_ne (nf 2 1 (by decide) (by decide) (by decide)), List.getElem?_set_self (by simpa using f5 1)]; rfl
    · rw [List.getElem?_set_ne (nf 4 2 (by decide) (by decide) (by decide)), List.getElem?_set_ne (nf 3 2 (by decide) (by decide) (by decide)), List.getElem?_set_self (by simpa using f5 2)]; rfl
    · rw [List.getElem?_set_ne (nf 4 3 (by decide) (by decide) (by decide)), List.getElem?_set_self (by simpa using f5 3)]; rfl
    · rw [List.getElem?_set_self (by simpa using f5 4)]; rfl
/-- what the plain law says of the tree -/
theorem own_law {q1 q2 q3 q4 k : Nat} (h1 : q1 < 2) (h2 : q2 < 3) (h3 : q3 < 4) (h4 : q4 < 5) (hk : k < 5) : ∃ (g' : List Nat), own_up 6 [0, q1, q2, q3, q4] k = some (own_rt [0, q1, q2, q3, q4] k) ∧ own_cp 6 [0, q1, q2, q3, q4] (own_rt [0, q1, q2, q3, q4] k) k = some g' ∧
    ∀ i : Nat, i < 5 → g'.getD i 0 = if own_pth [0, q1, q2, q3, q4] k i && i != own_rt [0, q1, q2, q3, q4] k then own_rt [0, q1, q2, q3, q4] k else ([0, q1, q2, q3, q4] : List Nat).getD i 0 := by
  have h := own_all q1 h1 q2 h2 q3 h3 q4 h4 k hk
  unfold own_good at h
  obtain ⟨e1, e2⟩ := Bool.and_eq_true_iff.mp h
  have e1 := of_decide_eq_true e1
  cases hc : own_cp 6 [0, q1, q2, q3, q4] (own_rt [0, q1, q2, q3, q4] k) k with
  | none => rw [hc] at e2; cases e2
  | some g' =>
    rw [hc] at e2
    refine ⟨g', e1, rfl, fun i hi => ?_⟩
    have := List.all_eq_true.mp e2 i (List.mem_range.mpr hi)
    exact beq_iff_eq.mp this
/-- the five values of q, as a list of ints -/
def own_qs (q1 q2 q3 q4 : Nat) : List Value := [.int (0 : Int32), .int (Int32.ofNat q1), .int (Int32.ofNat q2), .int (Int32.ofNat q3), .int (Int32.ofNat q4)]
theorem own_qget {q1 q2 q3 q4 i : Nat} (hi : i < 5) : (own_qs q1 q2 q3 q4)[i]? = some (.int (Int32.ofNat (([0, q1, q2, q3, q4] : List Nat).getD i 0))) := by
  rcases own_l5 i hi with rfl | rfl | rfl | rfl | rfl <;> rfl
theorem own_g5 {q1 q2 q3 q4 i : Nat} (h1 : q1 < 2) (h2 : q2 < 3) (h3 : q3 < 4) (h4 : q4 < 5) (hi : i < 5) : ([0, q1, q2, q3, q4] : List Nat).getD i 0 < 5 := by
  rcases own_l5 i hi with rfl | rfl | rfl | rfl | rfl <;> simp <;> omega
theorem own_oe {i j : Nat} (hi : i < 5) (hj : j < 5) : Int32.ofNat i = Int32.ofNat j ↔ i = j := ⟨own_o5 i hi j hj, fun e => by rw [e]⟩
theorem own_yes {M S : Nat} {g g' : List Nat} {k i r : Nat} {a1 a2 a3 : Nat} (hM : M < 5) (hS : S < 5) (hi : i < 5) (hk : k < 5) (hr : r < 5) (h1 : a1 < 5) (h2 : a2 < 5) (h3 : a3 < 5) (e1 : g.getD k 0 = a1) (e2 : g.getD a1 0 = a2) (e3 : g.getD a2 0 = a3) (hg : g'.getD i 0 = if own_pth g k i && i != r then r else g.getD i 0) :
    ((Int32.ofNat i = Int32.ofNat k ∨ Int32.ofNat i = Int32.ofNat a1 ∨ Int32.ofNat i = Int32.ofNat a2 ∨ Int32.ofNat i = Int32.ofNat a3) → ¬ Int32.ofNat i = Int32.ofNat r → own_I M S (g'.getD i 0) = own_f (Int32.ofNat r) (Int32.ofNat M) (Int32.ofNat S)) ∧
    (g.getD i 0 < 5 → ¬ ((Int32.ofNat i = Int32.ofNat k ∨ Int32.ofNat i = Int32.ofNat a1 ∨ Int32.ofNat i = Int32.ofNat a2 ∨ Int32.ofNat i = Int32.ofNat a3) ∧ ¬ Int32.ofNat i = Int32.ofNat r) → own_I M S (g'.getD i 0) = own_f (Int32.ofNat (g.getD i 0)) (Int32.ofNat M) (Int32.ofNat S)) := by
  rw [own_oe hi hk, own_oe hi h1, own_oe hi h2, own_oe hi h3, own_oe hi hr]
  have hp : own_pth g k i = true ↔ (i = k ∨ i = a1 ∨ i = a2 ∨ i = a3) := by
    unfold own_pth
    simp only [e1, e2, e3, Bool.or_eq_true, beq_iff_eq, or_assoc]
  constructor
  · intro q n
    rw [hg, if_pos (by simp only [Bool.and_eq_true, bne_iff_ne]; exact ⟨hp.mpr q, n⟩), own_fI hr hM hS]
  · intro h5 q
    rw [hg, if_neg (by simp only [Bool.and_eq_true, bne_iff_ne]; rintro ⟨a, b⟩; exact q ⟨hp.mp a, b⟩), own_fI h5 hM hS]
theorem own_fcon {i M S : Nat} {h : Heap} (hi : i < 5) (hM : M < 5) (hS : S < 5) (v : Option Value) (h' : Heap) (q : v = some (.int (own_f (Int32.ofNat i) (Int32.ofNat M) (Int32.ofNat S))) ∧ h = h') : v = some (.int (own_I M S i)) ∧ h = h' := by
  rw [← own_fI hi hM hS]; exact q
theorem pn0 : plainName "com/example/pair_to_plane/pairtoplane/IntArraysRootOfPinLaw" = true := by first | (simp [plainName, overriddenIn]; done) | decide +kernel
theorem pn1 : plainName "com/example/pair_to_plane/pairtoplane/IntArraysRootOfPinLaw" = true := by first | (simp [plainName, overriddenIn]; done) | decide +kernel
theorem pn2 : plainName "com/example/pair_to_plane/pairtoplane/IntArrays" = true := by first | (simp [plainName, overriddenIn]; done) | decide +kernel
theorem pn3 : plainName "com/example/pair_to_plane/pairtoplane/IntArraysRootOfPinLaw" = true := by first | (simp [plainName, overriddenIn]; done) | decide +kernel
theorem pd__III_I : parseMethodDescriptor "(III)I" = some ⟨[.int, .int, .int], some .int⟩ := by decide +kernel
theorem pd___II_I : parseMethodDescriptor "([II)I" = some ⟨[(.array .int), .int], some .int⟩ := by decide +kernel
theorem pd___I_IIIIIIIII_Z : parseMethodDescriptor "([I[IIIIIIIII)Z" = some ⟨[(.array .int), (.array .int), .int, .int, .int, .int, .int, .int, .int, .int], some .boolean⟩ := by decide +kernel

theorem d1_0 : decode method_2_code 0 = .ok (.iload_n 0, 1) := by decide +kernel
theorem d1_1 : decode method_2_code 1 = .ok (.iload_n 1, 1) := by decide +kernel
theorem d1_2 : decode method_2_code 2 = .ok (.imul, 1) := by decide +kernel
theorem d1_3 : decode method_2_code 3 = .ok (.iload_n 2, 1) := by decide +kernel
theorem d1_4 : decode method_2_code 4 = .ok (.iadd, 1) := by decide +kernel
theorem d1_5 : decode method_2_code 5 = .ok (.iconst 5, 1) := by decide +kernel
theorem d1_6 : decode method_2_code 6 = .ok (.irem, 1) := by decide +kernel
theorem d1_7 : decode method_2_code 7 = .ok (.ireturn, 1) := by decide +kernel
theorem d2_0 : decode prog_5_method_3_code 0 = .ok (.iload_n 1, 1) := by decide +kernel
theorem d2_1 : decode prog_5_method_3_code 1 = .ok (.istore_n 2, 1) := by decide +kernel
theorem d2_2 : decode prog_5_method_3_code 2 = .ok (.aload_n 0, 1) := by decide +kernel
theorem d2_3 : decode prog_5_method_3_code 3 = .ok (.iload_n 2, 1) := by decide +kernel
theorem d2_4 : decode prog_5_method_3_code 4 = .ok (.iaload, 1) := by decide +kernel
theorem d2_5 : decode prog_5_method_3_code 5 = .ok (.iload_n 2, 1) := by decide +kernel
theorem d2_6 : decode prog_5_method_3_code 6 = .ok (.if_icmp .eq 10, 3) := by decide +kernel
theorem d2_9 : decode prog_5_method_3_code 9 = .ok (.aload_n 0, 1) := by decide +kernel
theorem d2_10 : decode prog_5_method_3_code 10 = .ok (.iload_n 2, 1) := by decide +kernel
theorem d2_11 : decode prog_5_method_3_code 11 = .ok (.iaload, 1) := by decide +kernel
theorem d2_12 : decode prog_5_method_3_code 12 = .ok (.istore_n 2, 1) := by decide +kernel
theorem d2_13 : decode prog_5_method_3_code 13 = .ok (.goto (-11), 3) := by decide +kernel
theorem d2_16 : decode prog_5_method_3_code 16 = .ok (.iload_n 1, 1) := by decide +kernel
theorem d2_17 : decode prog_5_method_3_code 17 = .ok (.istore_n 3, 1) := by decide +kernel
theorem d2_18 : decode prog_5_method_3_code 18 = .ok (.aload_n 0, 1) := by decide +kernel
theorem d2_19 : decode prog_5_method_3_code 19 = .ok (.iload_n 3, 1) := by decide +kernel
theorem d2_20 : decode prog_5_method_3_code 20 = .ok (.iaload, 1) := by decide +kernel
theorem d2_21 : decode prog_5_method_3_code 21 = .ok (.iload_n 2, 1) := by decide +kernel
theorem d2_22 : decode prog_5_method_3_code 22 = .ok (.if_icmp .eq 18, 3) := by decide +kernel
theorem d2_25 : decode prog_5_method_3_code 25 = .ok (.aload_n 0, 1) := by decide +kernel
theorem d2_26 : decode prog_5_method_3_code 26 = .ok (.iload_n 3, 1) := by decide +kernel
theorem d2_27 : decode prog_5_method_3_code 27 = .ok (.iaload, 1) := by decide +kernel
theorem d2_28 : decode prog_5_method_3_code 28 = .ok (.istore 4, 2) := by decide +kernel
theorem d2_30 : decode prog_5_method_3_code 30 = .ok (.aload_n 0, 1) := by decide +kernel
theorem d2_31 : decode prog_5_method_3_code 31 = .ok (.iload_n 3, 1) := by decide +kernel
theorem d2_32 : decode prog_5_method_3_code 32 = .ok (.iload_n 2, 1) := by decide +kernel
theorem d2_33 : decode prog_5_method_3_code 33 = .ok (.iastore, 1) := by decide +kernel
theorem d2_34 : decode prog_5_method_3_code 34 = .ok (.iload 4, 2) := by decide +kernel
theorem d2_36 : decode prog_5_method_3_code 36 = .ok (.istore_n 3, 1) := by decide +kernel
theorem d2_37 : decode prog_5_method_3_code 37 = .ok (.goto (-19), 3) := by decide +kernel
theorem d2_40 : decode prog_5_method_3_code 40 = .ok (.iload_n 2, 1) := by decide +kernel
theorem d2_41 : decode prog_5_method_3_code 41 = .ok (.ireturn, 1) := by decide +kernel
theorem d3_0 : decode method_3_code 0 = .ok (.iload_n 2, 1) := by decide +kernel
theorem d3_1 : decode method_3_code 1 = .ok (.iload_n 3, 1) := by decide +kernel
theorem d3_2 : decode method_3_code 2 = .ok (.if_icmp .eq 21, 3) := by decide +kernel
theorem d3_5 : decode method_3_code 5 = .ok (.iload_n 2, 1) := by decide +kernel
theorem d3_6 : decode method_3_code 6 = .ok (.iload 4, 2) := by decide +kernel
theorem d3_8 : decode method_3_code 8 = .ok (.if_icmp .eq 15, 3) := by decide +kernel
theorem d3_11 : decode method_3_code 11 = .ok (.iload_n 2, 1) := by decide +kernel
theorem d3_12 : decode method_3_code 12 = .ok (.iload 5, 2) := by decide +kernel
theorem d3_14 : decode method_3_code 14 = .ok (.if_icmp .eq 9, 3) := by decide +kernel
theorem d3_17 : decode method_3_code 17 = .ok (.iload_n 2, 1) := by decide +kernel
theorem d3_18 : decode method_3_code 18 = .ok (.iload 6, 2) := by decide +kernel
theorem d3_20 : decode method_3_code 20 = .ok (.if_icmp .ne 13, 3) := by decide +kernel
theorem d3_23 : decode method_3_code 23 = .ok (.iload_n 2, 1) := by decide +kernel
theorem d3_24 : decode method_3_code 24 = .ok (.iload 7, 2) := by decide +kernel
theorem d3_26 : decode method_3_code 26 = .ok (.if_icmp .eq 7, 3) := by decide +kernel
theorem d3_29 : decode method_3_code 29 = .ok (.iconst 1, 1) := by decide +kernel
theorem d3_30 : decode method_3_code 30 = .ok (.goto 4, 3) := by decide +kernel
theorem d3_33 : decode method_3_code 33 = .ok (.iconst 0, 1) := by decide +kernel
theorem d3_34 : decode method_3_code 34 = .ok (.istore 10, 2) := by decide +kernel
theorem d3_36 : decode method_3_code 36 = .ok (.iload 10, 2) := by decide +kernel
theorem d3_38 : decode method_3_code 38 = .ok (.ifCond .eq 15, 3) := by decide +kernel
theorem d3_41 : decode method_3_code 41 = .ok (.iload 7, 2) := by decide +kernel
theorem d3_43 : decode method_3_code 43 = .ok (.iload 8, 2) := by decide +kernel
theorem d3_45 : decode method_3_code 45 = .ok (.iload 9, 2) := by decide +kernel
theorem d3_47 : decode method_3_code 47 = .ok (.invokestatic 7, 3) := by decide +kernel
theorem d3_50 : decode method_3_code 50 = .ok (.goto 13, 3) := by decide +kernel
theorem d3_53 : decode method_3_code 53 = .ok (.aload_n 1, 1) := by decide +kernel
theorem d3_54 : decode method_3_code 54 = .ok (.iload_n 2, 1) := by decide +kernel
theorem d3_55 : decode method_3_code 55 = .ok (.iaload, 1) := by decide +kernel
theorem d3_56 : decode method_3_code 56 = .ok (.iload 8, 2) := by decide +kernel
theorem d3_58 : decode method_3_code 58 = .ok (.iload 9, 2) := by decide +kernel
theorem d3_60 : decode method_3_code 60 = .ok (.invokestatic 7, 3) := by decide +kernel
theorem d3_63 : decode method_3_code 63 = .ok (.istore 11, 2) := by decide +kernel
theorem d3_65 : decode method_3_code 65 = .ok (.aload_n 0, 1) := by decide +kernel
theorem d3_66 : decode method_3_code 66 = .ok (.iload_n 2, 1) := by decide +kernel
theorem d3_67 : decode method_3_code 67 = .ok (.iload 8, 2) := by decide +kernel
theorem d3_69 : decode method_3_code 69 = .ok (.iload 9, 2) := by decide +kernel
theorem d3_71 : decode method_3_code 71 = .ok (.invokestatic 7, 3) := by decide +kernel
theorem d3_74 : decode method_3_code 74 = .ok (.iaload, 1) := by decide +kernel
theorem d3_75 : decode method_3_code 75 = .ok (.iload 11, 2) := by decide +kernel
theorem d3_77 : decode method_3_code 77 = .ok (.if_icmp .ne 7, 3) := by decide +kernel
theorem d3_80 : decode method_3_code 80 = .ok (.iconst 1, 1) := by decide +kernel
theorem d3_81 : decode method_3_code 81 = .ok (.goto 4, 3) := by decide +kernel
theorem d3_85 : decode method_3_code 85 = .ok (.ireturn, 1) := by decide +kernel
theorem ef1 (m : MethodId) (x0 : Int32) (x1 : Int32) (x2 : Int32) : entryFrame m #[(.int x0), (.int x1), (.int x2)] 3 = mkF m 0 #[.val (.int x0), .val (.int x1), .val (.int x2)] [] := by first | (simp [entryFrame, mkF, argsToLocals, Value.category]; done) | rfl
theorem ef2 (m : MethodId) (x0 : Addr) (x1 : Int32) : entryFrame m #[(.ref x0), (.int x1)] 5 = mkF m 0 #[.val (.ref x0), .val (.int x1), .unset, .unset, .unset] [] := by first | (simp [entryFrame, mkF, argsToLocals, Value.category]; done) | rfl
theorem ef3 (m : MethodId) (x0 : Addr) (x1 : Addr) (x2 : Int32) (x3 : Int32) (x4 : Int32) (x5 : Int32) (x6 : Int32) (x7 : Int32) (x8 : Int32) (x9 : Int32) : entryFrame m #[(.ref x0), (.ref x1), (.int x2), (.int x3), (.int x4), (.int x5), (.int x6), (.int x7), (.int x8), (.int x9)] 12 = mkF m 0 #[.val (.ref x0), .val (.ref x1), .val (.int x2), .val (.int x3), .val (.int x4), .val (.int x5), .val (.int x6), .val (.int x7), .val (.int x8), .val (.int x9), .unset, .unset] [] := by first | (simp [entryFrame, mkF, argsToLocals, Value.category]; done) | rfl
theorem ef0 (m : MethodId) (x0 : Int32) (x1 : Int32) (x2 : Int32) (x3 : Int32) : entryFrame m #[(.int x0), (.int x1), (.int x2), (.int x3)] maxLocals = mkF m 0 #[.val (.int x0), .val (.int x1), .val (.int x2), .val (.int x3), .unset, .unset, .unset, .unset, .unset, .unset, .unset, .unset, .unset, .unset, .unset, .unset, .unset] [] := by first | (simp [entryFrame, mkF, argsToLocals, Value.category, maxLocals]; done) | rfl
def rm1 : Room := { frames := 0, cells := 0, slots := 0, locals := 0 }
def rm2 : Room := { frames := 0, cells := 0, slots := 0, locals := 0 }
def rm3 : Room := { frames := 1, cells := 0, slots := 0, locals := 20 }
set_option maxRecDepth 65536 in
set_option maxHeartbeats 40000000 in
theorem con1 (G : Gx) (hw : ∀ d ∈ tables_1, d.before G.a0 G.Z = true) (i m s : Int32) (h : Heap) :
    Con G (⟨"com/example/pair_to_plane/pairtoplane/IntArraysRootOfPinLaw", "f", "(III)I"⟩ : MethodName) method_2_code 3 (some .int) rm1 #[(.int i), (.int m), (.int s)] h (fun v h' => v = some (.int (own_f i m s)) ∧ h = h') := by
  refine Con.of (W := tables_1) (plainFor_of_name pn1) hw (fun mm => ef1 mm i m s) (fun K C => ?_)
  have C : Cx G K "com/example/pair_to_plane/pairtoplane/IntArraysRootOfPinLaw" "f" method_2_code 3 (some .int) tables_1 := C
  generalize hQ : (fun v h' => v = some (.int (own_f i m s)) ∧ h = h' : Option Value → Heap → Prop) = Q
  refine N.iloadN C (pc' := 1) d1_0 rfl rfl ?_
  refine N.iloadN C (pc' := 2) d1_1 rfl rfl ?_
  refine N.imul C (pc' := 3) d1_2 rfl ?_
  refine N.iloadN C (pc' := 4) d1_3 rfl rfl ?_
  refine N.iadd C (pc' := 5) d1_4 rfl ?_
  refine N.iconst C (pc' := 6) (z := 5) d1_5 rfl rfl ?_
  refine N.irem C (pc' := 7) d1_6 (by decide) rfl ?_
  exact N.retI C d1_7 (by decide) (by decide) (by subst hQ; exact ⟨rfl, rfl⟩)
set_option maxRecDepth 65536 in
set_option maxHeartbeats 40000000 in
theorem con2 (G : Gx) (hw : ∀ d ∈ tables_1, d.before G.a0 G.Z = true) (a : Addr) (M S k : Nat) (ps : List Int32) (g g' : List Nat) (r : Nat) (h : Heap) (hM : M < 5) (hM1 : 1 ≤ M) (hS : S < 5) (hk : k < 5) (hr : r < 5) (Z0 : G.n0 ≤ h.size) (g_a : G.n0 ≤ a) (A_a : Av G.Z h a .int (ps.map .int)) (hT : own_Tr M S ps g) (hup : own_up 6 g k = some r) (hcp : own_cp 6 g r k = some g') :
    Con G (⟨"com/example/pair_to_plane/pairtoplane/IntArrays", "rootOf", "([II)I"⟩ : MethodName) prog_5_method_3_code 5 (some .int) rm2 #[(.ref a), (.int (own_I M S k))] h (fun v h' => ∃ ps' : List Int32, v = some (.int (own_I M S r)) ∧ Keep h h' [a] ∧ Av G.Z h' a .int (ps'.map .int) ∧ own_Tr M S ps' g') := by
  refine Con.of (W := tables_1) (plainFor_of_name pn2) hw (fun mm => ef2 mm a (own_I M S k)) (fun K C => ?_)
  have C : Cx G K "com/example/pair_to_plane/pairtoplane/IntArrays" "rootOf" prog_5_method_3_code 5 (some .int) tables_1 := C
  generalize hQ : (fun v h' => ∃ ps' : List Int32, v = some (.int (own_I M S r)) ∧ Keep h h' [a] ∧ Av G.Z h' a .int (ps'.map .int) ∧ own_Tr M S ps' g' : Option Value → Heap → Prop) = Q
  refine N.iloadN C (pc' := 1) d2_0 rfl rfl ?_
  refine N.istoreN C (pc' := 2) (ls' := #[.val (.ref a), .val (.int (own_I M S k)), .val (.int (own_I M S k)), .unset, .unset]) d2_1 rfl rfl ?_
  have K0 : Keep h h [a] := Keep.refl _ _
  have loop1 : ∀ (n c : Nat), c < 5 → own_up n g c = some r → N G K rm2 Q h 0 0 16 #[.val (.ref a), .val (.int (own_I M S k)), .val (.int (own_I M S r)), .unset, .unset] [] → N G K rm2 Q h 0 0 2 #[.val (.ref a), .val (.int (own_I M S k)), .val (.int (own_I M S c)), .unset, .unset] [] := by
    intro n
    induction n with
    | zero => intro c hc hu; cases hu
    | succ n ih =>
      intro c hc hu j16
      unfold own_up at hu
      refine N.aloadN C (pc' := 3) d2_2 rfl rfl rfl ?_
      refine N.iloadN C (pc' := 4) d2_3 rfl rfl ?_
      refine N.iaload C (pc' := 5) (i := (own_F M S c)) (v := (.int (own_I M S (g.getD c 0)))) d2_4 A_a own_It (own_Trget hT hc) rfl ?_
      refine N.iloadN C (pc' := 6) d2_5 rfl rfl ?_
      refine N.icmp C (pt := 16) (pf := 9) d2_6 rfl rfl (fun (hc6 : (own_I M S (g.getD c 0)) = (own_I M S c)) => ?_) (fun (hc6 : ¬ (own_I M S (g.getD c 0)) = (own_I M S c)) => ?_)
      · have hi6 : (own_I M S (g.getD c 0)).toInt = (own_I M S c).toInt := eqI hc6
        have e1 := own_Iinj hM hM1 hS (hT.2.2.1 c hc) hc hc6
        rw [if_pos e1] at hu
        cases hu
        exact j16
      · have hi6 : ¬ (own_I M S (g.getD c 0)).toInt = (own_I M S c).toInt := neI hc6
        refine N.aloadN C (pc' := 10) d2_9 rfl rfl rfl ?_
        refine N.iloadN C (pc' := 11) d2_10 rfl rfl ?_
        refine N.iaload C (pc' := 12) (i := (own_F M S c)) (v := (.int (own_I M S (g.getD c 0)))) d2_11 A_a own_It (own_Trget hT hc) rfl ?_
        refine N.istoreN C (pc' := 13) (ls' := #[.val (.ref a), .val (.int (own_I M S k)), .val (.int (own_I M S (g.getD c 0))), .unset, .unset]) d2_12 rfl rfl ?_
        refine N.goto C (pc' := 2) d2_13 rfl ?_
        exact ih _ (hT.2.2.1 c hc) (by rw [if_neg (fun q => hc6 (by rw [q]))] at hu; exact hu) j16
  have loop2 : ∀ (n : Nat) (h1 : Heap) (ps : List Int32) (g : List Nat) (c : Nat) (up : Int32), G.n0 ≤ h1.size → Av G.Z h1 a .int (ps.map .int) → own_Tr M S ps g → c < 5 → own_cp n g r c = some g' → Keep h h1 [a] → N G K rm2 Q h1 0 0 18 #[.val (.ref a), .val (.int (own_I M S k)), .val (.int (own_I M S r)), .val (.int (own_I M S c)), .val (.int up)] [] := by
    intro n
    induction n with
    | zero => intro h1 ps g c up Z0 A_a hT hc hcp; cases hcp
    | succ n ih =>
      intro h1 ps g c up Z0 A_a hT hc hcp K0
      unfold own_cp at hcp
      refine N.aloadN C (pc' := 19) d2_18 rfl rfl rfl ?_
      refine N.iloadN C (pc' := 20) d2_19 rfl rfl ?_
      refine N.iaload C (pc' := 21) (i := (own_F M S c)) (v := (.int (own_I M S (g.getD c 0)))) d2_20 A_a own_It (own_Trget hT hc) rfl ?_
      refine N.iloadN C (pc' := 22) d2_21 rfl rfl ?_
      refine N.icmp C (pt := 40) (pf := 25) d2_22 rfl rfl (fun (hc22 : (own_I M S (g.getD c 0)) = (own_I M S r)) => ?_) (fun (hc22 : ¬ (own_I M S (g.getD c 0)) = (own_I M S r)) => ?_)
      · have hi22 : (own_I M S (g.getD c 0)).toInt = (own_I M S r).toInt := eqI hc22
        have e1 := own_Iinj hM hM1 hS (hT.2.2.1 c hc) hr hc22
        rw [if_pos e1] at hcp
        cases hcp
        refine N.iloadN C (pc' := 41) d2_40 rfl rfl ?_
        exact N.retI C d2_41 (by decide) (by decide) (by subst hQ; exact ⟨ps, rfl, K0, A_a, hT⟩)
      · have hi22 : ¬ (own_I M S (g.getD c 0)).toInt = (own_I M S r).toInt := neI hc22
        refine N.aloadN C (pc' := 26) d2_25 rfl rfl rfl ?_
        refine N.iloadN C (pc' := 27) d2_26 rfl rfl ?_
        refine N.iaload C (pc' := 28) (i := (own_F M S c)) (v := (.int (own_I M S (g.getD c 0)))) d2_27 A_a own_It (own_Trget hT hc) rfl ?_
        refine N.istore C (pc' := 30) (ls' := #[.val (.ref a), .val (.int (own_I M S k)), .val (.int (own_I M S r)), .val (.int (own_I M S c)), .val (.int (own_I M S (g.getD c 0)))]) d2_28 rfl rfl ?_
        refine N.aloadN C (pc' := 31) d2_30 rfl rfl rfl ?_
        refine N.iloadN C (pc' := 32) d2_31 rfl rfl ?_
        refine N.iloadN C (pc' := 33) d2_32 rfl rfl ?_
        refine N.iastore C (pc' := 34) (i := (own_F M S c)) d2_33 A_a own_It (by rw [List.length_map, hT.1]; exact own_F5 M S c) g_a rfl (fun h33_1 W33 A_a => ?_)
        have Z0 : G.n0 ≤ _ := (Wr.size W33).symm ▸ Z0
        have K0 := K0.wr W33 (Or.inl (List.mem_of_getElem? (i := 0) rfl))
        have A_a : Av G.Z h33_1 a .int ((ps.set (own_F M S c) (own_I M S r)).map .int) := by rw [List.map_set]; exact A_a
        refine N.iload C (pc' := 36) d2_34 rfl rfl ?_
        refine N.istoreN C (pc' := 37) (ls' := #[.val (.ref a), .val (.int (own_I M S k)), .val (.int (own_I M S r)), .val (.int (own_I M S (g.getD c 0))), .val (.int (own_I M S (g.getD c 0)))]) d2_36 rfl rfl ?_
        refine N.goto C (pc' := 18) d2_37 rfl ?_
        have e2 : ¬ g.getD c 0 = r := fun q => hc22 (by rw [q])
        rw [if_neg e2] at hcp
        exact ih _ _ _ _ _ Z0 A_a (own_Tr_set hM hM1 hS hT hc hr) (hT.2.2.1 c hc) hcp (K0)
  have loop3 : ∀ (n : Nat) (h1 : Heap) (ps : List Int32) (g : List Nat) (c : Nat), G.n0 ≤ h1.size → Av G.Z h1 a .int (ps.map .int) → own_Tr M S ps g → c < 5 → own_cp n g r c = some g' → Keep h h1 [a] → N G K rm2 Q h1 0 0 18 #[.val (.ref a), .val (.int (own_I M S k)), .val (.int (own_I M S r)), .val (.int (own_I M S c)), .unset] [] := by
    intro n h1 ps g c
    cases n with
    | zero => intro Z0 A_a hT hc hcp; cases hcp
    | succ n =>
      intro Z0 A_a hT hc hcp K0
      unfold own_cp at hcp
      refine N.aloadN C (pc' := 19) d2_18 rfl rfl rfl ?_
      refine N.iloadN C (pc' := 20) d2_19 rfl rfl ?_
      refine N.iaload C (pc' := 21) (i := (own_F M S c)) (v := (.int (own_I M S (g.getD c 0)))) d2_20 A_a own_It (own_Trget hT hc) rfl ?_
      refine N.iloadN C (pc' := 22) d2_21 rfl rfl ?_
      refine N.icmp C (pt := 40) (pf := 25) d2_22 rfl rfl (fun (hc22 : (own_I M S (g.getD c 0)) = (own_I M S r)) => ?_) (fun (hc22 : ¬ (own_I M S (g.getD c 0)) = (own_I M S r)) => ?_)
      · have hi22 : (own_I M S (g.getD c 0)).toInt = (own_I M S r).toInt := eqI hc22
        have e1 := own_Iinj hM hM1 hS (hT.2.2.1 c hc) hr hc22
        rw [if_pos e1] at hcp
        cases hcp
        refine N.iloadN C (pc' := 41) d2_40 rfl rfl ?_
        exact N.retI C d2_41 (by decide) (by decide) (by subst hQ; exact ⟨ps, rfl, K0, A_a, hT⟩)
      · have hi22 : ¬ (own_I M S (g.getD c 0)).toInt = (own_I M S r).toInt := neI hc22
        refine N.aloadN C (pc' := 26) d2_25 rfl rfl rfl ?_
        refine N.iloadN C (pc' := 27) d2_26 rfl rfl ?_
        refine N.iaload C (pc' := 28) (i := (own_F M S c)) (v := (.int (own_I M S (g.getD c 0)))) d2_27 A_a own_It (own_Trget hT hc) rfl ?_
        refine N.istore C (pc' := 30) (ls' := #[.val (.ref a), .val (.int (own_I M S k)), .val (.int (own_I M S r)), .val (.int (own_I M S c)), .val (.int (own_I M S (g.getD c 0)))]) d2_28 rfl rfl ?_
        refine N.aloadN C (pc' := 31) d2_30 rfl rfl rfl ?_
        refine N.iloadN C (pc' := 32) d2_31 rfl rfl ?_
        refine N.iloadN C (pc' := 33) d2_32 rfl rfl ?_
        refine N.iastore C (pc' := 34) (i := (own_F M S c)) d2_33 A_a own_It (by rw [List.length_map, hT.1]; exact own_F5 M S c) g_a rfl (fun h33_1 W33 A_a => ?_)
        have Z0 : G.n0 ≤ _ := (Wr.size W33).symm ▸ Z0
        have K0 := K0.wr W33 (Or.inl (List.mem_of_getElem? (i := 0) rfl))
        have A_a : Av G.Z h33_1 a .int ((ps.set (own_F M S c) (own_I M S r)).map .int) := by rw [List.map_set]; exact A_a
        refine N.iload C (pc' := 36) d2_34 rfl rfl ?_
        refine N.istoreN C (pc' := 37) (ls' := #[.val (.ref a), .val (.int (own_I M S k)), .val (.int (own_I M S r)), .val (.int (own_I M S (g.getD c 0))), .val (.int (own_I M S (g.getD c 0)))]) d2_36 rfl rfl ?_
        refine N.goto C (pc' := 18) d2_37 rfl ?_
        have e2 : ¬ g.getD c 0 = r := fun q => hc22 (by rw [q])
        rw [if_neg e2] at hcp
        exact loop2 n _ _ _ _ _ Z0 A_a (own_Tr_set hM hM1 hS hT hc hr) (hT.2.2.1 c hc) hcp (K0)
  refine loop1 6 k hk hup ?_
  show N G K rm2 Q h 0 0 16 #[.val (.ref a), .val (.int (own_I M S k)), .val (.int (own_I M S r)), .unset, .unset] []
  refine N.iloadN C (pc' := 17) d2_16 rfl rfl ?_
  refine N.istoreN C (pc' := 18) (ls' := #[.val (.ref a), .val (.int (own_I M S k)), .val (.int (own_I M S r)), .val (.int (own_I M S k)), .unset]) d2_17 rfl rfl ?_
  exact loop3 6 _ _ _ _ Z0 A_a hT hk hcp K0
set_option maxRecDepth 65536 in
set_option maxHeartbeats 40000000 in
theorem con3 (G : Gx) (hw : ∀ d ∈ tables_1, d.before G.a0 G.Z = true) (p q : Addr) (i a0 a1 a2 a3 r m s pv qv : Int32) (ni nf : Nat) (vp vq : List Value) (h : Heap) (A_p : Av G.Z h p .int vp) (A_q : Av G.Z h q .int vq) (hi : i.toInt = (ni : Nat)) (hq : vq[ni]? = some (.int qv)) (hf : (own_f i m s).toInt = (nf : Nat)) (hp : vp[nf]? = some (.int pv)) (hyes : (i = a0 ∨ i = a1 ∨ i = a2 ∨ i = a3) → ¬ i = r → pv = own_f r m s) (hno : ¬ ((i = a0 ∨ i = a1 ∨ i = a2 ∨ i = a3) ∧ ¬ i = r) → pv = own_f qv m s) :
    Con G (⟨"com/example/pair_to_plane/pairtoplane/IntArraysRootOfPinLaw", "check", "([I[IIIIIIIII)Z"⟩ : MethodName) method_3_code 12 (some .boolean) rm3 #[(.ref p), (.ref q), (.int i), (.int a0), (.int a1), (.int a2), (.int a3), (.int r), (.int m), (.int s)] h (fun v h' => v = some (.int 1) ∧ h = h') := by
  refine Con.of (W := tables_1) (plainFor_of_name pn3) hw (fun mm => ef3 mm p q i a0 a1 a2 a3 r m s) (fun K C => ?_)
  have C : Cx G K "com/example/pair_to_plane/pairtoplane/IntArraysRootOfPinLaw" "check" method_3_code 12 (some .boolean) tables_1 := C
  generalize hQ : (fun v h' => v = some (.int 1) ∧ h = h' : Option Value → Heap → Prop) = Q
  refine N.iloadN C (pc' := 1) d3_0 rfl rfl ?_
  refine N.iloadN C (pc' := 2) d3_1 rfl rfl ?_
  refine N.icmp C (pt := 23) (pf := 5) d3_2 rfl rfl (fun (hc2 : i = a0) => ?_) (fun (hc2 : ¬ i = a0) => ?_)
  · have hi2 : i.toInt = a0.toInt := eqI hc2
    refine N.iloadN C (pc' := 24) d3_23 rfl rfl ?_
    refine N.iload C (pc' := 26) d3_24 rfl rfl ?_
    refine N.icmp C (pt := 33) (pf := 29) d3_26 rfl rfl (fun (hc26 : i = r) => ?_) (fun (hc26 : ¬ i = r) => ?_)
    · have hi26 : i.toInt = r.toInt := eqI hc26
      refine N.iconst C (pc' := 34) (z := 0) d3_33 rfl rfl ?_
      refine N.istore C (pc' := 36) (ls' := #[.val (.ref p), .val (.ref q), .val (.int i), .val (.int a0), .val (.int a1), .val (.int a2), .val (.int a3), .val (.int r), .val (.int m), .val (.int s), .val (.int (0 : Int32)), .unset]) d3_34 rfl rfl ?_
      refine N.iload C (pc' := 38) d3_36 rfl rfl ?_
      refine N.ifc C (pt := 53) (pf := 41) d3_38 rfl rfl (fun _ => ?_) (fun (q : ¬ (0 : Int32) = (0 : Int32)) => absurd q (by decide))
      refine N.aloadN C (pc' := 54) d3_53 rfl rfl rfl ?_
      refine N.iloadN C (pc' := 55) d3_54 rfl rfl ?_
      refine N.iaload C (pc' := 56) (i := ni) (v := (.int qv)) d3_55 A_q hi hq rfl ?_
      refine N.iload C (pc' := 58) d3_56 rfl rfl ?_
      refine N.iload C (pc' := 60) d3_58 rfl rfl ?_
      refine N.callS C (pc' := 63) [(.int qv), (.int m), (.int s)] d3_60 (C.w (i := 2) rfl) (C.w (i := 3) rfl) (C.w (i := 4) rfl) (C.w (i := 5) rfl) (by decide) (con1 G hw qv m s h) (lenOf pd__III_I rfl) rfl (by decide) (show 0 + (3 + 11) + _ ≤ _ from by decide) (by decide) (by decide) (rest := []) rfl rfl ?_
      rintro _ h60_1 ⟨rfl, rfl⟩
      show N G K rm3 Q h 0 0 63 #[.val (.ref p), .val (.ref q), .val (.int i), .val (.int a0), .val (.int a1), .val (.int a2), .val (.int a3), .val (.int r), .val (.int m), .val (.int s), .val (.int (0 : Int32)), .unset] [(.int (own_f qv m s))]
      refine N.istore C (pc' := 65) (ls' := #[.val (.ref p), .val (.ref q), .val (.int i), .val (.int a0), .val (.int a1), .val (.int a2), .val (.int a3), .val (.int r), .val (.int m), .val (.int s), .val (.int (0 : Int32)), .val (.int (own_f qv m s))]) d3_63 rfl rfl ?_
      refine N.aloadN C (pc' := 66) d3_65 rfl rfl rfl ?_
      refine N.iloadN C (pc' := 67) d3_66 rfl rfl ?_
      refine N.iload C (pc' := 69) d3_67 rfl rfl ?_
      refine N.iload C (pc' := 71) d3_69 rfl rfl ?_
      refine N.callS C (pc' := 74) [(.int i), (.int m), (.int s)] d3_71 (C.w (i := 2) rfl) (C.w (i := 3) rfl) (C.w (i := 4) rfl) (C.w (i := 5) rfl) (by decide) (con1 G hw i m s h) (lenOf pd__III_I rfl) rfl (by decide) (show 1 + (3 + 11) + _ ≤ _ from by decide) (by decide) (by decide) (rest := [(.ref p)]) rfl rfl ?_
      rintro _ h71_2 ⟨rfl, rfl⟩
      show N G K rm3 Q h 0 0 74 #[.val (.ref p), .val (.ref q), .val (.int i), .val (.int a0), .val (.int a1), .val (.int a2), .val (.int a3), .val (.int r), .val (.int m), .val (.int s), .val (.int (0 : Int32)), .val (.int (own_f qv m s))] [(.int (own_f i m s)), (.ref p)]
      refine N.iaload C (pc' := 75) (i := nf) (v := (.int pv)) d3_74 A_p hf hp rfl ?_
      refine N.iload C (pc' := 77) d3_75 rfl rfl ?_
      refine N.icmp C (pt := 84) (pf := 80) d3_77 rfl rfl (fun (hc77 : ¬ pv = (own_f qv m s)) => absurd (show False from by exact hc77 (hno (fun z => z.2 hc26))) id) (fun (hc77 : pv = (own_f qv m s)) => ?_)
      refine N.iconst C (pc' := 81) (z := 1) d3_80 rfl rfl ?_
      refine N.goto C (pc' := 85) d3_81 rfl ?_
      exact N.retN C (by simp) (z' := (1 : Int32)) rfl d3_85 (by decide) (by decide) (by subst hQ; exact ⟨rfl, rfl⟩)
    · have hi26 : ¬ i.toInt = r.toInt := neI hc26
      refine N.iconst C (pc' := 30) (z := 1) d3_29 rfl rfl ?_
      refine N.goto C (pc' := 34) d3_30 rfl ?_
      refine N.istore C (pc' := 36) (ls' := #[.val (.ref p), .val (.ref q), .val (.int i), .val (.int a0), .val (.int a1), .val (.int a2), .val (.int a3), .val (.int r), .val (.int m), .val (.int s), .val (.int (1 : Int32)), .unset]) d3_34 rfl rfl ?_
      refine N.iload C (pc' := 38) d3_36 rfl rfl ?_
      refine N.ifc C (pt := 53) (pf := 41) d3_38 rfl rfl (fun (q : (1 : Int32) = (0 : Int32)) => absurd q (by decide)) (fun _ => ?_)
      refine N.iload C (pc' := 43) d3_41 rfl rfl ?_
      refine N.iload C (pc' := 45) d3_43 rfl rfl ?_
      refine N.iload C (pc' := 47) d3_45 rfl rfl ?_
      refine N.callS C (pc' := 50) [(.int r), (.int m), (.int s)] d3_47 (C.w (i := 2) rfl) (C.w (i := 3) rfl) (C.w (i := 4) rfl) (C.w (i := 5) rfl) (by decide) (con1 G hw r m s h) (lenOf pd__III_I rfl) rfl (by decide) (show 0 + (3 + 11) + _ ≤ _ from by decide) (by decide) (by decide) (rest := []) rfl rfl ?_
      rintro _ h47_3 ⟨rfl, rfl⟩
      show N G K rm3 Q h 0 0 50 #[.val (.ref p), .val (.ref q), .val (.int i), .val (.int a0), .val (.int a1), .val (.int a2), .val (.int a3), .val (.int r), .val (.int m), .val (.int s), .val (.int (1 : Int32)), .unset] [(.int (own_f r m s))]
      refine N.goto C (pc' := 63) d3_50 rfl ?_
      refine N.istore C (pc' := 65) (ls' := #[.val (.ref p), .val (.ref q), .val (.int i), .val (.int a0), .val (.int a1), .val (.int a2), .val (.int a3), .val (.int r), .val (.int m), .val (.int s), .val (.int (1 : Int32)), .val (.int (own_f r m s))]) d3_63 rfl rfl ?_
      refine N.aloadN C (pc' := 66) d3_65 rfl rfl rfl ?_
      refine N.iloadN C (pc' := 67) d3_66 rfl rfl ?_
      refine N.iload C (pc' := 69) d3_67 rfl rfl ?_
      refine N.iload C (pc' := 71) d3_69 rfl rfl ?_
      refine N.callS C (pc' := 74) [(.int i), (.int m), (.int s)] d3_71 (C.w (i := 2) rfl) (C.w (i := 3) rfl) (C.w (i := 4) rfl) (C.w (i := 5) rfl) (by decide) (con1 G hw i m s h) (lenOf pd__III_I rfl) rfl (by decide) (show 1 + (3 + 11) + _ ≤ _ from by decide) (by decide) (by decide) (rest := [(.ref p)]) rfl rfl ?_
      rintro _ h71_4 ⟨rfl, rfl⟩
      show N G K rm3 Q h 0 0 74 #[.val (.ref p), .val (.ref q), .val (.int i), .val (.int a0), .val (.int a1), .val (.int a2), .val (.int a3), .val (.int r), .val (.int m), .val (.int s), .val (.int (1 : Int32)), .val (.int (own_f r m s))] [(.int (own_f i m s)), (.ref p)]
      refine N.iaload C (pc' := 75) (i := nf) (v := (.int pv)) d3_74 A_p hf hp rfl ?_
      refine N.iload C (pc' := 77) d3_75 rfl rfl ?_
      refine N.icmp C (pt := 84) (pf := 80) d3_77 rfl rfl (fun (hc77 : ¬ pv = (own_f r m s)) => absurd (show False from by exact hc77 (hyes (Or.inl hc2) hc26)) id) (fun (hc77 : pv = (own_f r m s)) => ?_)
      refine N.iconst C (pc' := 81) (z := 1) d3_80 rfl rfl ?_
      refine N.goto C (pc' := 85) d3_81 rfl ?_
      exact N.retN C (by simp) (z' := (1 : Int32)) rfl d3_85 (by decide) (by decide) (by subst hQ; exact ⟨rfl, rfl⟩)
  · have hi2 : ¬ i.toInt = a0.toInt := neI hc2
    refine N.iloadN C (pc' := 6) d3_5 rfl rfl ?_
    refine N.iload C (pc' := 8) d3_6 rfl rfl ?_
    refine N.icmp C (pt := 23) (pf := 11) d3_8 rfl rfl (fun (hc8 : i = a1) => ?_) (fun (hc8 : ¬ i = a1) => ?_)
    · have hi8 : i.toInt = a1.toInt := eqI hc8
      refine N.iloadN C (pc' := 24) d3_23 rfl rfl ?_
      refine N.iload C (pc' := 26) d3_24 rfl rfl ?_
      refine N.icmp C (pt := 33) (pf := 29) d3_26 rfl rfl (fun (hc26 : i = r) => ?_) (fun (hc26 : ¬ i = r) => ?_)
      · have hi26 : i.toInt = r.toInt := eqI hc26
        refine N.iconst C (pc' := 34) (z := 0) d3_33 rfl rfl ?_
        refine N.istore C (pc' := 36) (ls' := #[.val (.ref p), .val (.ref q), .val (.int i), .val (.int a0), .val (.int a1), .val (.int a2), .val (.int a3), .val (.int r), .val (.int m), .val (.int s), .val (.int (0 : Int32)), .unset]) d3_34 rfl rfl ?_
        refine N.iload C (pc' := 38) d3_36 rfl rfl ?_
        refine N.ifc C (pt := 53) (pf := 41) d3_38 rfl rfl (fun _ => ?_) (fun (q : ¬ (0 : Int32) = (0 : Int32)) => absurd q (by decide))
        refine N.aloadN C (pc' := 54) d3_53 rfl rfl rfl ?_
        refine N.iloadN C (pc' := 55) d3_54 rfl rfl ?_
        refine N.iaload C (pc' := 56) (i := ni) (v := (.int qv)) d3_55 A_q hi hq rfl ?_
        refine N.iload C (pc' := 58) d3_56 rfl rfl ?_
        refine N.iload C (pc' := 60) d3_58 rfl rfl ?_
        refine N.callS C (pc' := 63) [(.int qv), (.int m), (.int s)] d3_60 (C.w (i := 2) rfl) (C.w (i := 3) rfl) (C.w (i := 4) rfl) (C.w (i := 5) rfl) (by decide) (con1 G hw qv m s h) (lenOf pd__III_I rfl) rfl (by decide) (show 0 + (3 + 11) + _ ≤ _ from by decide) (by decide) (by decide) (rest := []) rfl rfl ?_
        rintro _ h60_5 ⟨rfl, rfl⟩
        show N G K rm3 Q h 0 0 63 #[.val (.ref p), .val (.ref q), .val (.int i), .val (.int a0), .val (.int a1), .val (.int a2), .val (.int a3), .val (.int r), .val (.int m), .val (.int s), .val (.int (0 : Int32)), .unset] [(.int (own_f qv m s))]
        refine N.istore C (pc' := 65) (ls' := #[.val (.ref p), .val (.ref q), .val (.int i), .val (.int a0), .val (.int a1), .val (.int a2), .val (.int a3), .val (.int r), .val (.int m), .val (.int s), .val (.int (0 : Int32)), .val (.int (own_f qv m s))]) d3_63 rfl rfl ?_
        refine N.aloadN C (pc' := 66) d3_65 rfl rfl rfl ?_
        refine N.iloadN C (pc' := 67) d3_66 rfl rfl ?_
        refine N.iload C (pc' := 69) d3_67 rfl rfl ?_
        refine N.iload C (pc' := 71) d3_69 rfl rfl ?_
        refine N.callS C (pc' := 74) [(.int i), (.int m), (.int s)] d3_71 (C.w (i := 2) rfl) (C.w (i := 3) rfl) (C.w (i := 4) rfl) (C.w (i := 5) rfl) (by decide) (con1 G hw i m s h) (lenOf pd__III_I rfl) rfl (by decide) (show 1 + (3 + 11) + _ ≤ _ from by decide) (by decide) (by decide) (rest := [(.ref p)]) rfl rfl ?_
        rintro _ h71_6 ⟨rfl, rfl⟩
        show N G K rm3 Q h 0 0 74 #[.val (.ref p), .val (.ref q), .val (.int i), .val (.int a0), .val (.int a1), .val (.int a2), .val (.int a3), .val (.int r), .val (.int m), .val (.int s), .val (.int (0 : Int32)), .val (.int (own_f qv m s))] [(.int (own_f i m s)), (.ref p)]
        refine N.iaload C (pc' := 75) (i := nf) (v := (.int pv)) d3_74 A_p hf hp rfl ?_
        refine N.iload C (pc' := 77) d3_75 rfl rfl ?_
        refine N.icmp C (pt := 84) (pf := 80) d3_77 rfl rfl (fun (hc77 : ¬ pv = (own_f qv m s)) => absurd (show False from by exact hc77 (hno (fun z => z.2 hc26))) id) (fun (hc77 : pv = (own_f qv m s)) => ?_)
        refine N.iconst C (pc' := 81) (z := 1) d3_80 rfl rfl ?_
        refine N.goto C (pc' := 85) d3_81 rfl ?_
        exact N.retN C (by simp) (z' := (1 : Int32)) rfl d3_85 (by decide) (by decide) (by subst hQ; exact ⟨rfl, rfl⟩)
      · have hi26 : ¬ i.toInt = r.toInt := neI hc26
        refine N.iconst C (pc' := 30) (z := 1) d3_29 rfl rfl ?_
        refine N.goto C (pc' := 34) d3_30 rfl ?_
        refine N.istore C (pc' := 36) (ls' := #[.val (.ref p), .val (.ref q), .val (.int i), .val (.int a0), .val (.int a1), .val (.int a2), .val (.int a3), .val (.int r), .val (.int m), .val (.int s), .val (.int (1 : Int32)), .unset]) d3_34 rfl rfl ?_
        refine N.iload C (pc' := 38) d3_36 rfl rfl ?_
        refine N.ifc C (pt := 53) (pf := 41) d3_38 rfl rfl (fun (q : (1 : Int32) = (0 : Int32)) => absurd q (by decide)) (fun _ => ?_)
        refine N.iload C (pc' := 43) d3_41 rfl rfl ?_
        refine N.iload C (pc' := 45) d3_43 rfl rfl ?_
        refine N.iload C (pc' := 47) d3_45 rfl rfl ?_
        refine N.callS C (pc' := 50) [(.int r), (.int m), (.int s)] d3_47 (C.w (i := 2) rfl) (C.w (i := 3) rfl) (C.w (i := 4) rfl) (C.w (i := 5) rfl) (by decide) (con1 G hw r m s h) (lenOf pd__III_I rfl) rfl (by decide) (show 0 + (3 + 11) + _ ≤ _ from by decide) (by decide) (by decide) (rest := []) rfl rfl ?_
        rintro _ h47_7 ⟨rfl, rfl⟩
        show N G K rm3 Q h 0 0 50 #[.val (.ref p), .val (.ref q), .val (.int i), .val (.int a0), .val (.int a1), .val (.int a2), .val (.int a3), .val (.int r), .val (.int m), .val (.int s), .val (.int (1 : Int32)), .unset] [(.int (own_f r m s))]
        refine N.goto C (pc' := 63) d3_50 rfl ?_
        refine N.istore C (pc' := 65) (ls' := #[.val (.ref p), .val (.ref q), .val (.int i), .val (.int a0), .val (.int a1), .val (.int a2), .val (.int a3), .val (.int r), .val (.int m), .val (.int s), .val (.int (1 : Int32)), .val (.int (own_f r m s))]) d3_63 rfl rfl ?_
        refine N.aloadN C (pc' := 66) d3_65 rfl rfl rfl ?_
        refine N.iloadN C (pc' := 67) d3_66 rfl rfl ?_
        refine N.iload C (pc' := 69) d3_67 rfl rfl ?_
        refine N.iload C (pc' := 71) d3_69 rfl rfl ?_
        refine N.callS C (pc' := 74) [(.int i), (.int m), (.int s)] d3_71 (C.w (i := 2) rfl) (C.w (i := 3) rfl) (C.w (i := 4) rfl) (C.w (i := 5) rfl) (by decide) (con1 G hw i m s h) (lenOf pd__III_I rfl) rfl (by decide) (show 1 + (3 + 11) + _ ≤ _ from by decide) (by decide) (by decide) (rest := [(.ref p)]) rfl rfl ?_
        rintro _ h71_8 ⟨rfl, rfl⟩
        show N G K rm3 Q h 0 0 74 #[.val (.ref p), .val (.ref q), .val (.int i), .val (.int a0), .val (.int a1), .val (.int a2), .val (.int a3), .val (.int r), .val (.int m), .val (.int s), .val (.int (1 : Int32)), .val (.int (own_f r m s))] [(.int (own_f i m s)), (.ref p)]
        refine N.iaload C (pc' := 75) (i := nf) (v := (.int pv)) d3_74 A_p hf hp rfl ?_
        refine N.iload C (pc' := 77) d3_75 rfl rfl ?_
        refine N.icmp C (pt := 84) (pf := 80) d3_77 rfl rfl (fun (hc77 : ¬ pv = (own_f r m s)) => absurd (show False from by exact hc77 (hyes (Or.inr (Or.inl hc8)) hc26)) id) (fun (hc77 : pv = (own_f r m s)) => ?_)
        refine N.iconst C (pc' := 81) (z := 1) d3_80 rfl rfl ?_
        refine N.goto C (pc' := 85) d3_81 rfl ?_
        exact N.retN C (by simp) (z' := (1 : Int32)) rfl d3_85 (by decide) (by decide) (by subst hQ; exact ⟨rfl, rfl⟩)
    · have hi8 : ¬ i.toInt = a1.toInt := neI hc8
      refine N.iloadN C (pc' := 12) d3_11 rfl rfl ?_
      refine N.iload C (pc' := 14) d3_12 rfl rfl ?_
      refine N.icmp C (pt := 23) (pf := 17) d3_14 rfl rfl (fun (hc14 : i = a2) => ?_) (fun (hc14 : ¬ i = a2) => ?_)
      · have hi14 : i.toInt = a2.toInt := eqI hc14
        refine N.iloadN C (pc' := 24) d3_23 rfl rfl ?_
        refine N.iload C (pc' := 26) d3_24 rfl rfl ?_
        refine N.icmp C (pt := 33) (pf := 29) d3_26 rfl rfl (fun (hc26 : i = r) => ?_) (fun (hc26 : ¬ i = r) => ?_)
        · have hi26 : i.toInt = r.toInt := eqI hc26
          refine N.iconst C (pc' := 34) (z := 0) d3_33 rfl rfl ?_
          refine N.istore C (pc' := 36) (ls' := #[.val (.ref p), .val (.ref q), .val (.int i), .val (.int a0), .val (.int a1), .val (.int a2), .val (.int a3), .val (.int r), .val (.int m), .val (.int s), .val (.int (0 : Int32)), .unset]) d3_34 rfl rfl ?_
          refine N.iload C (pc' := 38) d3_36 rfl rfl ?_
          refine N.ifc C (pt := 53) (pf := 41) d3_38 rfl rfl (fun _ => ?_) (fun (q : ¬ (0 : Int32) = (0 : Int32)) => absurd q (by decide))
          refine N.aloadN C (pc' := 54) d3_53 rfl rfl rfl ?_
          refine N.iloadN C (pc' := 55) d3_54 rfl rfl ?_
          refine N.iaload C (pc' := 56) (i := ni) (v := (.int qv)) d3_55 A_q hi hq rfl ?_
          refine N.iload C (pc' := 58) d3_56 rfl rfl ?_
          refine N.iload C (pc' := 60) d3_58 rfl rfl ?_
          refine N.callS C (pc' := 63) [(.int qv), (.int m), (.int s)] d3_60 (C.w (i := 2) rfl) (C.w (i := 3) rfl) (C.w (i := 4) rfl) (C.w (i := 5) rfl) (by decide) (con1 G hw qv m s h) (lenOf pd__III_I rfl) rfl (by decide) (show 0 + (3 + 11) + _ ≤ _ from by decide) (by decide) (by decide) (rest := []) rfl rfl ?_
          rintro _ h60_9 ⟨rfl, rfl⟩
          show N G K rm3 Q h 0 0 63 #[.val (.ref p), .val (.ref q), .val (.int i), .val (.int a0), .val (.int a1), .val (.int a2), .val (.int a3), .val (.int r), .val (.int m), .val (.int s), .val (.int (0 : Int32)), .unset] [(.int (own_f qv m s))]
          refine N.istore C (pc' := 65) (ls' := #[.val (.ref p), .val (.ref q), .val (.int i), .val (.int a0), .val (.int a1), .val (.int a2), .val (.int a3), .val (.int r), .val (.int m), .val (.int s), .val (.int (0 : Int32)), .val (.int (own_f qv m s))]) d3_63 rfl rfl ?_
          refine N.aloadN C (pc' := 66) d3_65 rfl rfl rfl ?_
          refine N.iloadN C (pc' := 67) d3_66 rfl rfl ?_
          refine N.iload C (pc' := 69) d3_67 rfl rfl ?_
          refine N.iload C (pc' := 71) d3_69 rfl rfl ?_
          refine N.callS C (pc' := 74) [(.int i), (.int m), (.int s)] d3_71 (C.w (i := 2) rfl) (C.w (i := 3) rfl) (C.w (i := 4) rfl) (C.w (i := 5) rfl) (by decide) (con1 G hw i m s h) (lenOf pd__III_I rfl) rfl (by decide) (show 1 + (3 + 11) + _ ≤ _ from by decide) (by decide) (by decide) (rest := [(.ref p)]) rfl rfl ?_
          rintro _ h71_10 ⟨rfl, rfl⟩
          show N G K rm3 Q h 0 0 74 #[.val (.ref p), .val (.ref q), .val (.int i), .val (.int a0), .val (.int a1), .val (.int a2), .val (.int a3), .val (.int r), .val (.int m), .val (.int s), .val (.int (0 : Int32)), .val (.int (own_f qv m s))] [(.int (own_f i m s)), (.ref p)]
          refine N.iaload C (pc' := 75) (i := nf) (v := (.int pv)) d3_74 A_p hf hp rfl ?_
          refine N.iload C (pc' := 77) d3_75 rfl rfl ?_
          refine N.icmp C (pt := 84) (pf := 80) d3_77 rfl rfl (fun (hc77 : ¬ pv = (own_f qv m s)) => absurd (show False from by exact hc77 (hno (fun z => z.2 hc26))) id) (fun (hc77 : pv = (own_f qv m s)) => ?_)
          refine N.iconst C (pc' := 81) (z := 1) d3_80 rfl rfl ?_
          refine N.goto C (pc' := 85) d3_81 rfl ?_
          exact N.retN C (by simp) (z' := (1 : Int32)) rfl d3_85 (by decide) (by decide) (by subst hQ; exact ⟨rfl, rfl⟩)
        · have hi26 : ¬ i.toInt = r.toInt := neI hc26
          refine N.iconst C (pc' := 30) (z := 1) d3_29 rfl rfl ?_
          refine N.goto C (pc' := 34) d3_30 rfl ?_
          refine N.istore C (pc' := 36) (ls' := #[.val (.ref p), .val (.ref q), .val (.int i), .val (.int a0), .val (.int a1), .val (.int a2), .val (.int a3), .val (.int r), .val (.int m), .val (.int s), .val (.int (1 : Int32)), .unset]) d3_34 rfl rfl ?_
          refine N.iload C (pc' := 38) d3_36 rfl rfl ?_
          refine N.ifc C (pt := 53) (pf := 41) d3_38 rfl rfl (fun (q : (1 : Int32) = (0 : Int32)) => absurd q (by decide)) (fun _ => ?_)
          refine N.iload C (pc' := 43) d3_41 rfl rfl ?_
          refine N.iload C (pc' := 45) d3_43 rfl rfl ?_
          refine N.iload C (pc' := 47) d3_45 rfl rfl ?_
          refine N.callS C (pc' := 50) [(.int r), (.int m), (.int s)] d3_47 (C.w (i := 2) rfl) (C.w (i := 3) rfl) (C.w (i := 4) rfl) (C.w (i := 5) rfl) (by decide) (con1 G hw r m s h) (lenOf pd__III_I rfl) rfl (by decide) (show 0 + (3 + 11) + _ ≤ _ from by decide) (by decide) (by decide) (rest := []) rfl rfl ?_
          rintro _ h47_11 ⟨rfl, rfl⟩
          show N G K rm3 Q h 0 0 50 #[.val (.ref p), .val (.ref q), .val (.int i), .val (.int a0), .val (.int a1), .val (.int a2), .val (.int a3), .val (.int r), .val (.int m), .val (.int s), .val (.int (1 : Int32)), .unset] [(.int (own_f r m s))]
          refine N.goto C (pc' := 63) d3_50 rfl ?_
          refine N.istore C (pc' := 65) (ls' := #[.val (.ref p), .val (.ref q), .val (.int i), .val (.int a0), .val (.int a1), .val (.int a2), .val (.int a3), .val (.int r), .val (.int m), .val (.int s), .val (.int (1 : Int32)), .val (.int (own_f r m s))]) d3_63 rfl rfl ?_
          refine N.aloadN C (pc' := 66) d3_65 rfl rfl rfl ?_
          refine N.iloadN C (pc' := 67) d3_66 rfl rfl ?_
          refine N.iload C (pc' := 69) d3_67 rfl rfl ?_
          refine N.iload C (pc' := 71) d3_69 rfl rfl ?_
          refine N.callS C (pc' := 74) [(.int i), (.int m), (.int s)] d3_71 (C.w (i := 2) rfl) (C.w (i := 3) rfl) (C.w (i := 4) rfl) (C.w (i := 5) rfl) (by decide) (con1 G hw i m s h) (lenOf pd__III_I rfl) rfl (by decide) (show 1 + (3 + 11) + _ ≤ _ from by decide) (by decide) (by decide) (rest := [(.ref p)]) rfl rfl ?_
          rintro _ h71_12 ⟨rfl, rfl⟩
          show N G K rm3 Q h 0 0 74 #[.val (.ref p), .val (.ref q), .val (.int i), .val (.int a0), .val (.int a1), .val (.int a2), .val (.int a3), .val (.int r), .val (.int m), .val (.int s), .val (.int (1 : Int32)), .val (.int (own_f r m s))] [(.int (own_f i m s)), (.ref p)]
          refine N.iaload C (pc' := 75) (i := nf) (v := (.int pv)) d3_74 A_p hf hp rfl ?_
          refine N.iload C (pc' := 77) d3_75 rfl rfl ?_
          refine N.icmp C (pt := 84) (pf := 80) d3_77 rfl rfl (fun (hc77 : ¬ pv = (own_f r m s)) => absurd (show False from by exact hc77 (hyes (Or.inr (Or.inr (Or.inl hc14))) hc26)) id) (fun (hc77 : pv = (own_f r m s)) => ?_)
          refine N.iconst C (pc' := 81) (z := 1) d3_80 rfl rfl ?_
          refine N.goto C (pc' := 85) d3_81 rfl ?_
          exact N.retN C (by simp) (z' := (1 : Int32)) rfl d3_85 (by decide) (by decide) (by subst hQ; exact ⟨rfl, rfl⟩)
      · have hi14 : ¬ i.toInt = a2.toInt := neI hc14
        refine N.iloadN C (pc' := 18) d3_17 rfl rfl ?_
        refine N.iload C (pc' := 20) d3_18 rfl rfl ?_
        refine N.icmp C (pt := 33) (pf := 23) d3_20 rfl rfl (fun (hc20 : ¬ i = a3) => ?_) (fun (hc20 : i = a3) => ?_)
        · have hi20 : ¬ i.toInt = a3.toInt := neI hc20
          refine N.iconst C (pc' := 34) (z := 0) d3_33 rfl rfl ?_
          refine N.istore C (pc' := 36) (ls' := #[.val (.ref p), .val (.ref q), .val (.int i), .val (.int a0), .val (.int a1), .val (.int a2), .val (.int a3), .val (.int r), .val (.int m), .val (.int s), .val (.int (0 : Int32)), .unset]) d3_34 rfl rfl ?_
          refine N.iload C (pc' := 38) d3_36 rfl rfl ?_
          refine N.ifc C (pt := 53) (pf := 41) d3_38 rfl rfl (fun _ => ?_) (fun (q : ¬ (0 : Int32) = (0 : Int32)) => absurd q (by decide))
          refine N.aloadN C (pc' := 54) d3_53 rfl rfl rfl ?_
          refine N.iloadN C (pc' := 55) d3_54 rfl rfl ?_
          refine N.iaload C (pc' := 56) (i := ni) (v := (.int qv)) d3_55 A_q hi hq rfl ?_
          refine N.iload C (pc' := 58) d3_56 rfl rfl ?_
          refine N.iload C (pc' := 60) d3_58 rfl rfl ?_
          refine N.callS C (pc' := 63) [(.int qv), (.int m), (.int s)] d3_60 (C.w (i := 2) rfl) (C.w (i := 3) rfl) (C.w (i := 4) rfl) (C.w (i := 5) rfl) (by decide) (con1 G hw qv m s h) (lenOf pd__III_I rfl) rfl (by decide) (show 0 + (3 + 11) + _ ≤ _ from by decide) (by decide) (by decide) (rest := []) rfl rfl ?_
          rintro _ h60_13 ⟨rfl, rfl⟩
          show N G K rm3 Q h 0 0 63 #[.val (.ref p), .val (.ref q), .val (.int i), .val (.int a0), .val (.int a1), .val (.int a2), .val (.int a3), .val (.int r), .val (.int m), .val (.int s), .val (.int (0 : Int32)), .unset] [(.int (own_f qv m s))]
          refine N.istore C (pc' := 65) (ls' := #[.val (.ref p), .val (.ref q), .val (.int i), .val (.int a0), .val (.int a1), .val (.int a2), .val (.int a3), .val (.int r), .val (.int m), .val (.int s), .val (.int (0 : Int32)), .val (.int (own_f qv m s))]) d3_63 rfl rfl ?_
          refine N.aloadN C (pc' := 66) d3_65 rfl rfl rfl ?_
          refine N.iloadN C (pc' := 67) d3_66 rfl rfl ?_
          refine N.iload C (pc' := 69) d3_67 rfl rfl ?_
          refine N.iload C (pc' := 71) d3_69 rfl rfl ?_
          refine N.callS C (pc' := 74) [(.int i), (.int m), (.int s)] d3_71 (C.w (i := 2) rfl) (C.w (i := 3) rfl) (C.w (i := 4) rfl) (C.w (i := 5) rfl) (by decide) (con1 G hw i m s h) (lenOf pd__III_I rfl) rfl (by decide) (show 1 + (3 + 11) + _ ≤ _ from by decide) (by decide) (by decide) (rest := [(.ref p)]) rfl rfl ?_
          rintro _ h71_14 ⟨rfl, rfl⟩
          show N G K rm3 Q h 0 0 74 #[.val (.ref p), .val (.ref q), .val (.int i), .val (.int a0), .val (.int a1), .val (.int a2), .val (.int a3), .val (.int r), .val (.int m), .val (.int s), .val (.int (0 : Int32)), .val (.int (own_f qv m s))] [(.int (own_f i m s)), (.ref p)]
          refine N.iaload C (pc' := 75) (i := nf) (v := (.int pv)) d3_74 A_p hf hp rfl ?_
          refine N.iload C (pc' := 77) d3_75 rfl rfl ?_
          refine N.icmp C (pt := 84) (pf := 80) d3_77 rfl rfl (fun (hc77 : ¬ pv = (own_f qv m s)) => absurd (show False from by exact hc77 (hno (fun z => z.1.elim hc2 (fun z => z.elim hc8 (fun z => z.elim hc14 hc20))))) id) (fun (hc77 : pv = (own_f qv m s)) => ?_)
          refine N.iconst C (pc' := 81) (z := 1) d3_80 rfl rfl ?_
          refine N.goto C (pc' := 85) d3_81 rfl ?_
          exact N.retN C (by simp) (z' := (1 : Int32)) rfl d3_85 (by decide) (by decide) (by subst hQ; exact ⟨rfl, rfl⟩)
        · have hi20 : i.toInt = a3.toInt := eqI hc20
          refine N.iloadN C (pc' := 24) d3_23 rfl rfl ?_
          refine N.iload C (pc' := 26) d3_24 rfl rfl ?_
          refine N.icmp C (pt := 33) (pf := 29) d3_26 rfl rfl (fun (hc26 : i = r) => ?_) (fun (hc26 : ¬ i = r) => ?_)
          · have hi26 : i.toInt = r.toInt := eqI hc26
            refine N.iconst C (pc' := 34) (z := 0) d3_33 rfl rfl ?_
            refine N.istore C (pc' := 36) (ls' := #[.val (.ref p), .val (.ref q), .val (.int i), .val (.int a0), .val (.int a1), .val (.int a2), .val (.int a3), .val (.int r), .val (.int m), .val (.int s), .val (.int (0 : Int32)), .unset]) d3_34 rfl rfl ?_
            refine N.iload C (pc' := 38) d3_36 rfl rfl ?_
            refine N.ifc C (pt := 53) (pf := 41) d3_38 rfl rfl (fun _ => ?_) (fun (q : ¬ (0 : Int32) = (0 : Int32)) => absurd q (by decide))
            refine N.aloadN C (pc' := 54) d3_53 rfl rfl rfl ?_
            refine N.iloadN C (pc' := 55) d3_54 rfl rfl ?_
            refine N.iaload C (pc' := 56) (i := ni) (v := (.int qv)) d3_55 A_q hi hq rfl ?_
            refine N.iload C (pc' := 58) d3_56 rfl rfl ?_
            refine N.iload C (pc' := 60) d3_58 rfl rfl ?_
            refine N.callS C (pc' := 63) [(.int qv), (.int m), (.int s)] d3_60 (C.w (i := 2) rfl) (C.w (i := 3) rfl) (C.w (i := 4) rfl) (C.w (i := 5) rfl) (by decide) (con1 G hw qv m s h) (lenOf pd__III_I rfl) rfl (by decide) (show 0 + (3 + 11) + _ ≤ _ from by decide) (by decide) (by decide) (rest := []) rfl rfl ?_
            rintro _ h60_15 ⟨rfl, rfl⟩
            show N G K rm3 Q h 0 0 63 #[.val (.ref p), .val (.ref q), .val (.int i), .val (.int a0), .val (.int a1), .val (.int a2), .val (.int a3), .val (.int r), .val (.int m), .val (.int s), .val (.int (0 : Int32)), .unset] [(.int (own_f qv m s))]
            refine N.istore C (pc' := 65) (ls' := #[.val (.ref p), .val (.ref q), .val (.int i), .val (.int a0), .val (.int a1), .val (.int a2), .val (.int a3), .val (.int r), .val (.int m), .val (.int s), .val (.int (0 : Int32)), .val (.int (own_f qv m s))]) d3_63 rfl rfl ?_
            refine N.aloadN C (pc' := 66) d3_65 rfl rfl rfl ?_
            refine N.iloadN C (pc' := 67) d3_66 rfl rfl ?_
            refine N.iload C (pc' := 69) d3_67 rfl rfl ?_
            refine N.iload C (pc' := 71) d3_69 rfl rfl ?_
            refine N.callS C (pc' := 74) [(.int i), (.int m), (.int s)] d3_71 (C.w (i := 2) rfl) (C.w (i := 3) rfl) (C.w (i := 4) rfl) (C.w (i := 5) rfl) (by decide) (con1 G hw i m s h) (lenOf pd__III_I rfl) rfl (by decide) (show 1 + (3 + 11) + _ ≤ _ from by decide) (by decide) (by decide) (rest := [(.ref p)]) rfl rfl ?_
            rintro _ h71_16 ⟨rfl, rfl⟩
            show N G K rm3 Q h 0 0 74 #[.val (.ref p), .val (.ref q), .val (.int i), .val (.int a0), .val (.int a1), .val (.int a2), .val (.int a3), .val (.int r), .val (.int m), .val (.int s), .val (.int (0 : Int32)), .val (.int (own_f qv m s))] [(.int (own_f i m s)), (.ref p)]
            refine N.iaload C (pc' := 75) (i := nf) (v := (.int pv)) d3_74 A_p hf hp rfl ?_
            refine N.iload C (pc' := 77) d3_75 rfl rfl ?_
            refine N.icmp C (pt := 84) (pf := 80) d3_77 rfl rfl (fun (hc77 : ¬ pv = (own_f qv m s)) => absurd (show False from by exact hc77 (hno (fun z => z.2 hc26))) id) (fun (hc77 : pv = (own_f qv m s)) => ?_)
            refine N.iconst C (pc' := 81) (z := 1) d3_80 rfl rfl ?_
            refine N.goto C (pc' := 85) d3_81 rfl ?_
            exact N.retN C (by simp) (z' := (1 : Int32)) rfl d3_85 (by decide) (by decide) (by subst hQ; exact ⟨rfl, rfl⟩)
          · have hi26 : ¬ i.toInt = r.toInt := neI hc26
            refine N.iconst C (pc' := 30) (z := 1) d3_29 rfl rfl ?_
            refine N.goto C (pc' := 34) d3_30 rfl ?_
            refine N.istore C (pc' := 36) (ls' := #[.val (.ref p), .val (.ref q), .val (.int i), .val (.int a0), .val (.int a1), .val (.int a2), .val (.int a3), .val (.int r), .val (.int m), .val (.int s), .val (.int (1 : Int32)), .unset]) d3_34 rfl rfl ?_
            refine N.iload C (pc' := 38) d3_36 rfl rfl ?_
            refine N.ifc C (pt := 53) (pf := 41) d3_38 rfl rfl (fun (q : (1 : Int32) = (0 : Int32)) => absurd q (by decide)) (fun _ => ?_)
            refine N.iload C (pc' := 43) d3_41 rfl rfl ?_
            refine N.iload C (pc' := 45) d3_43 rfl rfl ?_
            refine N.iload C (pc' := 47) d3_45 rfl rfl ?_
            refine N.callS C (pc' := 50) [(.int r), (.int m), (.int s)] d3_47 (C.w (i := 2) rfl) (C.w (i := 3) rfl) (C.w (i := 4) rfl) (C.w (i := 5) rfl) (by decide) (con1 G hw r m s h) (lenOf pd__III_I rfl) rfl (by decide) (show 0 + (3 + 11) + _ ≤ _ from by decide) (by decide) (by decide) (rest := []) rfl rfl ?_
            rintro _ h47_17 ⟨rfl, rfl⟩
            show N G K rm3 Q h 0 0 50 #[.val (.ref p), .val (.ref q), .val (.int i), .val (.int a0), .val (.int a1), .val (.int a2), .val (.int a3), .val (.int r), .val (.int m), .val (.int s), .val (.int (1 : Int32)), .unset] [(.int (own_f r m s))]
            refine N.goto C (pc' := 63) d3_50 rfl ?_
            refine N.istore C (pc' := 65) (ls' := #[.val (.ref p), .val (.ref q), .val (.int i), .val (.int a0), .val (.int a1), .val (.int a2), .val (.int a3), .val (.int r), .val (.int m), .val (.int s), .val (.int (1 : Int32)), .val (.int (own_f r m s))]) d3_63 rfl rfl ?_
            refine N.aloadN C (pc' := 66) d3_65 rfl rfl rfl ?_
            refine N.iloadN C (pc' := 67) d3_66 rfl rfl ?_
            refine N.iload C (pc' := 69) d3_67 rfl rfl ?_
            refine N.iload C (pc' := 71) d3_69 rfl rfl ?_
            refine N.callS C (pc' := 74) [(.int i), (.int m), (.int s)] d3_71 (C.w (i := 2) rfl) (C.w (i := 3) rfl) (C.w (i := 4) rfl) (C.w (i := 5) rfl) (by decide) (con1 G hw i m s h) (lenOf pd__III_I rfl) rfl (by decide) (show 1 + (3 + 11) + _ ≤ _ from by decide) (by decide) (by decide) (rest := [(.ref p)]) rfl rfl ?_
            rintro _ h71_18 ⟨rfl, rfl⟩
            show N G K rm3 Q h 0 0 74 #[.val (.ref p), .val (.ref q), .val (.int i), .val (.int a0), .val (.int a1), .val (.int a2), .val (.int a3), .val (.int r), .val (.int m), .val (.int s), .val (.int (1 : Int32)), .val (.int (own_f r m s))] [(.int (own_f i m s)), (.ref p)]
            refine N.iaload C (pc' := 75) (i := nf) (v := (.int pv)) d3_74 A_p hf hp rfl ?_
            refine N.iload C (pc' := 77) d3_75 rfl rfl ?_
            refine N.icmp C (pt := 84) (pf := 80) d3_77 rfl rfl (fun (hc77 : ¬ pv = (own_f r m s)) => absurd (show False from by exact hc77 (hyes (Or.inr (Or.inr (Or.inr hc20))) hc26)) id) (fun (hc77 : pv = (own_f r m s)) => ?_)
            refine N.iconst C (pc' := 81) (z := 1) d3_80 rfl rfl ?_
            refine N.goto C (pc' := 85) d3_81 rfl ?_
            exact N.retN C (by simp) (z' := (1 : Int32)) rfl d3_85 (by decide) (by decide) (by subst hQ; exact ⟨rfl, rfl⟩)
set_option maxRecDepth 65536 in
set_option maxHeartbeats 40000000 in
theorem con0 (G : Gx) (hw : ∀ d ∈ tables_1, d.before G.a0 G.Z = true) (tree node mult shift : Int32) (h : Heap) (Z0 : G.n0 ≤ h.size) :
    Con G x code maxLocals ret room_1 #[(.int tree), (.int node), (.int mult), (.int shift)] h (fun v _ => v = some (.int 1)) := by
  refine Con.of (W := tables_1) (plainFor_of_name pn0) hw (fun mm => ef0 mm tree node mult shift) (fun K C => ?_)
  have C : Cx G K "com/example/pair_to_plane/pairtoplane/IntArraysRootOfPinLaw" "law" code maxLocals ret tables_1 := C
  generalize hQ : (fun v _ => v = some (.int 1) : Option Value → Heap → Prop) = Q
  refine N.iloadN C (pc' := 1) at_0 rfl rfl ?_
  refine N.ldcI C (pc' := 3) (v := 2147483647) at_1 (C.w (i := 0) rfl) rfl ?_
  refine N.iand C (pc' := 4) at_3 rfl ?_
  refine N.bipush C (pc' := 6) (z := 120) at_4 rfl rfl ?_
  refine N.irem C (pc' := 7) at_6 (by decide) rfl ?_
  have ht := own_t120 tree
  generalize hd_t : ((tree &&& (2147483647 : Int32)) % (120 : Int32)) = t at *
  refine N.istore C (pc' := 9) (ls' := #[.val (.int tree), .val (.int node), .val (.int mult), .val (.int shift), .val (.int t), .unset, .unset, .unset, .unset, .unset, .unset, .unset, .unset, .unset, .unset, .unset, .unset]) at_7 rfl rfl ?_
  refine N.iconst C (pc' := 10) (z := 5) at_9 rfl rfl ?_
  refine N.newP C (pc' := 12) (n := (5 : Int32)) 5 at_10 (C.w (i := 1) rfl) (by decide) (by decide) (by decide) (by decide) (by decide) rfl (fun h10_1 q hx_q Ex10 A'_q => ?_)
  have g_q : G.n0 ≤ q := by rw [hx_q]; exact Z0
  have Z0 := Nat.le_trans Z0 Ex10.1
  have A_q : Av G.Z h10_1 q .int [(.int (0 : Int32)), (.int (0 : Int32)), (.int (0 : Int32)), (.int (0 : Int32)), (.int (0 : Int32))] := A'_q
  refine N.astore C (pc' := 14) (ls' := #[.val (.int tree), .val (.int node), .val (.int mult), .val (.int shift), .val (.int t), .val (.ref q), .unset, .unset, .unset, .unset, .unset, .unset, .unset, .unset, .unset, .unset, .unset]) at_12 rfl rfl rfl ?_
  refine N.aload C (pc' := 16) at_14 rfl rfl rfl ?_
  refine N.iconst C (pc' := 17) (z := 0) at_16 rfl rfl ?_
  refine N.iconst C (pc' := 18) (z := 0) at_17 rfl rfl ?_
  refine N.iastore C (pc' := 19) (i := 0) at_18 A_q rfl (show 0 < 5 from by decide) g_q rfl (fun h18_2 W18 A_q => ?_)
  have Z0 : G.n0 ≤ _ := (Wr.size W18).symm ▸ Z0
  have A_q : Av G.Z h18_2 q .int [(.int (0 : Int32)), (.int (0 : Int32)), (.int (0 : Int32)), (.int (0 : Int32)), (.int (0 : Int32))] := A_q
  refine N.aload C (pc' := 21) at_19 rfl rfl rfl ?_
  refine N.iconst C (pc' := 22) (z := 1) at_21 rfl rfl ?_
  refine N.iload C (pc' := 24) at_22 rfl rfl ?_
  refine N.iconst C (pc' := 25) (z := 2) at_24 rfl rfl ?_
  refine N.irem C (pc' := 26) at_25 (by decide) rfl ?_
  obtain ⟨q1, hq1, eq1⟩ := own_q1 (t := t) ht.1
  rw [eq1]
  refine N.iastore C (pc' := 27) (i := 1) at_26 A_q rfl (show 1 < 5 from by decide) g_q rfl (fun h26_3 W26 A_q => ?_)
  have Z0 : G.n0 ≤ _ := (Wr.size W26).symm ▸ Z0
  have A_q : Av G.Z h26_3 q .int [(.int (0 : Int32)), (.int (Int32.ofNat q1)), (.int (0 : Int32)), (.int (0 : Int32)), (.int (0 : Int32))] := A_q
  refine N.aload C (pc' := 29) at_27 rfl rfl rfl ?_
  refine N.iconst C (pc' := 30) (z := 2) at_29 rfl rfl ?_
  refine N.iload C (pc' := 32) at_30 rfl rfl ?_
  refine N.iconst C (pc' := 33) (z := 2) at_32 rfl rfl ?_
  refine N.idiv C (pc' := 34) at_33 (by decide) rfl ?_
  refine N.iconst C (pc' := 35) (z := 3) at_34 rfl rfl ?_
  refine N.irem C (pc' := 36) at_35 (by decide) rfl ?_
  obtain ⟨q2, hq2, eq2⟩ := own_qd (t := t) (d := 2) (e := 3) (D := 2) (E := 3) ht.1 (by decide) (by decide) (by decide) (by decide) (by decide)
  rw [eq2]
  refine N.iastore C (pc' := 37) (i := 2) at_36 A_q rfl (show 2 < 5 from by decide) g_q rfl (fun h36_4 W36 A_q => ?_)
  have Z0 : G.n0 ≤ _ := (Wr.size W36).symm ▸ Z0
  have A_q : Av G.Z h36_4 q .int [(.int (0 : Int32)), (.int (Int32.ofNat q1)), (.int (Int32.ofNat q2)), (.int (0 : Int32)), (.int (0 : Int32))] := A_q
  refine N.aload C (pc' := 39) at_37 rfl rfl rfl ?_
  refine N.iconst C (pc' := 40) (z := 3) at_39 rfl rfl ?_
  refine N.iload C (pc' := 42) at_40 rfl rfl ?_
  refine N.bipush C (pc' := 44) (z := 6) at_42 rfl rfl ?_
  refine N.idiv C (pc' := 45) at_44 (by decide) rfl ?_
  refine N.iconst C (pc' := 46) (z := 4) at_45 rfl rfl ?_
  refine N.irem C (pc' := 47) at_46 (by decide) rfl ?_
  obtain ⟨q3, hq3, eq3⟩ := own_qd (t := t) (d := 6) (e := 4) (D := 6) (E := 4) ht.1 (by decide) (by decide) (by decide) (by decide) (by decide)
  rw [eq3]
  refine N.iastore C (pc' := 48) (i := 3) at_47 A_q rfl (show 3 < 5 from by decide) g_q rfl (fun h47_5 W47 A_q => ?_)
  have Z0 : G.n0 ≤ _ := (Wr.size W47).symm ▸ Z0
  have A_q : Av G.Z h47_5 q .int [(.int (0 : Int32)), (.int (Int32.ofNat q1)), (.int (Int32.ofNat q2)), (.int (Int32.ofNat q3)), (.int (0 : Int32))] := A_q
  refine N.aload C (pc' := 50) at_48 rfl rfl rfl ?_
  refine N.iconst C (pc' := 51) (z := 4) at_50 rfl rfl ?_
  refine N.iload C (pc' := 53) at_51 rfl rfl ?_
  refine N.bipush C (pc' := 55) (z := 24) at_53 rfl rfl ?_
  refine N.idiv C (pc' := 56) at_55 (by decide) rfl ?_
  refine N.iconst C (pc' := 57) (z := 5) at_56 rfl rfl ?_
  refine N.irem C (pc' := 58) at_57 (by decide) rfl ?_
  obtain ⟨q4, hq4, eq4⟩ := own_qd (t := t) (d := 24) (e := 5) (D := 24) (E := 5) ht.1 (by decide) (by decide) (by decide) (by decide) (by decide)
  rw [eq4]
  refine N.iastore C (pc' := 59) (i := 4) at_58 A_q rfl (show 4 < 5 from by decide) g_q rfl (fun h58_6 W58 A_q => ?_)
  have Z0 : G.n0 ≤ _ := (Wr.size W58).symm ▸ Z0
  have A_q : Av G.Z h58_6 q .int [(.int (0 : Int32)), (.int (Int32.ofNat q1)), (.int (Int32.ofNat q2)), (.int (Int32.ofNat q3)), (.int (Int32.ofNat q4))] := A_q
  have A_q : Av G.Z h58_6 q .int (own_qs q1 q2 q3 q4) := A_q
  refine N.iloadN C (pc' := 60) at_59 rfl rfl ?_
  refine N.iconst C (pc' := 61) (z := 3) at_60 rfl rfl ?_
  refine N.iand C (pc' := 62) at_61 rfl ?_
  refine N.iconst C (pc' := 63) (z := 1) at_62 rfl rfl ?_
  refine N.iadd C (pc' := 64) at_63 rfl ?_
  obtain ⟨M, hM, hM1, eM⟩ := own_m4 mult
  rw [eM]
  refine N.istore C (pc' := 66) (ls' := #[.val (.int tree), .val (.int node), .val (.int mult), .val (.int shift), .val (.int t), .val (.ref q), .val (.int (Int32.ofNat M)), .unset, .unset, .unset, .unset, .unset, .unset, .unset, .unset, .unset, .unset]) at_64 rfl rfl ?_
  refine N.iloadN C (pc' := 67) at_66 rfl rfl ?_
  refine N.ldcI C (pc' := 69) (v := 2147483647) at_67 (C.w (i := 0) rfl) rfl ?_
  refine N.iand C (pc' := 70) at_69 rfl ?_
  refine N.iconst C (pc' := 71) (z := 5) at_70 rfl rfl ?_
  refine N.irem C (pc' := 72) at_71 (by decide) rfl ?_
  obtain ⟨S, hS, eS⟩ := own_rem5 shift
  rw [eS]
  refine N.istore C (pc' := 74) (ls' := #[.val (.int tree), .val (.int node), .val (.int mult), .val (.int shift), .val (.int t), .val (.ref q), .val (.int (Int32.ofNat M)), .val (.int (Int32.ofNat S)), .unset, .unset, .unset, .unset, .unset, .unset, .unset, .unset, .unset]) at_72 rfl rfl ?_
  refine N.iloadN C (pc' := 75) at_74 rfl rfl ?_
  refine N.ldcI C (pc' := 77) (v := 2147483647) at_75 (C.w (i := 0) rfl) rfl ?_
  refine N.iand C (pc' := 78) at_77 rfl ?_
  refine N.iconst C (pc' := 79) (z := 5) at_78 rfl rfl ?_
  refine N.irem C (pc' := 80) at_79 (by decide) rfl ?_
  obtain ⟨k, hk, ek⟩ := own_rem5 node
  rw [ek]
  refine N.istore C (pc' := 82) (ls' := #[.val (.int tree), .val (.int node), .val (.int mult), .val (.int shift), .val (.int t), .val (.ref q), .val (.int (Int32.ofNat M)), .val (.int (Int32.ofNat S)), .val (.int (Int32.ofNat k)), .unset, .unset, .unset, .unset, .unset, .unset, .unset, .unset]) at_80 rfl rfl ?_
  refine N.iconst C (pc' := 83) (z := 5) at_82 rfl rfl ?_
  refine N.newP C (pc' := 85) (n := (5 : Int32)) 5 at_83 (C.w (i := 1) rfl) (by decide) (by decide) (by decide) (by decide) (by decide) rfl (fun h83_7 p hx_p Ex83 A'_p => ?_)
  have ne_q_p : q ≠ p := by rw [hx_p]; exact Nat.ne_of_lt A_q.lt
  have ne_p_q := Ne.symm ne_q_p
  have g_p : G.n0 ≤ p := by rw [hx_p]; exact Z0
  have Z0 := Nat.le_trans Z0 Ex83.1
  have A_q := A_q.ext Ex83
  have A_p : Av G.Z h83_7 p .int [(.int (0 : Int32)), (.int (0 : Int32)), (.int (0 : Int32)), (.int (0 : Int32)), (.int (0 : Int32))] := A'_p
  refine N.astore C (pc' := 87) (ls' := #[.val (.int tree), .val (.int node), .val (.int mult), .val (.int shift), .val (.int t), .val (.ref q), .val (.int (Int32.ofNat M)), .val (.int (Int32.ofNat S)), .val (.int (Int32.ofNat k)), .val (.ref p), .unset, .unset, .unset, .unset, .unset, .unset, .unset]) at_85 rfl rfl rfl ?_
  have A_p : Av G.Z h83_7 p .int (([0, 0, 0, 0, 0] : List Int32).map .int) := A_p
  refine N.aload C (pc' := 89) at_87 rfl rfl rfl ?_
  refine N.iconst C (pc' := 90) (z := 0) at_89 rfl rfl ?_
  refine N.iload C (pc' := 92) at_90 rfl rfl ?_
  refine N.iload C (pc' := 94) at_92 rfl rfl ?_
  refine N.callS C (pc' := 97) [(.int (0 : Int32)), (.int (Int32.ofNat M)), (.int (Int32.ofNat S))] at_94 (C.w (i := 2) rfl) (C.w (i := 3) rfl) (C.w (i := 4) rfl) (C.w (i := 5) rfl) (by decide) ((con1 G hw (0 : Int32) (Int32.ofNat M) (Int32.ofNat S) h83_7).mono (own_fcon (by decide) hM hS)) (lenOf pd__III_I rfl) rfl (by decide) (show 1 + (3 + 11) + _ ≤ _ from by decide) (by decide) (by decide) (rest := [(.ref p)]) rfl rfl ?_
  rintro _ h94_8 ⟨rfl, rfl⟩
  show N G K room_1 Q h83_7 ((0 + 1) + 1) ((0 + 5) + 5) 97 #[.val (.int tree), .val (.int node), .val (.int mult), .val (.int shift), .val (.int t), .val (.ref q), .val (.int (Int32.ofNat M)), .val (.int (Int32.ofNat S)), .val (.int (Int32.ofNat k)), .val (.ref p), .unset, .unset, .unset, .unset, .unset, .unset, .unset] [(.int (own_I M S 0)), (.ref p)]
  refine N.aload C (pc' := 99) at_97 rfl rfl rfl ?_
  refine N.iconst C (pc' := 100) (z := 0) at_99 rfl rfl ?_
  refine N.iaload C (pc' := 101) (i := 0) (v := (.int (0 : Int32))) at_100 A_q rfl rfl rfl ?_
  refine N.iload C (pc' := 103) at_101 rfl rfl ?_
  refine N.iload C (pc' := 105) at_103 rfl rfl ?_
  refine N.callS C (pc' := 108) [(.int (0 : Int32)), (.int (Int32.ofNat M)), (.int (Int32.ofNat S))] at_105 (C.w (i := 2) rfl) (C.w (i := 3) rfl) (C.w (i := 4) rfl) (C.w (i := 5) rfl) (by decide) ((con1 G hw (0 : Int32) (Int32.ofNat M) (Int32.ofNat S) h83_7).mono (own_fcon (by decide) hM hS)) (lenOf pd__III_I rfl) rfl (by decide) (show 2 + (3 + 11) + _ ≤ _ from by decide) (by decide) (by decide) (rest := [(.int (own_I M S 0)), (.ref p)]) rfl rfl ?_
  rintro _ h105_9 ⟨rfl, rfl⟩
  show N G K room_1 Q h83_7 ((0 + 1) + 1) ((0 + 5) + 5) 108 #[.val (.int tree), .val (.int node), .val (.int mult), .val (.int shift), .val (.int t), .val (.ref q), .val (.int (Int32.ofNat M)), .val (.int (Int32.ofNat S)), .val (.int (Int32.ofNat k)), .val (.ref p), .unset, .unset, .unset, .unset, .unset, .unset, .unset] [(.int (own_I M S 0)), (.int (own_I M S 0)), (.ref p)]
  refine N.iastore C (pc' := 109) (i := (own_F M S 0)) at_108 A_p own_It (by simpa using own_F5 M S 0) g_p rfl (fun h108_10 W108 A_p => ?_)
  have Z0 : G.n0 ≤ _ := (Wr.size W108).symm ▸ Z0
  have A_q := A_q.other W108 ne_q_p
  have A_p : Av G.Z h108_10 p .int ((([0, 0, 0, 0, 0] : List Int32).set (own_F M S 0) (own_I M S 0)).map .int) := by rw [List.map_set]; exact A_p
  refine N.aload C (pc' := 111) at_109 rfl rfl rfl ?_
  refine N.iconst C (pc' := 112) (z := 1) at_111 rfl rfl ?_
  refine N.iload C (pc' := 114) at_112 rfl rfl ?_
  refine N.iload C (pc' := 116) at_114 rfl rfl ?_
  refine N.callS C (pc' := 119) [(.int (1 : Int32)), (.int (Int32.ofNat M)), (.int (Int32.ofNat S))] at_116 (C.w (i := 2) rfl) (C.w (i := 3) rfl) (C.w (i := 4) rfl) (C.w (i := 5) rfl) (by decide) ((con1 G hw (1 : Int32) (Int32.ofNat M) (Int32.ofNat S) h108_10).mono (own_fcon (by decide) hM hS)) (lenOf pd__III_I rfl) rfl (by decide) (show 1 + (3 + 11) + _ ≤ _ from by decide) (by decide) (by decide) (rest := [(.ref p)]) rfl rfl ?_
  rintro _ h116_11 ⟨rfl, rfl⟩
  show N G K room_1 Q h108_10 ((0 + 1) + 1) ((0 + 5) + 5) 119 #[.val (.int tree), .val (.int node), .val (.int mult), .val (.int shift), .val (.int t), .val (.ref q), .val (.int (Int32.ofNat M)), .val (.int (Int32.ofNat S)), .val (.int (Int32.ofNat k)), .val (.ref p), .unset, .unset, .unset, .unset, .unset, .unset, .unset] [(.int (own_I M S 1)), (.ref p)]
  refine N.aload C (pc' := 121) at_119 rfl rfl rfl ?_
  refine N.iconst C (pc' := 122) (z := 1) at_121 rfl rfl ?_
  refine N.iaload C (pc' := 123) (i := 1) (v := (.int (Int32.ofNat q1))) at_122 A_q rfl rfl rfl ?_
  refine N.iload C (pc' := 125) at_123 rfl rfl ?_
  refine N.iload C (pc' := 127) at_125 rfl rfl ?_
  refine N.callS C (pc' := 130) [(.int (Int32.ofNat q1)), (.int (Int32.ofNat M)), (.int (Int32.ofNat S))] at_127 (C.w (i := 2) rfl) (C.w (i := 3) rfl) (C.w (i := 4) rfl) (C.w (i := 5) rfl) (by decide) ((con1 G hw (Int32.ofNat q1) (Int32.ofNat M) (Int32.ofNat S) h108_10).mono (own_fcon (by omega) hM hS)) (lenOf pd__III_I rfl) rfl (by decide) (show 2 + (3 + 11) + _ ≤ _ from by decide) (by decide) (by decide) (rest := [(.int (own_I M S 1)), (.ref p)]) rfl rfl ?_
  rintro _ h127_12 ⟨rfl, rfl⟩
  show N G K room_1 Q h108_10 ((0 + 1) + 1) ((0 + 5) + 5) 130 #[.val (.int tree), .val (.int node), .val (.int mult), .val (.int shift), .val (.int t), .val (.ref q), .val (.int (Int32.ofNat M)), .val (.int (Int32.ofNat S)), .val (.int (Int32.ofNat k)), .val (.ref p), .unset, .unset, .unset, .unset, .unset, .unset, .unset] [(.int (own_I M S q1)), (.int (own_I M S 1)), (.ref p)]
  refine N.iastore C (pc' := 131) (i := (own_F M S 1)) at_130 A_p own_It (by simpa using own_F5 M S 1) g_p rfl (fun h130_13 W130 A_p => ?_)
  have Z0 : G.n0 ≤ _ := (Wr.size W130).symm ▸ Z0
  have A_q := A_q.other W130 ne_q_p
  have A_p : Av G.Z h130_13 p .int (((([0, 0, 0, 0, 0] : List Int32).set (own_F M S 0) (own_I M S 0)).set (own_F M S 1) (own_I M S q1)).map .int) := by rw [List.map_set]; exact A_p
  refine N.aload C (pc' := 133) at_131 rfl rfl rfl ?_
  refine N.iconst C (pc' := 134) (z := 2) at_133 rfl rfl ?_
  refine N.iload C (pc' := 136) at_134 rfl rfl ?_
  refine N.iload C (pc' := 138) at_136 rfl rfl ?_
  refine N.callS C (pc' := 141) [(.int (2 : Int32)), (.int (Int32.ofNat M)), (.int (Int32.ofNat S))] at_138 (C.w (i := 2) rfl) (C.w (i := 3) rfl) (C.w (i := 4) rfl) (C.w (i := 5) rfl) (by decide) ((con1 G hw (2 : Int32) (Int32.ofNat M) (Int32.ofNat S) h130_13).mono (own_fcon (by decide) hM hS)) (lenOf pd__III_I rfl) rfl (by decide) (show 1 + (3 + 11) + _ ≤ _ from by decide) (by decide) (by decide) (rest := [(.ref p)]) rfl rfl ?_
  rintro _ h138_14 ⟨rfl, rfl⟩
  show N G K room_1 Q h130_13 ((0 + 1) + 1) ((0 + 5) + 5) 141 #[.val (.int tree), .val (.int node), .val (.int mult), .val (.int shift), .val (.int t), .val (.ref q), .val (.int (Int32.ofNat M)), .val (.int (Int32.ofNat S)), .val (.int (Int32.ofNat k)), .val (.ref p), .unset, .unset, .unset, .unset, .unset, .unset, .unset] [(.int (own_I M S 2)), (.ref p)]
  refine N.aload C (pc' := 143) at_141 rfl rfl rfl ?_
  refine N.iconst C (pc' := 144) (z := 2) at_143 rfl rfl ?_
  refine N.iaload C (pc' := 145) (i := 2) (v := (.int (Int32.ofNat q2))) at_144 A_q rfl rfl rfl ?_
  refine N.iload C (pc' := 147) at_145 rfl rfl ?_
  refine N.iload C (pc' := 149) at_147 rfl rfl ?_
  refine N.callS C (pc' := 152) [(.int (Int32.ofNat q2)), (.int (Int32.ofNat M)), (.int (Int32.ofNat S))] at_149 (C.w (i := 2) rfl) (C.w (i := 3) rfl) (C.w (i := 4) rfl) (C.w (i := 5) rfl) (by decide) ((con1 G hw (Int32.ofNat q2) (Int32.ofNat M) (Int32.ofNat S) h130_13).mono (own_fcon (by omega) hM hS)) (lenOf pd__III_I rfl) rfl (by decide) (show 2 + (3 + 11) + _ ≤ _ from by decide) (by decide) (by decide) (rest := [(.int (own_I M S 2)), (.ref p)]) rfl rfl ?_
  rintro _ h149_15 ⟨rfl, rfl⟩
  show N G K room_1 Q h130_13 ((0 + 1) + 1) ((0 + 5) + 5) 152 #[.val (.int tree), .val (.int node), .val (.int mult), .val (.int shift), .val (.int t), .val (.ref q), .val (.int (Int32.ofNat M)), .val (.int (Int32.ofNat S)), .val (.int (Int32.ofNat k)), .val (.ref p), .unset, .unset, .unset, .unset, .unset, .unset, .unset] [(.int (own_I M S q2)), (.int (own_I M S 2)), (.ref p)]
  refine N.iastore C (pc' := 153) (i := (own_F M S 2)) at_152 A_p own_It (by simpa using own_F5 M S 2) g_p rfl (fun h152_16 W152 A_p => ?_)
  have Z0 : G.n0 ≤ _ := (Wr.size W152).symm ▸ Z0
  have A_q := A_q.other W152 ne_q_p
  have A_p : Av G.Z h152_16 p .int ((((([0, 0, 0, 0, 0] : List Int32).set (own_F M S 0) (own_I M S 0)).set (own_F M S 1) (own_I M S q1)).set (own_F M S 2) (own_I M S q2)).map .int) := by rw [List.map_set]; exact A_p
  refine N.aload C (pc' := 155) at_153 rfl rfl rfl ?_
  refine N.iconst C (pc' := 156) (z := 3) at_155 rfl rfl ?_
  refine N.iload C (pc' := 158) at_156 rfl rfl ?_
  refine N.iload C (pc' := 160) at_158 rfl rfl ?_
  refine N.callS C (pc' := 163) [(.int (3 : Int32)), (.int (Int32.ofNat M)), (.int (Int32.ofNat S))] at_160 (C.w (i := 2) rfl) (C.w (i := 3) rfl) (C.w (i := 4) rfl) (C.w (i := 5) rfl) (by decide) ((con1 G hw (3 : Int32) (Int32.ofNat M) (Int32.ofNat S) h152_16).mono (own_fcon (by decide) hM hS)) (lenOf pd__III_I rfl) rfl (by decide) (show 1 + (3 + 11) + _ ≤ _ from by decide) (by decide) (by decide) (rest := [(.ref p)]) rfl rfl ?_
  rintro _ h160_17 ⟨rfl, rfl⟩
  show N G K room_1 Q h152_16 ((0 + 1) + 1) ((0 + 5) + 5) 163 #[.val (.int tree), .val (.int node), .val (.int mult), .val (.int shift), .val (.int t), .val (.ref q), .val (.int (Int32.ofNat M)), .val (.int (Int32.ofNat S)), .val (.int (Int32.ofNat k)), .val (.ref p), .unset, .unset, .unset, .unset, .unset, .unset, .unset] [(.int (own_I M S 3)), (.ref p)]
  refine N.aload C (pc' := 165) at_163 rfl rfl rfl ?_
  refine N.iconst C (pc' := 166) (z := 3) at_165 rfl rfl ?_
  refine N.iaload C (pc' := 167) (i := 3) (v := (.int (Int32.ofNat q3))) at_166 A_q rfl rfl rfl ?_
  refine N.iload C (pc' := 169) at_167 rfl rfl ?_
  refine N.iload C (pc' := 171) at_169 rfl rfl ?_
  refine N.callS C (pc' := 174) [(.int (Int32.ofNat q3)), (.int (Int32.ofNat M)), (.int (Int32.ofNat S))] at_171 (C.w (i := 2) rfl) (C.w (i := 3) rfl) (C.w (i := 4) rfl) (C.w (i := 5) rfl) (by decide) ((con1 G hw (Int32.ofNat q3) (Int32.ofNat M) (Int32.ofNat S) h152_16).mono (own_fcon (by omega) hM hS)) (lenOf pd__III_I rfl) rfl (by decide) (show 2 + (3 + 11) + _ ≤ _ from by decide) (by decide) (by decide) (rest := [(.int (own_I M S 3)), (.ref p)]) rfl rfl ?_
  rintro _ h171_18 ⟨rfl, rfl⟩
  show N G K room_1 Q h152_16 ((0 + 1) + 1) ((0 + 5) + 5) 174 #[.val (.int tree), .val (.int node), .val (.int mult), .val (.int shift), .val (.int t), .val (.ref q), .val (.int (Int32.ofNat M)), .val (.int (Int32.ofNat S)), .val (.int (Int32.ofNat k)), .val (.ref p), .unset, .unset, .unset, .unset, .unset, .unset, .unset] [(.int (own_I M S q3)), (.int (own_I M S 3)), (.ref p)]
  refine N.iastore C (pc' := 175) (i := (own_F M S 3)) at_174 A_p own_It (by simpa using own_F5 M S 3) g_p rfl (fun h174_19 W174 A_p => ?_)
  have Z0 : G.n0 ≤ _ := (Wr.size W174).symm ▸ Z0
  have A_q := A_q.other W174 ne_q_p
  have A_p : Av G.Z h174_19 p .int (((((([0, 0, 0, 0, 0] : List Int32).set (own_F M S 0) (own_I M S 0)).set (own_F M S 1) (own_I M S q1)).set (own_F M S 2) (own_I M S q2)).set (own_F M S 3) (own_I M S q3)).map .int) := by rw [List.map_set]; exact A_p
  refine N.aload C (pc' := 177) at_175 rfl rfl rfl ?_
  refine N.iconst C (pc' := 178) (z := 4) at_177 rfl rfl ?_
  refine N.iload C (pc' := 180) at_178 rfl rfl ?_
  refine N.iload C (pc' := 182) at_180 rfl rfl ?_
  refine N.callS C (pc' := 185) [(.int (4 : Int32)), (.int (Int32.ofNat M)), (.int (Int32.ofNat S))] at_182 (C.w (i := 2) rfl) (C.w (i := 3) rfl) (C.w (i := 4) rfl) (C.w (i := 5) rfl) (by decide) ((con1 G hw (4 : Int32) (Int32.ofNat M) (Int32.ofNat S) h174_19).mono (own_fcon (by decide) hM hS)) (lenOf pd__III_I rfl) rfl (by decide) (show 1 + (3 + 11) + _ ≤ _ from by decide) (by decide) (by decide) (rest := [(.ref p)]) rfl rfl ?_
  rintro _ h182_20 ⟨rfl, rfl⟩
  show N G K room_1 Q h174_19 ((0 + 1) + 1) ((0 + 5) + 5) 185 #[.val (.int tree), .val (.int node), .val (.int mult), .val (.int shift), .val (.int t), .val (.ref q), .val (.int (Int32.ofNat M)), .val (.int (Int32.ofNat S)), .val (.int (Int32.ofNat k)), .val (.ref p), .unset, .unset, .unset, .unset, .unset, .unset, .unset] [(.int (own_I M S 4)), (.ref p)]
  refine N.aload C (pc' := 187) at_185 rfl rfl rfl ?_
  refine N.iconst C (pc' := 188) (z := 4) at_187 rfl rfl ?_
  refine N.iaload C (pc' := 189) (i := 4) (v := (.int (Int32.ofNat q4))) at_188 A_q rfl rfl rfl ?_
  refine N.iload C (pc' := 191) at_189 rfl rfl ?_
  refine N.iload C (pc' := 193) at_191 rfl rfl ?_
  refine N.callS C (pc' := 196) [(.int (Int32.ofNat q4)), (.int (Int32.ofNat M)), (.int (Int32.ofNat S))] at_193 (C.w (i := 2) rfl) (C.w (i := 3) rfl) (C.w (i := 4) rfl) (C.w (i := 5) rfl) (by decide) ((con1 G hw (Int32.ofNat q4) (Int32.ofNat M) (Int32.ofNat S) h174_19).mono (own_fcon (by omega) hM hS)) (lenOf pd__III_I rfl) rfl (by decide) (show 2 + (3 + 11) + _ ≤ _ from by decide) (by decide) (by decide) (rest := [(.int (own_I M S 4)), (.ref p)]) rfl rfl ?_
  rintro _ h193_21 ⟨rfl, rfl⟩
  show N G K room_1 Q h174_19 ((0 + 1) + 1) ((0 + 5) + 5) 196 #[.val (.int tree), .val (.int node), .val (.int mult), .val (.int shift), .val (.int t), .val (.ref q), .val (.int (Int32.ofNat M)), .val (.int (Int32.ofNat S)), .val (.int (Int32.ofNat k)), .val (.ref p), .unset, .unset, .unset, .unset, .unset, .unset, .unset] [(.int (own_I M S q4)), (.int (own_I M S 4)), (.ref p)]
  refine N.iastore C (pc' := 197) (i := (own_F M S 4)) at_196 A_p own_It (by simpa using own_F5 M S 4) g_p rfl (fun h196_22 W196 A_p => ?_)
  have Z0 : G.n0 ≤ _ := (Wr.size W196).symm ▸ Z0
  have A_q := A_q.other W196 ne_q_p
  have A_p : Av G.Z h196_22 p .int ((((((([0, 0, 0, 0, 0] : List Int32).set (own_F M S 0) (own_I M S 0)).set (own_F M S 1) (own_I M S q1)).set (own_F M S 2) (own_I M S q2)).set (own_F M S 3) (own_I M S q3)).set (own_F M S 4) (own_I M S q4)).map .int) := by rw [List.map_set]; exact A_p
  have hT := own_build hM hM1 hS hq1 hq2 hq3 hq4
  obtain ⟨a1, ea1⟩ : ∃ z, ([0, q1, q2, q3, q4] : List Nat).getD k 0 = z := ⟨_, rfl⟩
  have h1 : a1 < 5 := ea1 ▸ own_g5 hq1 hq2 hq3 hq4 hk
  obtain ⟨a2, ea2⟩ : ∃ z, ([0, q1, q2, q3, q4] : List Nat).getD a1 0 = z := ⟨_, rfl⟩
  have h2 : a2 < 5 := ea2 ▸ own_g5 hq1 hq2 hq3 hq4 h1
  obtain ⟨a3, ea3⟩ : ∃ z, ([0, q1, q2, q3, q4] : List Nat).getD a2 0 = z := ⟨_, rfl⟩
  have h3 : a3 < 5 := ea3 ▸ own_g5 hq1 hq2 hq3 hq4 h2
  obtain ⟨r, er⟩ : ∃ z, ([0, q1, q2, q3, q4] : List Nat).getD a3 0 = z := ⟨_, rfl⟩
  have hr : r < 5 := er ▸ own_g5 hq1 hq2 hq3 hq4 h3
  have ert : own_rt [0, q1, q2, q3, q4] k = r := by unfold own_rt; simp only [ea1, ea2, ea3, er]
  obtain ⟨g', hup, hcp, hg⟩ := own_law hq1 hq2 hq3 hq4 hk
  rw [ert] at hup hcp hg
  refine N.iload C (pc' := 199) at_197 rfl rfl ?_
  refine N.istore C (pc' := 201) (ls' := #[.val (.int tree), .val (.int node), .val (.int mult), .val (.int shift), .val (.int t), .val (.ref q), .val (.int (Int32.ofNat M)), .val (.int (Int32.ofNat S)), .val (.int (Int32.ofNat k)), .val (.ref p), .val (.int (Int32.ofNat k)), .unset, .unset, .unset, .unset, .unset, .unset]) at_199 rfl rfl ?_
  refine N.aload C (pc' := 203) at_201 rfl rfl rfl ?_
  refine N.iload C (pc' := 205) at_203 rfl rfl ?_
  refine N.iaload C (pc' := 206) (i := k) (v := (.int (Int32.ofNat a1))) at_205 A_q (own_t5 k hk) (by rw [own_qget hk, ea1]) rfl ?_
  refine N.istore C (pc' := 208) (ls' := #[.val (.int tree), .val (.int node), .val (.int mult), .val (.int shift), .val (.int t), .val (.ref q), .val (.int (Int32.ofNat M)), .val (.int (Int32.ofNat S)), .val (.int (Int32.ofNat k)), .val (.ref p), .val (.int (Int32.ofNat k)), .val (.int (Int32.ofNat a1)), .unset, .unset, .unset, .unset, .unset]) at_206 rfl rfl ?_
  refine N.aload C (pc' := 210) at_208 rfl rfl rfl ?_
  refine N.iload C (pc' := 212) at_210 rfl rfl ?_
  refine N.iaload C (pc' := 213) (i := a1) (v := (.int (Int32.ofNat a2))) at_212 A_q (own_t5 a1 h1) (by rw [own_qget h1, ea2]) rfl ?_
  refine N.istore C (pc' := 215) (ls' := #[.val (.int tree), .val (.int node), .val (.int mult), .val (.int shift), .val (.int t), .val (.ref q), .val (.int (Int32.ofNat M)), .val (.int (Int32.ofNat S)), .val (.int (Int32.ofNat k)), .val (.ref p), .val (.int (Int32.ofNat k)), .val (.int (Int32.ofNat a1)), .val (.int (Int32.ofNat a2)), .unset, .unset, .unset, .unset]) at_213 rfl rfl ?_
  refine N.aload C (pc' := 217) at_215 rfl rfl rfl ?_
  refine N.iload C (pc' := 219) at_217 rfl rfl ?_
  refine N.iaload C (pc' := 220) (i := a2) (v := (.int (Int32.ofNat a3))) at_219 A_q (own_t5 a2 h2) (by rw [own_qget h2, ea3]) rfl ?_
  refine N.istore C (pc' := 222) (ls' := #[.val (.int tree), .val (.int node), .val (.int mult), .val (.int shift), .val (.int t), .val (.ref q), .val (.int (Int32.ofNat M)), .val (.int (Int32.ofNat S)), .val (.int (Int32.ofNat k)), .val (.ref p), .val (.int (Int32.ofNat k)), .val (.int (Int32.ofNat a1)), .val (.int (Int32.ofNat a2)), .val (.int (Int32.ofNat a3)), .unset, .unset, .unset]) at_220 rfl rfl ?_
  refine N.aload C (pc' := 224) at_222 rfl rfl rfl ?_
  refine N.iload C (pc' := 226) at_224 rfl rfl ?_
  refine N.iaload C (pc' := 227) (i := a3) (v := (.int (Int32.ofNat r))) at_226 A_q (own_t5 a3 h3) (by rw [own_qget h3, er]) rfl ?_
  refine N.istore C (pc' := 229) (ls' := #[.val (.int tree), .val (.int node), .val (.int mult), .val (.int shift), .val (.int t), .val (.ref q), .val (.int (Int32.ofNat M)), .val (.int (Int32.ofNat S)), .val (.int (Int32.ofNat k)), .val (.ref p), .val (.int (Int32.ofNat k)), .val (.int (Int32.ofNat a1)), .val (.int (Int32.ofNat a2)), .val (.int (Int32.ofNat a3)), .val (.int (Int32.ofNat r)), .unset, .unset]) at_227 rfl rfl ?_
  refine N.aload C (pc' := 231) at_229 rfl rfl rfl ?_
  refine N.iload C (pc' := 233) at_231 rfl rfl ?_
  refine N.iload C (pc' := 235) at_233 rfl rfl ?_
  refine N.iload C (pc' := 237) at_235 rfl rfl ?_
  refine N.callS C (pc' := 240) [(.int (Int32.ofNat k)), (.int (Int32.ofNat M)), (.int (Int32.ofNat S))] at_237 (C.w (i := 2) rfl) (C.w (i := 3) rfl) (C.w (i := 4) rfl) (C.w (i := 5) rfl) (by decide) ((con1 G hw (Int32.ofNat k) (Int32.ofNat M) (Int32.ofNat S) h196_22).mono (own_fcon hk hM hS)) (lenOf pd__III_I rfl) rfl (by decide) (show 1 + (3 + 11) + _ ≤ _ from by decide) (by decide) (by decide) (rest := [(.ref p)]) rfl rfl ?_
  rintro _ h237_23 ⟨rfl, rfl⟩
  show N G K room_1 Q h196_22 ((0 + 1) + 1) ((0 + 5) + 5) 240 #[.val (.int tree), .val (.int node), .val (.int mult), .val (.int shift), .val (.int t), .val (.ref q), .val (.int (Int32.ofNat M)), .val (.int (Int32.ofNat S)), .val (.int (Int32.ofNat k)), .val (.ref p), .val (.int (Int32.ofNat k)), .val (.int (Int32.ofNat a1)), .val (.int (Int32.ofNat a2)), .val (.int (Int32.ofNat a3)), .val (.int (Int32.ofNat r)), .unset, .unset] [(.int (own_I M S k)), (.ref p)]
  refine N.callS C (pc' := 243) [(.ref p), (.int (own_I M S k))] at_240 (C.w (i := 6) rfl) (C.w (i := 7) rfl) (C.w (i := 8) rfl) (C.w (i := 9) rfl) (by decide) (con2 G hw p M S k (((((([0, 0, 0, 0, 0] : List Int32).set (own_F M S 0) (own_I M S 0)).set (own_F M S 1) (own_I M S q1)).set (own_F M S 2) (own_I M S q2)).set (own_F M S 3) (own_I M S q3)).set (own_F M S 4) (own_I M S q4)) [0, q1, q2, q3, q4] g' r h196_22 hM hM1 hS hk hr Z0 g_p A_p hT hup hcp) (lenOf pd___II_I rfl) rfl (by decide) (show 0 + (5 + 11) + _ ≤ _ from by decide) (by decide) (by decide) (rest := []) rfl rfl ?_
  rintro _ h240_24 ⟨ps', rfl, KpR, A_p', hT'⟩
  have Z0 := Nat.le_trans Z0 KpR.1
  have A_q := A_q.keep KpR (ninS ne_q_p nin0)
  have A_p := A_p'
  show N G K room_1 Q h240_24 ((0 + 1) + 1) ((0 + 5) + 5) 243 #[.val (.int tree), .val (.int node), .val (.int mult), .val (.int shift), .val (.int t), .val (.ref q), .val (.int (Int32.ofNat M)), .val (.int (Int32.ofNat S)), .val (.int (Int32.ofNat k)), .val (.ref p), .val (.int (Int32.ofNat k)), .val (.int (Int32.ofNat a1)), .val (.int (Int32.ofNat a2)), .val (.int (Int32.ofNat a3)), .val (.int (Int32.ofNat r)), .unset, .unset] [(.int (own_I M S r))]
  refine N.istore C (pc' := 245) (ls' := #[.val (.int tree), .val (.int node), .val (.int mult), .val (.int shift), .val (.int t), .val (.ref q), .val (.int (Int32.ofNat M)), .val (.int (Int32.ofNat S)), .val (.int (Int32.ofNat k)), .val (.ref p), .val (.int (Int32.ofNat k)), .val (.int (Int32.ofNat a1)), .val (.int (Int32.ofNat a2)), .val (.int (Int32.ofNat a3)), .val (.int (Int32.ofNat r)), .val (.int (own_I M S r)), .unset]) at_243 rfl rfl ?_
  refine N.iload C (pc' := 247) at_245 rfl rfl ?_
  refine N.iload C (pc' := 249) at_247 rfl rfl ?_
  refine N.iload C (pc' := 251) at_249 rfl rfl ?_
  refine N.iload C (pc' := 253) at_251 rfl rfl ?_
  refine N.callS C (pc' := 256) [(.int (Int32.ofNat r)), (.int (Int32.ofNat M)), (.int (Int32.ofNat S))] at_253 (C.w (i := 2) rfl) (C.w (i := 3) rfl) (C.w (i := 4) rfl) (C.w (i := 5) rfl) (by decide) ((con1 G hw (Int32.ofNat r) (Int32.ofNat M) (Int32.ofNat S) h240_24).mono (own_fcon hr hM hS)) (lenOf pd__III_I rfl) rfl (by decide) (show 1 + (3 + 11) + _ ≤ _ from by decide) (by decide) (by decide) (rest := [(.int (own_I M S r))]) rfl rfl ?_
  rintro _ h253_25 ⟨rfl, rfl⟩
  show N G K room_1 Q h240_24 ((0 + 1) + 1) ((0 + 5) + 5) 256 #[.val (.int tree), .val (.int node), .val (.int mult), .val (.int shift), .val (.int t), .val (.ref q), .val (.int (Int32.ofNat M)), .val (.int (Int32.ofNat S)), .val (.int (Int32.ofNat k)), .val (.ref p), .val (.int (Int32.ofNat k)), .val (.int (Int32.ofNat a1)), .val (.int (Int32.ofNat a2)), .val (.int (Int32.ofNat a3)), .val (.int (Int32.ofNat r)), .val (.int (own_I M S r)), .unset] [(.int (own_I M S r)), (.int (own_I M S r))]
  refine N.icmp C (pt := 263) (pf := 259) at_256 rfl rfl (fun (hc256 : ¬ (own_I M S r) = (own_I M S r)) => absurd (show False from by exact hc256 rfl) id) (fun (hc256 : (own_I M S r) = (own_I M S r)) => ?_)
  refine N.iconst C (pc' := 260) (z := 1) at_259 rfl rfl ?_
  refine N.goto C (pc' := 264) at_260 rfl ?_
  refine N.istore C (pc' := 266) (ls' := #[.val (.int tree), .val (.int node), .val (.int mult), .val (.int shift), .val (.int t), .val (.ref q), .val (.int (Int32.ofNat M)), .val (.int (Int32.ofNat S)), .val (.int (Int32.ofNat k)), .val (.ref p), .val (.int (Int32.ofNat k)), .val (.int (Int32.ofNat a1)), .val (.int (Int32.ofNat a2)), .val (.int (Int32.ofNat a3)), .val (.int (Int32.ofNat r)), .val (.int (own_I M S r)), .val (.int (1 : Int32))]) at_264 rfl rfl ?_
  refine N.iload C (pc' := 268) at_266 rfl rfl ?_
  refine N.ifc C (pt := 300) (pf := 271) at_268 rfl rfl (fun (q : (1 : Int32) = (0 : Int32)) => absurd q (by decide)) (fun _ => ?_)
  refine N.aload C (pc' := 273) at_271 rfl rfl rfl ?_
  refine N.aload C (pc' := 275) at_273 rfl rfl rfl ?_
  refine N.iconst C (pc' := 276) (z := 0) at_275 rfl rfl ?_
  refine N.iload C (pc' := 278) at_276 rfl rfl ?_
  refine N.iload C (pc' := 280) at_278 rfl rfl ?_
  refine N.iload C (pc' := 282) at_280 rfl rfl ?_
  refine N.iload C (pc' := 284) at_282 rfl rfl ?_
  refine N.iload C (pc' := 286) at_284 rfl rfl ?_
  refine N.iload C (pc' := 288) at_286 rfl rfl ?_
  refine N.iload C (pc' := 290) at_288 rfl rfl ?_
  have hy0 := own_yes (M := M) (S := S) (g := [0, q1, q2, q3, q4]) (g' := g') (k := k) (i := 0) (r := r) hM hS (by decide) hk hr h1 h2 h3 ea1 ea2 ea3 (hg 0 (by decide))
  refine N.callS C (pc' := 293) [(.ref p), (.ref q), (.int (0 : Int32)), (.int (Int32.ofNat k)), (.int (Int32.ofNat a1)), (.int (Int32.ofNat a2)), (.int (Int32.ofNat a3)), (.int (Int32.ofNat r)), (.int (Int32.ofNat M)), (.int (Int32.ofNat S))] at_290 (C.w (i := 10) rfl) (C.w (i := 11) rfl) (C.w (i := 4) rfl) (C.w (i := 12) rfl) (by decide) (con3 G hw p q (0 : Int32) (Int32.ofNat k) (Int32.ofNat a1) (Int32.ofNat a2) (Int32.ofNat a3) (Int32.ofNat r) (Int32.ofNat M) (Int32.ofNat S) (own_I M S (g'.getD 0 0)) (Int32.ofNat (([0, q1, q2, q3, q4] : List Nat).getD 0 0)) 0 (own_F M S 0) _ _ h240_24 A_p A_q (by decide) (own_qget (by decide)) (by rw [show (0 : Int32) = Int32.ofNat 0 from rfl, own_fI (by decide) hM hS]; exact own_It) (own_Trget hT' (by decide)) hy0.1 (hy0.2 (own_g5 hq1 hq2 hq3 hq4 (by decide)))) (lenOf pd___I_IIIIIIIII_Z rfl) rfl (by decide) (show 0 + (12 + 11) + _ ≤ _ from by decide) (by decide) (by decide) (rest := []) rfl rfl ?_
  rintro _ h290_26 ⟨rfl, rfl⟩
  show N G K room_1 Q h240_24 ((0 + 1) + 1) ((0 + 5) + 5) 293 #[.val (.int tree), .val (.int node), .val (.int mult), .val (.int shift), .val (.int t), .val (.ref q), .val (.int (Int32.ofNat M)), .val (.int (Int32.ofNat S)), .val (.int (Int32.ofNat k)), .val (.ref p), .val (.int (Int32.ofNat k)), .val (.int (Int32.ofNat a1)), .val (.int (Int32.ofNat a2)), .val (.int (Int32.ofNat a3)), .val (.int (Int32.ofNat r)), .val (.int (own_I M S r)), .val (.int (1 : Int32))] [(.int (1 : Int32))]
  refine N.ifc C (pt := 300) (pf := 296) at_293 rfl rfl (fun (q : (1 : Int32) = (0 : Int32)) => absurd q (by decide)) (fun _ => ?_)
  refine N.iconst C (pc' := 297) (z := 1) at_296 rfl rfl ?_
  refine N.goto C (pc' := 301) at_297 rfl ?_
  refine N.istore C (pc' := 303) (ls' := #[.val (.int tree), .val (.int node), .val (.int mult), .val (.int shift), .val (.int t), .val (.ref q), .val (.int (Int32.ofNat M)), .val (.int (Int32.ofNat S)), .val (.int (Int32.ofNat k)), .val (.ref p), .val (.int (Int32.ofNat k)), .val (.int (Int32.ofNat a1)), .val (.int (Int32.ofNat a2)), .val (.int (Int32.ofNat a3)), .val (.int (Int32.ofNat r)), .val (.int (own_I M S r)), .val (.int (1 : Int32))]) at_301 rfl rfl ?_
  refine N.iload C (pc' := 305) at_303 rfl rfl ?_
  refine N.ifc C (pt := 337) (pf := 308) at_305 rfl rfl (fun (q : (1 : Int32) = (0 : Int32)) => absurd q (by decide)) (fun _ => ?_)
  refine N.aload C (pc' := 310) at_308 rfl rfl rfl ?_
  refine N.aload C (pc' := 312) at_310 rfl rfl rfl ?_
  refine N.iconst C (pc' := 313) (z := 1) at_312 rfl rfl ?_
  refine N.iload C (pc' := 315) at_313 rfl rfl ?_
  refine N.iload C (pc' := 317) at_315 rfl rfl ?_
  refine N.iload C (pc' := 319) at_317 rfl rfl ?_
  refine N.iload C (pc' := 321) at_319 rfl rfl ?_
  refine N.iload C (pc' := 323) at_321 rfl rfl ?_
  refine N.iload C (pc' := 325) at_323 rfl rfl ?_
  refine N.iload C (pc' := 327) at_325 rfl rfl ?_
  have hy1 := own_yes (M := M) (S := S) (g := [0, q1, q2, q3, q4]) (g' := g') (k := k) (i := 1) (r := r) hM hS (by decide) hk hr h1 h2 h3 ea1 ea2 ea3 (hg 1 (by decide))
  refine N.callS C (pc' := 330) [(.ref p), (.ref q), (.int (1 : Int32)), (.int (Int32.ofNat k)), (.int (Int32.ofNat a1)), (.int (Int32.ofNat a2)), (.int (Int32.ofNat a3)), (.int (Int32.ofNat r)), (.int (Int32.ofNat M)), (.int (Int32.ofNat S))] at_327 (C.w (i := 10) rfl) (C.w (i := 11) rfl) (C.w (i := 4) rfl) (C.w (i := 12) rfl) (by decide) (con3 G hw p q (1 : Int32) (Int32.ofNat k) (Int32.ofNat a1) (Int32.ofNat a2) (Int32.ofNat a3) (Int32.ofNat r) (Int32.ofNat M) (Int32.ofNat S) (own_I M S (g'.getD 1 0)) (Int32.ofNat (([0, q1, q2, q3, q4] : List Nat).getD 1 0)) 1 (own_F M S 1) _ _ h240_24 A_p A_q (by decide) (own_qget (by decide)) (by rw [show (1 : Int32) = Int32.ofNat 1 from rfl, own_fI (by decide) hM hS]; exact own_It) (own_Trget hT' (by decide)) hy1.1 (hy1.2 (own_g5 hq1 hq2 hq3 hq4 (by decide)))) (lenOf pd___I_IIIIIIIII_Z rfl) rfl (by decide) (show 0 + (12 + 11) + _ ≤ _ from by decide) (by decide) (by decide) (rest := []) rfl rfl ?_
  rintro _ h327_27 ⟨rfl, rfl⟩
  show N G K room_1 Q h240_24 ((0 + 1) + 1) ((0 + 5) + 5) 330 #[.val (.int tree), .val (.int node), .val (.int mult), .val (.int shift), .val (.int t), .val (.ref q), .val (.int (Int32.ofNat M)), .val (.int (Int32.ofNat S)), .val (.int (Int32.ofNat k)), .val (.ref p), .val (.int (Int32.ofNat k)), .val (.int (Int32.ofNat a1)), .val (.int (Int32.ofNat a2)), .val (.int (Int32.ofNat a3)), .val (.int (Int32.ofNat r)), .val (.int (own_I M S r)), .val (.int (1 : Int32))] [(.int (1 : Int32))]
  refine N.ifc C (pt := 337) (pf := 333) at_330 rfl rfl (fun (q : (1 : Int32) = (0 : Int32)) => absurd q (by decide)) (fun _ => ?_)
  refine N.iconst C (pc' := 334) (z := 1) at_333 rfl rfl ?_
  refine N.goto C (pc' := 338) at_334 rfl ?_
  refine N.istore C (pc' := 340) (ls' := #[.val (.int tree), .val (.int node), .val (.int mult), .val (.int shift), .val (.int t), .val (.ref q), .val (.int (Int32.ofNat M)), .val (.int (Int32.ofNat S)), .val (.int (Int32.ofNat k)), .val (.ref p), .val (.int (Int32.ofNat k)), .val (.int (Int32.ofNat a1)), .val (.int (Int32.ofNat a2)), .val (.int (Int32.ofNat a3)), .val (.int (Int32.ofNat r)), .val (.int (own_I M S r)), .val (.int (1 : Int32))]) at_338 rfl rfl ?_
  refine N.iload C (pc' := 342) at_340 rfl rfl ?_
  refine N.ifc C (pt := 374) (pf := 345) at_342 rfl rfl (fun (q : (1 : Int32) = (0 : Int32)) => absurd q (by decide)) (fun _ => ?_)
  refine N.aload C (pc' := 347) at_345 rfl rfl rfl ?_
  refine N.aload C (pc' := 349) at_347 rfl rfl rfl ?_
  refine N.iconst C (pc' := 350) (z := 2) at_349 rfl rfl ?_
  refine N.iload C (pc' := 352) at_350 rfl rfl ?_
  refine N.iload C (pc' := 354) at_352 rfl rfl ?_
  refine N.iload C (pc' := 356) at_354 rfl rfl ?_
  refine N.iload C (pc' := 358) at_356 rfl rfl ?_
  refine N.iload C (pc' := 360) at_358 rfl rfl ?_
  refine N.iload C (pc' := 362) at_360 rfl rfl ?_
  refine N.iload C (pc' := 364) at_362 rfl rfl ?_
  have hy2 := own_yes (M := M) (S := S) (g := [0, q1, q2, q3, q4]) (g' := g') (k := k) (i := 2) (r := r) hM hS (by decide) hk hr h1 h2 h3 ea1 ea2 ea3 (hg 2 (by decide))
  refine N.callS C (pc' := 367) [(.ref p), (.ref q), (.int (2 : Int32)), (.int (Int32.ofNat k)), (.int (Int32.ofNat a1)), (.int (Int32.ofNat a2)), (.int (Int32.ofNat a3)), (.int (Int32.ofNat r)), (.int (Int32.ofNat M)), (.int (Int32.ofNat S))] at_364 (C.w (i := 10) rfl) (C.w (i := 11) rfl) (C.w (i := 4) rfl) (C.w (i := 12) rfl) (by decide) (con3 G hw p q (2 : Int32) (Int32.ofNat k) (Int32.ofNat a1) (Int32.ofNat a2) (Int32.ofNat a3) (Int32.ofNat r) (Int32.ofNat M) (Int32.ofNat S) (own_I M S (g'.getD 2 0)) (Int32.ofNat (([0, q1, q2, q3, q4] : List Nat).getD 2 0)) 2 (own_F M S 2) _ _ h240_24 A_p A_q (by decide) (own_qget (by decide)) (by rw [show (2 : Int32) = Int32.ofNat 2 from rfl, own_fI (by decide) hM hS]; exact own_It) (own_Trget hT' (by decide)) hy2.1 (hy2.2 (own_g5 hq1 hq2 hq3 hq4 (by decide)))) (lenOf pd___I_IIIIIIIII_Z rfl) rfl (by decide) (show 0 + (12 + 11) + _ ≤ _ from by decide) (by decide) (by decide) (rest := []) rfl rfl ?_
  rintro _ h364_28 ⟨rfl, rfl⟩
  show N G K room_1 Q h240_24 ((0 + 1) + 1) ((0 + 5) + 5) 367 #[.val (.int tree), .val (.int node), .val (.int mult), .val (.int shift), .val (.int t), .val (.ref q), .val (.int (Int32.ofNat M)), .val (.int (Int32.ofNat S)), .val (.int (Int32.ofNat k)), .val (.ref p), .val (.int (Int32.ofNat k)), .val (.int (Int32.ofNat a1)), .val (.int (Int32.ofNat a2)), .val (.int (Int32.ofNat a3)), .val (.int (Int32.ofNat r)), .val (.int (own_I M S r)), .val (.int (1 : Int32))] [(.int (1 : Int32))]
  refine N.ifc C (pt := 374) (pf := 370) at_367 rfl rfl (fun (q : (1 : Int32) = (0 : Int32)) => absurd q (by decide)) (fun _ => ?_)
  refine N.iconst C (pc' := 371) (z := 1) at_370 rfl rfl ?_
  refine N.goto C (pc' := 375) at_371 rfl ?_
  refine N.istore C (pc' := 377) (ls' := #[.val (.int tree), .val (.int node), .val (.int mult), .val (.int shift), .val (.int t), .val (.ref q), .val (.int (Int32.ofNat M)), .val (.int (Int32.ofNat S)), .val (.int (Int32.ofNat k)), .val (.ref p), .val (.int (Int32.ofNat k)), .val (.int (Int32.ofNat a1)), .val (.int (Int32.ofNat a2)), .val (.int (Int32.ofNat a3)), .val (.int (Int32.ofNat r)), .val (.int (own_I M S r)), .val (.int (1 : Int32))]) at_375 rfl rfl ?_
  refine N.iload C (pc' := 379) at_377 rfl rfl ?_
  refine N.ifc C (pt := 411) (pf := 382) at_379 rfl rfl (fun (q : (1 : Int32) = (0 : Int32)) => absurd q (by decide)) (fun _ => ?_)
  refine N.aload C (pc' := 384) at_382 rfl rfl rfl ?_
  refine N.aload C (pc' := 386) at_384 rfl rfl rfl ?_
  refine N.iconst C (pc' := 387) (z := 3) at_386 rfl rfl ?_
  refine N.iload C (pc' := 389) at_387 rfl rfl ?_
  refine N.iload C (pc' := 391) at_389 rfl rfl ?_
  refine N.iload C (pc' := 393) at_391 rfl rfl ?_
  refine N.iload C (pc' := 395) at_393 rfl rfl ?_
  refine N.iload C (pc' := 397) at_395 rfl rfl ?_
  refine N.iload C (pc' := 399) at_397 rfl rfl ?_
  refine N.iload C (pc' := 401) at_399 rfl rfl ?_
  have hy3 := own_yes (M := M) (S := S) (g := [0, q1, q2, q3, q4]) (g' := g') (k := k) (i := 3) (r := r) hM hS (by decide) hk hr h1 h2 h3 ea1 ea2 ea3 (hg 3 (by decide))
  refine N.callS C (pc' := 404) [(.ref p), (.ref q), (.int (3 : Int32)), (.int (Int32.ofNat k)), (.int (Int32.ofNat a1)), (.int (Int32.ofNat a2)), (.int (Int32.ofNat a3)), (.int (Int32.ofNat r)), (.int (Int32.ofNat M)), (.int (Int32.ofNat S))] at_401 (C.w (i := 10) rfl) (C.w (i := 11) rfl) (C.w (i := 4) rfl) (C.w (i := 12) rfl) (by decide) (con3 G hw p q (3 : Int32) (Int32.ofNat k) (Int32.ofNat a1) (Int32.ofNat a2) (Int32.ofNat a3) (Int32.ofNat r) (Int32.ofNat M) (Int32.ofNat S) (own_I M S (g'.getD 3 0)) (Int32.ofNat (([0, q1, q2, q3, q4] : List Nat).getD 3 0)) 3 (own_F M S 3) _ _ h240_24 A_p A_q (by decide) (own_qget (by decide)) (by rw [show (3 : Int32) = Int32.ofNat 3 from rfl, own_fI (by decide) hM hS]; exact own_It) (own_Trget hT' (by decide)) hy3.1 (hy3.2 (own_g5 hq1 hq2 hq3 hq4 (by decide)))) (lenOf pd___I_IIIIIIIII_Z rfl) rfl (by decide) (show 0 + (12 + 11) + _ ≤ _ from by decide) (by decide) (by decide) (rest := []) rfl rfl ?_
  rintro _ h401_29 ⟨rfl, rfl⟩
  show N G K room_1 Q h240_24 ((0 + 1) + 1) ((0 + 5) + 5) 404 #[.val (.int tree), .val (.int node), .val (.int mult), .val (.int shift), .val (.int t), .val (.ref q), .val (.int (Int32.ofNat M)), .val (.int (Int32.ofNat S)), .val (.int (Int32.ofNat k)), .val (.ref p), .val (.int (Int32.ofNat k)), .val (.int (Int32.ofNat a1)), .val (.int (Int32.ofNat a2)), .val (.int (Int32.ofNat a3)), .val (.int (Int32.ofNat r)), .val (.int (own_I M S r)), .val (.int (1 : Int32))] [(.int (1 : Int32))]
  refine N.ifc C (pt := 411) (pf := 407) at_404 rfl rfl (fun (q : (1 : Int32) = (0 : Int32)) => absurd q (by decide)) (fun _ => ?_)
  refine N.iconst C (pc' := 408) (z := 1) at_407 rfl rfl ?_
  refine N.goto C (pc' := 412) at_408 rfl ?_
  refine N.istore C (pc' := 414) (ls' := #[.val (.int tree), .val (.int node), .val (.int mult), .val (.int shift), .val (.int t), .val (.ref q), .val (.int (Int32.ofNat M)), .val (.int (Int32.ofNat S)), .val (.int (Int32.ofNat k)), .val (.ref p), .val (.int (Int32.ofNat k)), .val (.int (Int32.ofNat a1)), .val (.int (Int32.ofNat a2)), .val (.int (Int32.ofNat a3)), .val (.int (Int32.ofNat r)), .val (.int (own_I M S r)), .val (.int (1 : Int32))]) at_412 rfl rfl ?_
  refine N.iload C (pc' := 416) at_414 rfl rfl ?_
  refine N.ifc C (pt := 448) (pf := 419) at_416 rfl rfl (fun (q : (1 : Int32) = (0 : Int32)) => absurd q (by decide)) (fun _ => ?_)
  refine N.aload C (pc' := 421) at_419 rfl rfl rfl ?_
  refine N.aload C (pc' := 423) at_421 rfl rfl rfl ?_
  refine N.iconst C (pc' := 424) (z := 4) at_423 rfl rfl ?_
  refine N.iload C (pc' := 426) at_424 rfl rfl ?_
  refine N.iload C (pc' := 428) at_426 rfl rfl ?_
  refine N.iload C (pc' := 430) at_428 rfl rfl ?_
  refine N.iload C (pc' := 432) at_430 rfl rfl ?_
  refine N.iload C (pc' := 434) at_432 rfl rfl ?_
  refine N.iload C (pc' := 436) at_434 rfl rfl ?_
  refine N.iload C (pc' := 438) at_436 rfl rfl ?_
  have hy4 := own_yes (M := M) (S := S) (g := [0, q1, q2, q3, q4]) (g' := g') (k := k) (i := 4) (r := r) hM hS (by decide) hk hr h1 h2 h3 ea1 ea2 ea3 (hg 4 (by decide))
  refine N.callS C (pc' := 441) [(.ref p), (.ref q), (.int (4 : Int32)), (.int (Int32.ofNat k)), (.int (Int32.ofNat a1)), (.int (Int32.ofNat a2)), (.int (Int32.ofNat a3)), (.int (Int32.ofNat r)), (.int (Int32.ofNat M)), (.int (Int32.ofNat S))] at_438 (C.w (i := 10) rfl) (C.w (i := 11) rfl) (C.w (i := 4) rfl) (C.w (i := 12) rfl) (by decide) (con3 G hw p q (4 : Int32) (Int32.ofNat k) (Int32.ofNat a1) (Int32.ofNat a2) (Int32.ofNat a3) (Int32.ofNat r) (Int32.ofNat M) (Int32.ofNat S) (own_I M S (g'.getD 4 0)) (Int32.ofNat (([0, q1, q2, q3, q4] : List Nat).getD 4 0)) 4 (own_F M S 4) _ _ h240_24 A_p A_q (by decide) (own_qget (by decide)) (by rw [show (4 : Int32) = Int32.ofNat 4 from rfl, own_fI (by decide) hM hS]; exact own_It) (own_Trget hT' (by decide)) hy4.1 (hy4.2 (own_g5 hq1 hq2 hq3 hq4 (by decide)))) (lenOf pd___I_IIIIIIIII_Z rfl) rfl (by decide) (show 0 + (12 + 11) + _ ≤ _ from by decide) (by decide) (by decide) (rest := []) rfl rfl ?_
  rintro _ h438_30 ⟨rfl, rfl⟩
  show N G K room_1 Q h240_24 ((0 + 1) + 1) ((0 + 5) + 5) 441 #[.val (.int tree), .val (.int node), .val (.int mult), .val (.int shift), .val (.int t), .val (.ref q), .val (.int (Int32.ofNat M)), .val (.int (Int32.ofNat S)), .val (.int (Int32.ofNat k)), .val (.ref p), .val (.int (Int32.ofNat k)), .val (.int (Int32.ofNat a1)), .val (.int (Int32.ofNat a2)), .val (.int (Int32.ofNat a3)), .val (.int (Int32.ofNat r)), .val (.int (own_I M S r)), .val (.int (1 : Int32))] [(.int (1 : Int32))]
  refine N.ifc C (pt := 448) (pf := 444) at_441 rfl rfl (fun (q : (1 : Int32) = (0 : Int32)) => absurd q (by decide)) (fun _ => ?_)
  refine N.iconst C (pc' := 445) (z := 1) at_444 rfl rfl ?_
  refine N.goto C (pc' := 449) at_445 rfl ?_
  refine N.istore C (pc' := 451) (ls' := #[.val (.int tree), .val (.int node), .val (.int mult), .val (.int shift), .val (.int t), .val (.ref q), .val (.int (Int32.ofNat M)), .val (.int (Int32.ofNat S)), .val (.int (Int32.ofNat k)), .val (.ref p), .val (.int (Int32.ofNat k)), .val (.int (Int32.ofNat a1)), .val (.int (Int32.ofNat a2)), .val (.int (Int32.ofNat a3)), .val (.int (Int32.ofNat r)), .val (.int (own_I M S r)), .val (.int (1 : Int32))]) at_449 rfl rfl ?_
  refine N.iload C (pc' := 453) at_451 rfl rfl ?_
  exact N.retN C (by simp) (z' := (1 : Int32)) rfl at_453 (by decide) (by decide) (by subst hQ; exact rfl)
set_option maxRecDepth 65536 in
set_option maxHeartbeats 40000000 in
theorem comes_1 {Post : Tables → Env → Array Value → State → Outcome → State → Prop} (hpost : ∀ tb e args s v u, (limb_1_1.after args s (.returned v) u = true ∧ limb_1_2.after args s (.returned v) u = true ∧ True) → FrameEnd s (.returned v) u (Jvm.fieldLocs frame_1_writes args s ++ Jvm.arrayLocs frame_1_arrays args s ++ Jvm.staticLocs frame_1_statics s) 16 128 → Post tb e args s (.returned v) u) :
    ArmFor flags0 classFile x code maxLocals ret World_1 tables_1 room_1 Calls_1 rest_1 Pre_1 Post := by
  intro l hfl _ _ p e ha hc hk s m args below hf hA hF happ hP
  obtain ⟨hcalls, hrest, hpre⟩ := hP
  obtain ⟨-, -, -, hnamed, -, -, -, hat⟩ := (Spec.applies_iff hf).mp happ
  obtain ⟨hg, hn⟩ := and_e (Cond.before_iff.mp (show (Jvm.Cond.and given_1 narrow_1).before args s = true from hpre))
  obtain ⟨hcount, hrow⟩ := and_e hg
  obtain ⟨ha0, hrow⟩ := and_e hrow
  obtain ⟨ha1, hrow⟩ := and_e hrow
  obtain ⟨ha2, hrow⟩ := and_e hrow
  have ha3 := hrow
  obtain ⟨w0, w1, w2, w3, rfl⟩ : ∃ w0 w1 w2 w3 : Value, args = #[w0, w1, w2, w3] := by
    have hs : args.size = 4 := by simpa [Cond.value, given_1] using hcount
    obtain ⟨L⟩ := args
    match L, hs with
    | [w0, w1, w2, w3], _ => exact ⟨w0, w1, w2, w3, rfl⟩
  have hw := fun d (hd : d ∈ tables_1) => atoms_spec (ws := Jvm.Cond.code x code maxLocals ret :: tables_1) hat d (List.mem_cons_of_mem _ hd)
  have hfit : Fit s := fun {y c} hc i hi => by
    obtain ⟨ha, rfl⟩ := Array.getElem?_eq_some_iff.mp hc
    have q := List.all_eq_true.mp ((Array.all_eq_true_iff_forall_mem.mp hF) _ (Array.getElem_mem ha)) i (List.mem_range.mpr hi)
    simpa [Array.getElem?_eq_getElem hi] using q
  obtain ⟨i0, ei0⟩ := is_v ha0
  obtain rfl : w0 = (.int i0) := Option.some.inj ei0
  obtain ⟨i1, ei1⟩ := is_v ha1
  obtain rfl : w1 = (.int i1) := Option.some.inj ei1
  obtain ⟨i2, ei2⟩ := is_v ha2
  obtain rfl : w2 = (.int i2) := Option.some.inj ei2
  obtain ⟨i3, ei3⟩ := is_v ha3
  obtain rfl : w3 = (.int i3) := Option.some.inj ei3
  obtain ⟨n, o, h1, h2, h3, _, L, rfl, ⟨rfl, N⟩, hq⟩ := con0 (l, s, _, s.heap.size) hw i0 i1 i2 i3 s.heap (Nat.le_refl _) tables_1 p e ha hc hk s m _ below hf ((Spec.applies_iff_loose hf).mp happ).1 ⟨rfl, State.Warmed39.refl s, rfl⟩ trivial
  refine ⟨n, _, h1, h2, h3, hpost _ _ _ _ _ _ ⟨Cond.after_iff.mpr rfl, Cond.after_iff.mpr (eq_i res_at (Term.int_eval (1)) rfl), trivial⟩ ⟨hq.1, hq.2.1, (hq.2.2.sift fun y hy => Or.inr (N y hy)).mono (by decide) (by decide)⟩⟩
theorem main_1_1 : Claimed_1_1 := comes_1 fun _ _ _ _ _ _ h hF => ⟨h.1, hF⟩
theorem main_1_2 : Claimed_1_2 := comes_1 fun _ _ _ _ _ _ h hF => ⟨h.2.1, hF⟩
end Jvm.Pilot.@@N@@
namespace Jvm.Pilot.@@N@@
open Jvm Jvm.ClassFile Sem Op Lib Jvm.Free Jvm.Stand Jvm.Pilot.@@N@@.Jvm.D
/-! MADE BY PROGRAM (witnessworld.py) out of the Statement's table words and the real class files: 9 classes; the members and pool entries that the words name. The judged class is class 1, her method 3. -/
namespace start1
open Jvm.ClassFile
def u (s : String) : CpInfo := .utf8 (stringToUtf16 s)
/-- a pool by its gaps: so many unusable entries, then the entry; so many at the end -/
def gap : Nat → List CpInfo → List CpInfo
  | 0, r => r
  | n + 1, r => .unusable :: gap n r
def poolList (es : List (Nat × CpInfo)) (last : Nat) : List CpInfo := es.foldr (fun e r => gap e.1 (e.2 :: r)) (gap last [])
def pool (es : List (Nat × CpInfo)) (last : Nat) : Array CpInfo := ⟨poolList es last⟩
def fileOf (pool : Array CpInfo) (this : Nat) (attrs : Array Attribute := #[]) (ms : Array MethodInfo := #[]) (fl : Nat := 33) (sup : Nat := 0) (ifs : Array Nat := #[]) (fds : Array FieldInfo := #[]) : ClassFile where
  minorVersion := 0
  majorVersion := 65
  constantPool := pool
  accessFlags := fl
  thisClass := this
  superClass := sup
  interfaces := ifs
  fields := fds
  methods := ms
  attributes := attrs
def plain (name : String) (sup : Option ClassId) : Class where
  name := name
  kind := .ordinary
  loader := none
  accessFlags := 33
  super := sup
  interfaces := #[]
  cf := none
  fields := #[]
  methods := #[]
  instanceTypes := #[]
  staticTypes := #[]
  resolved := #[]
  callSites := []
  init := .initialized
  statics := none
  mirror := none

def pool0 : Array CpInfo := pool [(5, u "<init>"), (0, u "()V"), (1, .class_ 10), (1, u "java/lang/Object")] 113

def k0m0 : Method := { name := "<init>", desc := "()V", sig := { parameters := [], returnType := none }, accessFlags := 1, code := none }
/-- java/lang/Object -/
def k0 : Class := { plain "java/lang/Object" none with
  accessFlags := 33
  interfaces := #[]
  cf := some (fileOf pool0 8 #[] #[{ accessFlags := 1, nameIndex := 5, descriptorIndex := 6, attributes := #[] }] 33 0 #[] #[])
  fields := #[]
  methods := #[k0m0]
  instanceTypes := #[]
  staticTypes := #[]
  resolved := Array.replicate 124 none
  statics := none }

def pool1 : Array CpInfo := pool [(2, .class_ 4), (1, u "java/lang/Object"), (0, u "<init>"), (0, u "()V"), (0, .methodref 8 9), (0, .class_ 10), (0, .nameAndType 11 12), (0, u "com/example/pair_to_plane/pairtoplane/IntArraysRootOfPinLaw"), (0, u "f"), (0, u "(III)I"), (0, .integer 2147483647), (0, .methodref 15 16), (0, .class_ 17), (0, .nameAndType 18 19), (0, u "com/example/pair_to_plane/pairtoplane/IntArrays"), (0, u "rootOf"), (0, u "([II)I"), (0, .methodref 8 21), (0, .nameAndType 22 23), (0, u "check"), (0, u "([I[IIIIIIIII)Z"), (3, u "law"), (0, u "(IIII)Z")] 4

def k1m0 : Method := { name := "<init>", desc := "()V", sig := { parameters := [], returnType := none }, accessFlags := 1, code := none }
def k1c1 : Code := { maxStack := 2, maxLocals := 3, code := method_2_code, exceptionTable := #[], attributes := #[] }
def k1m1 : Method := { name := "f", desc := "(III)I", sig := { parameters := [.int, .int, .int], returnType := some .int }, accessFlags := 10, code := some k1c1 }
def k1c2 : Code := { maxStack := 4, maxLocals := 12, code := method_3_code, exceptionTable := #[], attributes := #[] }
def k1m2 : Method := { name := "check", desc := "([I[IIIIIIIII)Z", sig := { parameters := [(.array .int), (.array .int), .int, .int, .int, .int, .int, .int, .int, .int], returnType := some .boolean }, accessFlags := 10, code := some k1c2 }
def k1c3 : Code := { maxStack := 10, maxLocals := 17, code := code, exceptionTable := #[], attributes := #[] }
def k1m3 : Method := { name := "law", desc := "(IIII)Z", sig := { parameters := [.int, .int, .int, .int], returnType := some .boolean }, accessFlags := 9, code := some k1c3 }
/-- com/example/pair_to_plane/pairtoplane/IntArraysRootOfPinLaw -/
def k1 : Class := { plain "com/example/pair_to_plane/pairtoplane/IntArraysRootOfPinLaw" (some 0) with
  accessFlags := 49
  interfaces := #[]
  cf := some (fileOf pool1 8 #[] #[{ accessFlags := 1, nameIndex := 5, descriptorIndex := 6, attributes := #[] }, { accessFlags := 10, nameIndex := 11, descriptorIndex := 12, attributes := #[] }, { accessFlags := 10, nameIndex := 22, descriptorIndex := 23, attributes := #[] }, { accessFlags := 9, nameIndex := 27, descriptorIndex := 28, attributes := #[] }] 49 2 #[] #[])
  fields := #[]
  methods := #[k1m0, k1m1, k1m2, k1m3]
  instanceTypes := #[]
  staticTypes := #[]
  resolved := Array.replicate 33 none
  statics := none }

def pool2 : Array CpInfo := pool [(2, .class_ 4), (1, u "java/lang/Object"), (0, u "<init>"), (0, u "()V"), (7, .class_ 16), (1, u "com/example/pair_to_plane/pairtoplane/IntArrays"), (27, u "rootOf"), (0, u "([II)I")] 24

def k2m0 : Method := { name := "<init>", desc := "()V", sig := { parameters := [], returnType := none }, accessFlags := 2, code := none }
def k2c1 : Code := { maxStack := 3, maxLocals := 5, code := prog_5_method_3_code, exceptionTable := #[], attributes := #[] }
def k2m1 : Method := { name := "rootOf", desc := "([II)I", sig := { parameters := [(.array .int), .int], returnType := some .int }, accessFlags := 9, code := some k2c1 }
/-- com/example/pair_to_plane/pairtoplane/IntArrays -/
def k2 : Class := { plain "com/example/pair_to_plane/pairtoplane/IntArrays" (some 0) with
  accessFlags := 33
  interfaces := #[]
  cf := some (fileOf pool2 14 #[] #[{ accessFlags := 2, nameIndex := 5, descriptorIndex := 6, attributes := #[] }, { accessFlags := 9, nameIndex := 44, descriptorIndex := 45, attributes := #[] }] 33 2 #[] #[])
  fields := #[]
  methods := #[k2m0, k2m1]
  instanceTypes := #[]
  staticTypes := #[]
  resolved := Array.replicate 70 none
  statics := none }

def pool3 : Array CpInfo := pool [(1, u "java/lang/Cloneable"), (0, .class_ 1), (0, u "java/lang/Object"), (0, .class_ 3)] 3

/-- java/lang/Cloneable -/
def k3 : Class := { plain "java/lang/Cloneable" (some 0) with
  accessFlags := 1537
  interfaces := #[]
  cf := some (fileOf pool3 2 #[] #[] 1537 4 #[] #[])
  fields := #[]
  methods := #[]
  instanceTypes := #[]
  staticTypes := #[]
  resolved := Array.replicate 8 none
  statics := none }

def pool4 : Array CpInfo := pool [(1, u "java/io/Serializable"), (0, .class_ 1), (0, u "java/lang/Object"), (0, .class_ 3)] 3

/-- java/io/Serializable -/
def k4 : Class := { plain "java/io/Serializable" (some 0) with
  accessFlags := 1537
  interfaces := #[]
  cf := some (fileOf pool4 2 #[] #[] 1537 4 #[] #[])
  fields := #[]
  methods := #[]
  instanceTypes := #[]
  staticTypes := #[]
  resolved := Array.replicate 8 none
  statics := none }

/-- the primitive byte -/
def k5 : Class := { plain "byte" none with kind := .primitive 'B', accessFlags := 0x411 }
/-- [B -/
def k6 : Class := { plain "[B" (some 0) with kind := .array 5 .byte, interfaces := #[3, 4], accessFlags := 1041 }

/-- the primitive int -/
def k7 : Class := { plain "int" none with kind := .primitive 'I', accessFlags := 0x411 }
/-- [I -/
def k8 : Class := { plain "[I" (some 0) with kind := .array 7 .int, interfaces := #[3, 4], accessFlags := 1041 }

def heap : Heap := #[]
def classes : Array Class := #[k0, k1, k2, k3, k4, k5, k6, k7, k8]
def interned : List (Array UInt16 × Addr) := []
def slotsUsed : Nat := 0
def theMethod : MethodId := ⟨1, 3⟩
def args0 : Array Value := #[.int 5, .int 6, .int 7, .int 1]
def aboutOver (below : List Frame) : State where
  vm := { classes := classes, interned := interned.toArray }
  heap := heap
  slotsUsed := slotsUsed
  threads := #[{ frames := .invoking theMethod args0 :: below }]
def below0 : List Frame := [.native { method := ⟨0, 0⟩, args := #[] }]
def about1 : State := aboutOver below0
def p0 : Program := .bare "" "" ""
def e0 : Env := launch0.env 0 0 0
theorem w_frames : about1.frames = Frame.invoking theMethod args0 :: below0 := rfl
set_option maxRecDepth 65536 in
theorem w_args : argsFit about1.vm theMethod args0 = true := by decide +kernel
set_option maxRecDepth 65536 in
theorem w_heap : heapFits about1 = true := by decide +kernel
set_option maxRecDepth 65536 in
theorem w_runnable : about1.curStatus? = some .runnable := by decide +kernel
set_option maxRecDepth 65536 in
theorem w_alone : about1.alone = true := by decide +kernel
set_option maxRecDepth 65536 in
theorem w_named : about1.methodNamed? x = some theMethod := by decide +kernel
set_option maxRecDepth 65536 in
theorem w_hears : about1.hears theMethod below0 = true := by decide +kernel
set_option maxRecDepth 65536 in
theorem w_ripe : about1.ripe theMethod args0 below0 = true := by decide +kernel
theorem w_running : about1.status = .running := rfl
set_option maxRecDepth 65536 in
theorem w_room : about1.hasRoom e0.platform room_1 = true :=
  launch0.hasRoom_least _ room_1 (by decide +kernel) (by decide +kernel) (by decide +kernel) (by decide +kernel) (by decide +kernel) (by decide +kernel)
theorem allAtoms_all (ts : List Jvm.Cond) (a : Array Jvm.Value) (st : Jvm.State) : (allAtoms ts).before a st = ts.all (fun c => c.before a st) := by
  induction ts with
  | nil => rfl
  | cons c t ih =>
    show (Jvm.Cond.and c (allAtoms t)).before a st = _
    rw [Jvm.Cond.before_and, ih, List.all_cons]
def words1 : List Jvm.Cond := Jvm.Cond.code x code maxLocals ret :: tables_1
/-- a 'code' word, met by the world's own term for the bytes: nothing is compared byte by byte -/
theorem code_word {y : MethodName} {bytes : ByteArray} {mx : Nat} {rt : Option FieldType} {a : Array Value} {s : State} {m : MethodId} {meth : Method} {c : Code} (h1 : s.methodNamed? y = some m) (h2 : s.vm.method? m = some meth) (h3 : meth.code = some c) (h4 : c.code = bytes)
    (h5 : (c.maxLocals == mx && c.exceptionTable.isEmpty && decide (c.maxStack ≤ mostOperands) && decide (meth.sig.returnType = rt) && !meth.locks && decide (parseMethodDescriptor y.desc = some meth.sig)) = true) : (Jvm.Cond.code y bytes mx rt).before a s = true := by
  simp only [Bool.and_eq_true, beq_iff_eq, Bool.not_eq_true', decide_eq_true_eq] at h5
  obtain ⟨⟨⟨⟨⟨g1, g2⟩, g3⟩, g4⟩, g5⟩, g6⟩ := h5
  simp [Cond.before, Cond.holds, Cond.value, h1, h2, h3, h4, g1, g2, g3, g4, g5, g6]
def isCode : Jvm.Cond → Bool
  | .code _ _ _ _ => true
  | _ => false
theorem all_split {L : List Jvm.Cond} {P : Jvm.Cond → Bool} (h1 : L.all (fun c => isCode c || P c) = true) (h2 : ∀ c ∈ L.filter isCode, P c = true) : L.all P = true := by
  refine List.all_eq_true.mpr fun c hc => ?_
  have h := List.all_eq_true.mp h1 c hc
  rcases Bool.eq_false_or_eq_true (isCode c) with hi | hi
  · exact h2 c (List.mem_filter.mpr ⟨hc, hi⟩)
  · simpa [hi] using h
set_option maxRecDepth 65536 in
theorem w_c0 : (Jvm.Cond.code x code maxLocals ret).before args0 about1 = true := code_word (m := ⟨1, 3⟩) (meth := k1m3) (c := k1c3) (by decide +kernel) rfl rfl rfl (by decide +kernel)
set_option maxRecDepth 65536 in
theorem w_c1 : (Jvm.Cond.code ({ cls := "com/example/pair_to_plane/pairtoplane/IntArraysRootOfPinLaw", name := "f", desc := "(III)I" } : Jvm.MethodName) method_2_code (3 : Nat) (Option.some Jvm.ClassFile.FieldType.int)).before args0 about1 = true := code_word (m := ⟨1, 1⟩) (meth := k1m1) (c := k1c1) (by decide +kernel) rfl rfl rfl (by decide +kernel)
set_option maxRecDepth 65536 in
theorem w_c2 : (Jvm.Cond.code ({ cls := "com/example/pair_to_plane/pairtoplane/IntArrays", name := "rootOf", desc := "([II)I" } : Jvm.MethodName) prog_5_method_3_code (5 : Nat) (Option.some Jvm.ClassFile.FieldType.int)).before args0 about1 = true := code_word (m := ⟨2, 1⟩) (meth := k2m1) (c := k2c1) (by decide +kernel) rfl rfl rfl (by decide +kernel)
set_option maxRecDepth 65536 in
theorem w_c3 : (Jvm.Cond.code ({ cls := "com/example/pair_to_plane/pairtoplane/IntArraysRootOfPinLaw", name := "check", desc := "([I[IIIIIIIII)Z" } : Jvm.MethodName) method_3_code (12 : Nat) (Option.some Jvm.ClassFile.FieldType.boolean)).before args0 about1 = true := code_word (m := ⟨1, 2⟩) (meth := k1m2) (c := k1c2) (by decide +kernel) rfl rfl rfl (by decide +kernel)
def codes1 : List Jvm.Cond := [Jvm.Cond.code x code maxLocals ret, Jvm.Cond.code ({ cls := "com/example/pair_to_plane/pairtoplane/IntArraysRootOfPinLaw", name := "f", desc := "(III)I" } : Jvm.MethodName) method_2_code (3 : Nat) (Option.some Jvm.ClassFile.FieldType.int), Jvm.Cond.code ({ cls := "com/example/pair_to_plane/pairtoplane/IntArrays", name := "rootOf", desc := "([II)I" } : Jvm.MethodName) prog_5_method_3_code (5 : Nat) (Option.some Jvm.ClassFile.FieldType.int), Jvm.Cond.code ({ cls := "com/example/pair_to_plane/pairtoplane/IntArraysRootOfPinLaw", name := "check", desc := "([I[IIIIIIIII)Z" } : Jvm.MethodName) method_3_code (12 : Nat) (Option.some Jvm.ClassFile.FieldType.boolean)]
set_option maxRecDepth 65536 in
theorem codes_eq : words1.filter isCode = codes1 := rfl
theorem w_codes : ∀ c ∈ words1.filter isCode, c.before args0 about1 = true := by
  rw [codes_eq]
  intro c hc
  simp only [codes1, List.mem_cons, List.not_mem_nil, or_false] at hc
  rcases hc with rfl | rfl | rfl | rfl
  · exact w_c0
  · exact w_c1
  · exact w_c2
  · exact w_c3
set_option maxRecDepth 65536 in
theorem w_t1 : words1.all (fun c => isCode c || c.before args0 about1) = true := by decide +kernel
theorem w_tables : (allAtoms (Jvm.Cond.code x code maxLocals ret :: tables_1)).before args0 about1 = true := by
  rw [allAtoms_all]
  show words1.all (fun c => c.before args0 about1) = true
  refine all_split ?_ w_codes
  rw [w_t1]
set_option maxRecDepth 65536 in
theorem w_case : (Jvm.Cond.and given_1 narrow_1).before args0 about1 = true := by decide +kernel
theorem w_applies : (headSpec (Jvm.Cond.code x code maxLocals ret :: tables_1) room_1).applies x e0.platform about1 = true :=
  (Spec.applies_iff w_frames).mpr ⟨w_running, w_runnable, w_alone, w_named, w_hears, w_ripe, w_room, w_tables⟩
theorem atStart : AtStart classFile x code maxLocals ret World_1 tables_1 room_1 Calls_1 rest_1 Pre_1 launch0 p0 e0 about1 theMethod args0 below0 :=
  ⟨lists_1, trivial, launch0.admits_env _ _ _, launch0.least_env, fairChoices_fair.cas, fairChoices_fair.clock, w_frames, w_args, w_heap, w_applies, trivial, trivial, w_case⟩
end start1
theorem witness_1 : WitnessClaimed_1 := ⟨start1.p0, start1.e0, start1.about1, start1.theMethod, start1.args0, start1.below0, start1.atStart⟩
end Jvm.Pilot.@@N@@
