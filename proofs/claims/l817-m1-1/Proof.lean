import JvmDerived
import JvmDerived.Pilot.@@N@@Statement
import JvmDerived.Pilot.@@N@@Code
set_option linter.unusedVariables false
set_option linter.unusedSimpArgs false
namespace Jvm.OwnKit
open Sem ClassFile Op Lib Jvm.Stand Jvm.Free Jvm.LawKit Jvm.RoadKit
/-- what is fixed in the whole proof: the launch, the start (whose tables the words speak of), its arguments, the least new address -/
abbrev Gx := Launch × State × Array Value × Nat
abbrev Gx.l (G : Gx) : Launch := G.1
abbrev Gx.Z (G : Gx) : State := G.2.1
abbrev Gx.a0 (G : Gx) : Array Value := G.2.2.1
abbrev Gx.n0 (G : Gx) : Nat := G.2.2.2
/-- what is fixed in one body's walk -/
abbrev Kx := Program × Env × State × MethodId × Array Value × List Frame × Method × Code
abbrev Kx.p (K : Kx) : Program := K.1
abbrev Kx.e (K : Kx) : Env := K.2.1
abbrev Kx.s (K : Kx) : State := K.2.2.1
abbrev Kx.m (K : Kx) : MethodId := K.2.2.2.1
abbrev Kx.args (K : Kx) : Array Value := K.2.2.2.2.1
abbrev Kx.below (K : Kx) : List Frame := K.2.2.2.2.2.1
abbrev Kx.meth (K : Kx) : Method := K.2.2.2.2.2.2.1
abbrev Kx.c (K : Kx) : Code := K.2.2.2.2.2.2.2
def Cx (G : Gx) (K : Kx) (own nm : String) (bytes : ByteArray) (maxL : Nat) (ret : Option FieldType) (W : List Jvm.Cond) : Prop :=
  K.p.tables.exec = Jvm.exec ∧ G.Z.Warmed39 K.s.vm ∧ K.c.code = bytes ∧ K.c.maxLocals = maxL ∧ K.s.vm.findClass own = some K.m.cls ∧ K.meth.name = nm ∧ K.meth.sig.returnType = ret ∧ K.meth.locks = false ∧ ∀ d ∈ W, d.before G.a0 G.Z = true
section Cxs
variable {G : Gx} {K : Kx} {own nm : String} {bytes : ByteArray} {maxL : Nat} {ret : Option FieldType} {W : List Jvm.Cond}
theorem Cx.hx (C : Cx G K own nm bytes maxL ret W) : K.p.tables.exec = Jvm.exec := C.1
theorem Cx.hZ (C : Cx G K own nm bytes maxL ret W) : G.Z.Warmed39 K.s.vm := C.2.1
theorem Cx.by (C : Cx G K own nm bytes maxL ret W) : K.c.code = bytes := C.2.2.1
theorem Cx.ml (C : Cx G K own nm bytes maxL ret W) : K.c.maxLocals = maxL := C.2.2.2.1
theorem Cx.ow (C : Cx G K own nm bytes maxL ret W) : K.s.vm.findClass own = some K.m.cls := C.2.2.2.2.1
theorem Cx.name (C : Cx G K own nm bytes maxL ret W) : K.meth.name = nm := C.2.2.2.2.2.1
theorem Cx.rt (C : Cx G K own nm bytes maxL ret W) : K.meth.sig.returnType = ret := C.2.2.2.2.2.2.1
theorem Cx.lk (C : Cx G K own nm bytes maxL ret W) : K.meth.locks = false := C.2.2.2.2.2.2.2.1
theorem Cx.w (C : Cx G K own nm bytes maxL ret W) {i : Nat} {d : Jvm.Cond} (h : W[i]? = some d) : d.before G.a0 G.Z = true := C.2.2.2.2.2.2.2.2 d (List.mem_of_getElem? h)
end Cxs
/-- the run stands in this body at pc with these locals and this stack, over the heap h, having made so many cells and slots: it ends as Q says -/
def N (G : Gx) (K : Kx) (rm : Room) (Q : Option Value → Heap → Prop) (h : Heap) (cells slots pc : Nat) (ls : Array Slot) (st : List Value) : Prop :=
  ∀ (T : State) (locs : List Loc), Stand K.p G.l K.e rm K.s K.m K.args K.below K.meth K.c T locs cells slots → T.heap = h → Fr G.n0 locs →
    ∃ s₂ o, Steps K.p.tables K.e K.below (T.setTop (mkF K.m pc ls st)) s₂ ∧ s₂.status = .running ∧ Ended s₂ K.below o ∧ ∃ v L, o = .returned v ∧ (Q v s₂.heap ∧ Fr G.n0 L) ∧ FrameEnd K.s o s₂ L rm.cells rm.slots
/-- a body's contract -/
def Con (G : Gx) (y : MethodName) (bytes : ByteArray) (maxL : Nat) (ret : Option FieldType) (rm : Room) (as : Array Value) (h : Heap) (Q : Option Value → Heap → Prop) : Prop :=
  ∀ ws : List Jvm.Cond, MetFree G.l y (head1 (Jvm.Cond.code y bytes maxL ret :: ws) rm) (fun a U => a = as ∧ G.Z.Warmed39 U.vm ∧ U.heap = h) (fun _ _ _ _ _ => True) (fun _ U o U' => ∃ v L, o = .returned v ∧ (Q v U'.heap ∧ Fr G.n0 L) ∧ FrameEnd U o U' L rm.cells rm.slots)
theorem Con.of {G : Gx} {y : MethodName} {bytes : ByteArray} {maxL : Nat} {ret : Option FieldType} {rm : Room} {as : Array Value} {h : Heap} {Q : Option Value → Heap → Prop} {W : List Jvm.Cond} {ls : Array Slot} (hpl : plainFor y = true) (hW : ∀ d ∈ W, d.before G.a0 G.Z = true)
    (he : ∀ m, entryFrame m as maxL = mkF m 0 ls []) (body : ∀ K : Kx, Cx G K y.cls y.name bytes maxL ret W → N G K rm Q h 0 0 0 ls []) : Con G y bytes maxL ret rm as h Q := fun ws => by
  refine MetFree.of_bodySF hpl hisR ?_
  intro p e s m args below meth c s₁ Bd hml hP hK
  obtain ⟨rfl, hZ, hh⟩ := hP
  have X0 : Stand p G.l e rm s m args below meth c s₁ [] 0 0 := Stand.of_body Bd
  obtain ⟨s₂, o, h1, h2, h3, h4⟩ := body (p, e, s, m, args, below, meth, c) ⟨Bd.exec, hZ, Bd.bytes, hml, findClass_of_methodNamed Bd.named, (name_of_methodNamed Bd.named Bd.method).1, Bd.returns, BodyLoose.notSynchronized Bd, hW⟩ s₁ [] X0 (by rw [← hh, Bd.state]; rfl) (Fr.nil _)
  exact ⟨s₂, o, castTop (he m) h1, h2, h3, h4⟩
theorem Con.mono {G : Gx} {y : MethodName} {bytes : ByteArray} {maxL : Nat} {ret : Option FieldType} {rm : Room} {as : Array Value} {h : Heap} {Q Q' : Option Value → Heap → Prop} (M : Con G y bytes maxL ret rm as h Q) (f : ∀ v h', Q v h' → Q' v h') : Con G y bytes maxL ret rm as h Q' := fun ws p e ha hc hk s m args below hf happ hP hK => by
  obtain ⟨n, o, h1, h2, h3, v, L, h4, ⟨h5, h6⟩, h7⟩ := M ws p e ha hc hk s m args below hf happ hP hK
  exact ⟨n, o, h1, h2, h3, v, L, h4, ⟨f _ _ h5, h6⟩, h7⟩
def cmpP : ClassFile.Cond → Int32 → Int32 → Prop
  | .eq, x, y => x = y
  | .ne, x, y => ¬ x = y
  | .lt, x, y => x.toInt < y.toInt
  | .ge, x, y => y.toInt ≤ x.toInt
  | .gt, x, y => y.toInt < x.toInt
  | .le, x, y => x.toInt ≤ y.toInt
def cmpN : ClassFile.Cond → Int32 → Int32 → Prop
  | .eq, x, y => ¬ x = y
  | .ne, x, y => x = y
  | .lt, x, y => y.toInt ≤ x.toInt
  | .ge, x, y => x.toInt < y.toInt
  | .gt, x, y => x.toInt ≤ y.toInt
  | .le, x, y => y.toInt < x.toInt
theorem cmp_or (cd : ClassFile.Cond) (x y : Int32) : (if_icmp.holds cd x y = true ∧ cmpP cd x y) ∨ (if_icmp.holds cd x y = false ∧ cmpN cd x y) := by
  have e1 := @Int32.lt_iff_toInt_lt x y
  have e2 := @Int32.lt_iff_toInt_lt y x
  by_cases h1 : x < y
  · obtain ⟨a1, a2, a3, a4⟩ := tlt h1
    have q := e1.mp h1
    have n : ¬ x = y := fun e => by subst e; omega
    obtain ⟨b1, b2⟩ := feq n
    have n' : ¬ y < x := fun z => by have := e2.mp z; omega
    obtain ⟨c1, c2, c3, c4⟩ := flt n'
    cases cd <;> simp only [cmpP, cmpN] <;> simp_all <;> omega
  · obtain ⟨a1, a2, a3, a4⟩ := flt h1
    have q : ¬ x.toInt < y.toInt := fun z => h1 (e1.mpr z)
    by_cases h2 : x = y
    · obtain ⟨b1, b2⟩ := teq h2
      subst h2
      obtain ⟨c1, c2, c3, c4⟩ := flt h1
      cases cd <;> simp only [cmpP, cmpN] <;> simp_all
    · obtain ⟨b1, b2⟩ := feq h2
      have q2 : ¬ x.toInt = y.toInt := fun z => h2 (Int32.toInt_inj.mp z)
      obtain ⟨c1, c2, c3, c4⟩ := tlt (e2.mpr (by omega : y.toInt < x.toInt))
      cases cd <;> simp only [cmpP, cmpN] <;> simp_all <;> omega
def cmpPL : ClassFile.Cond → Int64 → Int64 → Prop
  | .eq, x, y => x = y
  | .ne, x, y => ¬ x = y
  | .lt, x, y => x.toInt < y.toInt
  | .ge, x, y => y.toInt ≤ x.toInt
  | .gt, x, y => y.toInt < x.toInt
  | .le, x, y => x.toInt ≤ y.toInt
def cmpNL : ClassFile.Cond → Int64 → Int64 → Prop
  | .eq, x, y => ¬ x = y
  | .ne, x, y => x = y
  | .lt, x, y => y.toInt ≤ x.toInt
  | .ge, x, y => x.toInt < y.toInt
  | .gt, x, y => x.toInt ≤ y.toInt
  | .le, x, y => y.toInt < x.toInt
theorem cmp_orL (cd : ClassFile.Cond) (x y : Int64) : (ifCond.holds cd (lcmpW x y) = true ∧ cmpPL cd x y) ∨ (ifCond.holds cd (lcmpW x y) = false ∧ cmpNL cd x y) := by
  have hl : (lcmpW x y).toInt < (0 : Int32).toInt ↔ x.toInt < y.toInt := by rw [← Int32.lt_iff_toInt_lt, ← Int64.lt_iff_toInt_lt]; exact lw_lt x y
  have hg : (0 : Int32).toInt < (lcmpW x y).toInt ↔ y.toInt < x.toInt := by rw [← Int32.lt_iff_toInt_lt, ← Int64.lt_iff_toInt_lt]; exact lw_gt x y
  have he := lw_eq x y
  generalize lcmpW x y = z at *
  rw [if0]
  rcases cmp_or cd z 0 with ⟨h1, h2⟩ | ⟨h1, h2⟩
  · refine Or.inl ⟨h1, ?_⟩
    cases cd <;> simp only [cmpP, cmpPL] at h2 ⊢ <;> first | exact he.mp h2 | exact fun q => h2 (he.mpr q) | omega
  · refine Or.inr ⟨h1, ?_⟩
    cases cd <;> simp only [cmpN, cmpNL] at h2 ⊢ <;> first | exact he.mp h2 | exact fun q => h2 (he.mpr q) | omega
/-- the array at x, of that type, holds just these -/
def Av (Z : State) (h : Heap) (x : Addr) (ty : FieldType) (vs : List Value) : Prop := ∃ c : Cell, Arr Z h x c ty ∧ c.slots.toList = vs
theorem ix {j : Int32} {i : Nat} (h : j.toInt = (i : Int)) : ¬ j < 0 ∧ j.toNatClampNeg = i := by
  refine ⟨fun q => ?_, ?_⟩
  · have := Int32.lt_iff_toInt_lt.mp q
    have e0 : (0 : Int32).toInt = 0 := by decide
    omega
  · show j.toInt.toNat = i
    omega
theorem ixin {j : Int32} {i n : Nat} (h : j.toInt = (i : Int)) (hi : i < n) : ¬ (j < 0 ∨ n ≤ j.toNatClampNeg) := by
  obtain ⟨h1, h2⟩ := ix h
  rintro (q | q)
  · exact h1 q
  · omega
theorem eqI {x y : Int32} (h : x = y) : x.toInt = y.toInt := h ▸ rfl
theorem neI {x y : Int32} (h : ¬ x = y) : ¬ x.toInt = y.toInt := fun q => h (Int32.toInt_inj.mp q)
theorem eqL {x y : Int64} (h : x = y) : x.toInt = y.toInt := h ▸ rfl
theorem neL {x y : Int64} (h : ¬ x = y) : ¬ x.toInt = y.toInt := fun q => h (Int64.toInt_inj.mp q)
section Avs
variable {Z : State} {h h' : Heap} {x y : Addr} {ty : FieldType} {vs : List Value} {i : Nat} {v : Value} {sl : Nat} {ws : List Addr}
theorem Av.lt (A : Av Z h x ty vs) : x < h.size := by obtain ⟨c, A, -⟩ := A; exact A.lt
theorem Av.ext (A : Av Z h x ty vs) (E : Ext h h') : Av Z h' x ty vs := by obtain ⟨c, A, r⟩ := A; exact ⟨c, A.ext E, r⟩
theorem Av.other (A : Av Z h x ty vs) (W : Wr h h' y sl v) (q : x ≠ y) : Av Z h' x ty vs := by obtain ⟨c, A, r⟩ := A; exact ⟨c, A.other W q, r⟩
theorem Av.keep (A : Av Z h x ty vs) (K : Keep h h' ws) (q : x ∉ ws) : Av Z h' x ty vs := by obtain ⟨c, A, r⟩ := A; exact ⟨c, ⟨K.2.1 x c A.1 q, A.2⟩, r⟩
theorem Av.same (A : Av Z h x ty vs) (W : Wr h h' x i v) : Av Z h' x ty (vs.set i v) := by
  obtain ⟨c, A, rfl⟩ := A
  exact ⟨_, A.same W, by simp [Cell.setSlot]⟩
theorem Av.new {k : ClassId} {z : Int32} (A : Arr Z h x (newA k ty z) ty) : Av Z h x ty (List.replicate z.toNatClampNeg (defaultValue ty)) := ⟨_, A, by simp [newA]⟩
end Avs
section Rules
variable {G : Gx} {K : Kx} {rm : Room} {own nm : String} {bytes : ByteArray} {maxL : Nat} {ret : Option FieldType} {W : List Jvm.Cond} {Q Q' : Option Value → Heap → Prop} {h : Heap} {a b pc pc' : Nat} {ls ls' : Array Slot} {st st' : List Value}
theorem N.step (f : ∀ T, At T K.m K.c K.below → ∀ t, Steps K.p.tables K.e K.below (T.setTop (mkF K.m pc' ls' st')) t → Steps K.p.tables K.e K.below (T.setTop (mkF K.m pc ls st)) t) (k : N G K rm Q h a b pc' ls' st') : N G K rm Q h a b pc ls st := fun T locs X e F => by
  obtain ⟨s₂, o, hs, r⟩ := k T locs X e F
  exact ⟨s₂, o, f T X.here _ hs, r⟩
theorem N.stX (f : ∀ (T : State) (locs : List Loc), Stand K.p G.l K.e rm K.s K.m K.args K.below K.meth K.c T locs a b → T.heap = h → ∀ t, Steps K.p.tables K.e K.below (T.setTop (mkF K.m pc' ls' st')) t → Steps K.p.tables K.e K.below (T.setTop (mkF K.m pc ls st)) t) (k : N G K rm Q h a b pc' ls' st') : N G K rm Q h a b pc ls st := fun T locs X e F => by
  obtain ⟨s₂, o, hs, r⟩ := k T locs X e F
  exact ⟨s₂, o, f T locs X e _ hs, r⟩
theorem N.mono (k : N G K rm Q h a b pc ls st) (f : ∀ v h', Q v h' → Q' v h') : N G K rm Q' h a b pc ls st := fun T locs X e F => by
  obtain ⟨s₂, o, h1, h2, h3, v, L, h4, ⟨h5, h6⟩, h7⟩ := k T locs X e F
  exact ⟨s₂, o, h1, h2, h3, v, L, h4, ⟨f _ _ h5, h6⟩, h7⟩
theorem N.more {a' b' : Nat} (k : N G K rm Q h a' b' pc ls st) (ha : a ≤ a') (hb : b ≤ b') : N G K rm Q h a b pc ls st := fun T locs X e F => k T locs (X.more ha hb) e F

theorem N.iload (C : Cx G K own nm bytes maxL ret W) {k : Nat} {v : Int32} (hd : decode bytes pc = .ok (.iload k, 2)) (hl : ls[k]? = some (.val (.int v))) (hp : pc + 2 = pc') (k : N G K rm Q h a b pc' ls (.int v :: st)) : N G K rm Q h a b pc ls (st) := by
  subst hp; exact N.step (fun T A t ht => XS.iload A C.hx rfl (hb C.by hd) hl ht) k
theorem N.iloadN (C : Cx G K own nm bytes maxL ret W) {k : Fin 4} {v : Int32} (hd : decode bytes pc = .ok (.iload_n k, 1)) (hl : ls[k.val]? = some (.val (.int v))) (hp : pc + 1 = pc') (k : N G K rm Q h a b pc' ls (.int v :: st)) : N G K rm Q h a b pc ls (st) := by
  subst hp; exact N.step (fun T A t ht => XS.iloadN A C.hx rfl (hb C.by hd) hl ht) k
theorem N.istore (C : Cx G K own nm bytes maxL ret W) {k : Nat} {v : Int32} (hd : decode bytes pc = .ok (.istore k, 2)) (hl : storeLocals ls k (.int v) = some ls') (hp : pc + 2 = pc') (k : N G K rm Q h a b pc' ls' (st)) : N G K rm Q h a b pc ls (.int v :: st) := by
  subst hp; exact N.step (fun T A t ht => XS.istore A C.hx rfl (hb C.by hd) rfl hl ht) k
theorem N.istoreN (C : Cx G K own nm bytes maxL ret W) {k : Fin 4} {v : Int32} (hd : decode bytes pc = .ok (.istore_n k, 1)) (hl : storeLocals ls k.val (.int v) = some ls') (hp : pc + 1 = pc') (k : N G K rm Q h a b pc' ls' (st)) : N G K rm Q h a b pc ls (.int v :: st) := by
  subst hp; exact N.step (fun T A t ht => XS.istoreN A C.hx rfl (hb C.by hd) rfl hl ht) k
theorem N.iadd (C : Cx G K own nm bytes maxL ret W) {x y : Int32} (hd : decode bytes pc = .ok (.iadd, 1)) (hp : pc + 1 = pc') (k : N G K rm Q h a b pc' ls (.int (x + y) :: st)) : N G K rm Q h a b pc ls (.int y :: .int x :: st) := by
  subst hp; exact N.step (fun T A t ht => XS.iadd A C.hx rfl (hb C.by hd) rfl ht) k
theorem N.isub (C : Cx G K own nm bytes maxL ret W) {x y : Int32} (hd : decode bytes pc = .ok (.isub, 1)) (hp : pc + 1 = pc') (k : N G K rm Q h a b pc' ls (.int (x - y) :: st)) : N G K rm Q h a b pc ls (.int y :: .int x :: st) := by
  subst hp; exact N.step (fun T A t ht => XS.isub A C.hx rfl (hb C.by hd) rfl ht) k
theorem N.imul (C : Cx G K own nm bytes maxL ret W) {x y : Int32} (hd : decode bytes pc = .ok (.imul, 1)) (hp : pc + 1 = pc') (k : N G K rm Q h a b pc' ls (.int (x * y) :: st)) : N G K rm Q h a b pc ls (.int y :: .int x :: st) := by
  subst hp; exact N.step (fun T A t ht => XS.imul A C.hx rfl (hb C.by hd) rfl ht) k
theorem N.iand (C : Cx G K own nm bytes maxL ret W) {x y : Int32} (hd : decode bytes pc = .ok (.iand, 1)) (hp : pc + 1 = pc') (k : N G K rm Q h a b pc' ls (.int (x &&& y) :: st)) : N G K rm Q h a b pc ls (.int y :: .int x :: st) := by
  subst hp; exact N.step (fun T A t ht => XS.iand A C.hx rfl (hb C.by hd) rfl ht) k
theorem N.ior (C : Cx G K own nm bytes maxL ret W) {x y : Int32} (hd : decode bytes pc = .ok (.ior, 1)) (hp : pc + 1 = pc') (k : N G K rm Q h a b pc' ls (.int (x ||| y) :: st)) : N G K rm Q h a b pc ls (.int y :: .int x :: st) := by
  subst hp; exact N.step (fun T A t ht => XS.ior A C.hx rfl (hb C.by hd) rfl ht) k
theorem N.ixor (C : Cx G K own nm bytes maxL ret W) {x y : Int32} (hd : decode bytes pc = .ok (.ixor, 1)) (hp : pc + 1 = pc') (k : N G K rm Q h a b pc' ls (.int (x ^^^ y) :: st)) : N G K rm Q h a b pc ls (.int y :: .int x :: st) := by
  subst hp; exact N.step (fun T A t ht => XS.ixor A C.hx rfl (hb C.by hd) rfl ht) k
theorem N.idiv (C : Cx G K own nm bytes maxL ret W) {x y : Int32} (hd : decode bytes pc = .ok (.idiv, 1)) (hy : y ≠ 0) (hp : pc + 1 = pc') (k : N G K rm Q h a b pc' ls (.int (x / y) :: st)) : N G K rm Q h a b pc ls (.int y :: .int x :: st) := by
  subst hp; exact N.step (fun T A t ht => XS.idiv A C.hx rfl (hb C.by hd) rfl hy ht) k
theorem N.ineg (C : Cx G K own nm bytes maxL ret W) {x : Int32} (hd : decode bytes pc = .ok (.ineg, 1)) (hp : pc + 1 = pc') (k : N G K rm Q h a b pc' ls (.int (-x) :: st)) : N G K rm Q h a b pc ls (.int x :: st) := by
  subst hp; exact N.step (fun T A t ht => XS.ineg A C.hx rfl (hb C.by hd) rfl ht) k
theorem N.lload (C : Cx G K own nm bytes maxL ret W) {k : Nat} {v : Int64} (hd : decode bytes pc = .ok (.lload k, 2)) (hl : ls[k]? = some (.val (.long v))) (hp : pc + 2 = pc') (k : N G K rm Q h a b pc' ls (.long v :: st)) : N G K rm Q h a b pc ls (st) := by
  subst hp; exact N.step (fun T A t ht => XS.lload A C.hx rfl (hb C.by hd) hl ht) k
theorem N.lloadN (C : Cx G K own nm bytes maxL ret W) {k : Fin 4} {v : Int64} (hd : decode bytes pc = .ok (.lload_n k, 1)) (hl : ls[k.val]? = some (.val (.long v))) (hp : pc + 1 = pc') (k : N G K rm Q h a b pc' ls (.long v :: st)) : N G K rm Q h a b pc ls (st) := by
  subst hp; exact N.step (fun T A t ht => XS.lloadN A C.hx rfl (hb C.by hd) hl ht) k
theorem N.lstore (C : Cx G K own nm bytes maxL ret W) {k : Nat} {v : Int64} (hd : decode bytes pc = .ok (.lstore k, 2)) (hl : storeLocals ls k (.long v) = some ls') (hp : pc + 2 = pc') (k : N G K rm Q h a b pc' ls' (st)) : N G K rm Q h a b pc ls (.long v :: st) := by
  subst hp; exact N.step (fun T A t ht => XS.lstore A C.hx rfl (hb C.by hd) rfl hl ht) k
theorem N.lstoreN (C : Cx G K own nm bytes maxL ret W) {k : Fin 4} {v : Int64} (hd : decode bytes pc = .ok (.lstore_n k, 1)) (hl : storeLocals ls k.val (.long v) = some ls') (hp : pc + 1 = pc') (k : N G K rm Q h a b pc' ls' (st)) : N G K rm Q h a b pc ls (.long v :: st) := by
  subst hp; exact N.step (fun T A t ht => XS.lstoreN A C.hx rfl (hb C.by hd) rfl hl ht) k
theorem N.ladd (C : Cx G K own nm bytes maxL ret W) {x y : Int64} (hd : decode bytes pc = .ok (.ladd, 1)) (hp : pc + 1 = pc') (k : N G K rm Q h a b pc' ls (.long (x + y) :: st)) : N G K rm Q h a b pc ls (.long y :: .long x :: st) := by
  subst hp; exact N.step (fun T A t ht => XS.ladd A C.hx rfl (hb C.by hd) rfl ht) k
theorem N.lsub (C : Cx G K own nm bytes maxL ret W) {x y : Int64} (hd : decode bytes pc = .ok (.lsub, 1)) (hp : pc + 1 = pc') (k : N G K rm Q h a b pc' ls (.long (x - y) :: st)) : N G K rm Q h a b pc ls (.long y :: .long x :: st) := by
  subst hp; exact N.step (fun T A t ht => XS.lsub A C.hx rfl (hb C.by hd) rfl ht) k
theorem N.lmul (C : Cx G K own nm bytes maxL ret W) {x y : Int64} (hd : decode bytes pc = .ok (.lmul, 1)) (hp : pc + 1 = pc') (k : N G K rm Q h a b pc' ls (.long (x * y) :: st)) : N G K rm Q h a b pc ls (.long y :: .long x :: st) := by
  subst hp; exact N.step (fun T A t ht => XS.lmul A C.hx rfl (hb C.by hd) rfl ht) k
theorem N.land (C : Cx G K own nm bytes maxL ret W) {x y : Int64} (hd : decode bytes pc = .ok (.land, 1)) (hp : pc + 1 = pc') (k : N G K rm Q h a b pc' ls (.long (x &&& y) :: st)) : N G K rm Q h a b pc ls (.long y :: .long x :: st) := by
  subst hp; exact N.step (fun T A t ht => XS.land A C.hx rfl (hb C.by hd) rfl ht) k
theorem N.lor (C : Cx G K own nm bytes maxL ret W) {x y : Int64} (hd : decode bytes pc = .ok (.lor, 1)) (hp : pc + 1 = pc') (k : N G K rm Q h a b pc' ls (.long (x ||| y) :: st)) : N G K rm Q h a b pc ls (.long y :: .long x :: st) := by
  subst hp; exact N.step (fun T A t ht => XS.lor A C.hx rfl (hb C.by hd) rfl ht) k
theorem N.lxor (C : Cx G K own nm bytes maxL ret W) {x y : Int64} (hd : decode bytes pc = .ok (.lxor, 1)) (hp : pc + 1 = pc') (k : N G K rm Q h a b pc' ls (.long (x ^^^ y) :: st)) : N G K rm Q h a b pc ls (.long y :: .long x :: st) := by
  subst hp; exact N.step (fun T A t ht => XS.lxor A C.hx rfl (hb C.by hd) rfl ht) k
theorem N.ldiv (C : Cx G K own nm bytes maxL ret W) {x y : Int64} (hd : decode bytes pc = .ok (.ldiv, 1)) (hy : y ≠ 0) (hp : pc + 1 = pc') (k : N G K rm Q h a b pc' ls (.long (x / y) :: st)) : N G K rm Q h a b pc ls (.long y :: .long x :: st) := by
  subst hp; exact N.step (fun T A t ht => XS.ldiv A C.hx rfl (hb C.by hd) rfl hy ht) k
theorem N.lneg (C : Cx G K own nm bytes maxL ret W) {x : Int64} (hd : decode bytes pc = .ok (.lneg, 1)) (hp : pc + 1 = pc') (k : N G K rm Q h a b pc' ls (.long (-x) :: st)) : N G K rm Q h a b pc ls (.long x :: st) := by
  subst hp; exact N.step (fun T A t ht => XS.lneg A C.hx rfl (hb C.by hd) rfl ht) k
theorem N.irem (C : Cx G K own nm bytes maxL ret W) {x y : Int32} (hd : decode bytes pc = .ok (.irem, 1)) (hy : y ≠ 0) (hp : pc + 1 = pc') (k : N G K rm Q h a b pc' ls (.int (x % y) :: st)) : N G K rm Q h a b pc ls (.int y :: .int x :: st) := by
  subst hp; exact N.step (fun T A t ht => XS.irem A C.hx rfl (hb C.by hd) rfl hy (by rw [irem_eq_mod]; exact ht)) k
theorem N.lrem (C : Cx G K own nm bytes maxL ret W) {x y : Int64} (hd : decode bytes pc = .ok (.lrem, 1)) (hy : y ≠ 0) (hp : pc + 1 = pc') (k : N G K rm Q h a b pc' ls (.long (x % y) :: st)) : N G K rm Q h a b pc ls (.long y :: .long x :: st) := by
  subst hp; exact N.step (fun T A t ht => XS.lrem A C.hx rfl (hb C.by hd) rfl hy (by rw [lrem_mod]; exact ht)) k
theorem N.aload (C : Cx G K own nm bytes maxL ret W) {k : Nat} {v : Value} (hd : decode bytes pc = .ok (.aload k, 2)) (hl : ls[k]? = some (.val v)) (hv : v.isRef = true) (hp : pc + 2 = pc') (k : N G K rm Q h a b pc' ls (v :: st)) : N G K rm Q h a b pc ls (st) := by
  subst hp; exact N.step (fun T A t ht => XS.aload A C.hx rfl (hb C.by hd) hl hv ht) k
theorem N.aloadN (C : Cx G K own nm bytes maxL ret W) {k : Fin 4} {v : Value} (hd : decode bytes pc = .ok (.aload_n k, 1)) (hl : ls[k.val]? = some (.val v)) (hv : v.isRef = true) (hp : pc + 1 = pc') (k : N G K rm Q h a b pc' ls (v :: st)) : N G K rm Q h a b pc ls (st) := by
  subst hp; exact N.step (fun T A t ht => XS.aloadN A C.hx rfl (hb C.by hd) hl hv ht) k
theorem N.astore (C : Cx G K own nm bytes maxL ret W) {k : Nat} {v : Value} (hd : decode bytes pc = .ok (.astore k, 2)) (hv : v.isRef = true) (hl : storeLocals ls k v = some ls') (hp : pc + 2 = pc') (k : N G K rm Q h a b pc' ls' (st)) : N G K rm Q h a b pc ls (v :: st) := by
  subst hp; exact N.step (fun T A t ht => XS.astore A C.hx rfl (hb C.by hd) rfl hv hl ht) k
theorem N.astoreN (C : Cx G K own nm bytes maxL ret W) {k : Fin 4} {v : Value} (hd : decode bytes pc = .ok (.astore_n k, 1)) (hv : v.isRef = true) (hl : storeLocals ls k.val v = some ls') (hp : pc + 1 = pc') (k : N G K rm Q h a b pc' ls' (st)) : N G K rm Q h a b pc ls (v :: st) := by
  subst hp; exact N.step (fun T A t ht => XS.astoreN A C.hx rfl (hb C.by hd) rfl hv hl ht) k
theorem N.iconst (C : Cx G K own nm bytes maxL ret W) {i : Int} {z : Int32} (hd : decode bytes pc = .ok (.iconst i, 1)) (hz : Int32.ofInt i = z) (hp : pc + 1 = pc') (k : N G K rm Q h a b pc' ls (.int z :: st)) : N G K rm Q h a b pc ls st := by
  subst hp hz; exact N.step (fun T A t ht => XS.iconst A C.hx rfl (hb C.by hd) ht) k
theorem N.bipush (C : Cx G K own nm bytes maxL ret W) {i : Int} {z : Int32} (hd : decode bytes pc = .ok (.bipush i, 2)) (hz : (Int8.ofInt i).toInt32 = z) (hp : pc + 2 = pc') (k : N G K rm Q h a b pc' ls (.int z :: st)) : N G K rm Q h a b pc ls st := by
  subst hp hz; exact N.step (fun T A t ht => XS.bipush A C.hx rfl (hb C.by hd) ht) k
theorem N.sipush (C : Cx G K own nm bytes maxL ret W) {i : Int} {z : Int32} (hd : decode bytes pc = .ok (.sipush i, 3)) (hz : (Int16.ofInt i).toInt32 = z) (hp : pc + 3 = pc') (k : N G K rm Q h a b pc' ls (.int z :: st)) : N G K rm Q h a b pc ls st := by
  subst hp hz; exact N.step (fun T A t ht => XS.sipush A C.hx rfl (hb C.by hd) ht) k
theorem N.lconst (C : Cx G K own nm bytes maxL ret W) {k : Fin 2} {z : Int64} (hd : decode bytes pc = .ok (.lconst k, 1)) (hz : Int64.ofNat k = z) (hp : pc + 1 = pc') (k : N G K rm Q h a b pc' ls (.long z :: st)) : N G K rm Q h a b pc ls st := by
  subst hp hz; exact N.step (fun T A t ht => XS.lconst A C.hx rfl (hb C.by hd) ht) k
theorem N.aconst_null (C : Cx G K own nm bytes maxL ret W)  (hd : decode bytes pc = .ok (.aconst_null, 1)) (hp : pc + 1 = pc') (k : N G K rm Q h a b pc' ls (.null :: st)) : N G K rm Q h a b pc ls (st) := by
  subst hp; exact N.step (fun T A t ht => XS.aconstNull A C.hx rfl (hb C.by hd)  ht) k
theorem N.dup (C : Cx G K own nm bytes maxL ret W) {v : Value} (hd : decode bytes pc = .ok (.dup, 1)) (hc : v.category = 1) (hp : pc + 1 = pc') (k : N G K rm Q h a b pc' ls (v :: v :: st)) : N G K rm Q h a b pc ls (v :: st) := by
  subst hp; exact N.step (fun T A t ht => XS.dup A C.hx rfl (hb C.by hd) rfl hc ht) k
theorem N.pop (C : Cx G K own nm bytes maxL ret W) {v : Value} (hd : decode bytes pc = .ok (.pop, 1)) (hc : v.category = 1) (hp : pc + 1 = pc') (k : N G K rm Q h a b pc' ls (st)) : N G K rm Q h a b pc ls (v :: st) := by
  subst hp; exact N.step (fun T A t ht => XS.pop A C.hx rfl (hb C.by hd) rfl hc ht) k
theorem N.dup_x1 (C : Cx G K own nm bytes maxL ret W) {v w : Value} (hd : decode bytes pc = .ok (.dup_x1, 1)) (hc : v.category = 1) (hc' : w.category = 1) (hp : pc + 1 = pc') (k : N G K rm Q h a b pc' ls (v :: w :: v :: st)) : N G K rm Q h a b pc ls (v :: w :: st) := by
  subst hp; exact N.step (fun T A t ht => XS.dupX1 A C.hx rfl (hb C.by hd) rfl hc hc' ht) k
theorem N.dup2 (C : Cx G K own nm bytes maxL ret W) {v w : Value} (hd : decode bytes pc = .ok (.dup2, 1)) (hc : v.category = 1) (hc' : w.category = 1) (hp : pc + 1 = pc') (k : N G K rm Q h a b pc' ls (v :: w :: v :: w :: st)) : N G K rm Q h a b pc ls (v :: w :: st) := by
  subst hp; exact N.step (fun T A t ht => XT.dup2 A C.hx rfl (hb C.by hd) rfl hc hc' ht) k
theorem N.dup2L (C : Cx G K own nm bytes maxL ret W) {x : Int64} (hd : decode bytes pc = .ok (.dup2, 1)) (hp : pc + 1 = pc') (k : N G K rm Q h a b pc' ls (.long x :: .long x :: st)) : N G K rm Q h a b pc ls (.long x :: st) := by
  subst hp; exact N.step (fun T A t ht => XT.dup2L A C.hx rfl (hb C.by hd) rfl ht) k
theorem N.i2l (C : Cx G K own nm bytes maxL ret W) {x : Int32} (hd : decode bytes pc = .ok (.i2l, 1)) (hp : pc + 1 = pc') (k : N G K rm Q h a b pc' ls (.long (x.toInt64) :: st)) : N G K rm Q h a b pc ls (.int x :: st) := by
  subst hp; exact N.step (fun T A t ht => XS.i2l A C.hx rfl (hb C.by hd) rfl ht) k
theorem N.l2i (C : Cx G K own nm bytes maxL ret W) {x : Int64} (hd : decode bytes pc = .ok (.l2i, 1)) (hp : pc + 1 = pc') (k : N G K rm Q h a b pc' ls (.int (x.toInt32) :: st)) : N G K rm Q h a b pc ls (.long x :: st) := by
  subst hp; exact N.step (fun T A t ht => XS.l2i A C.hx rfl (hb C.by hd) rfl ht) k
theorem N.i2b (C : Cx G K own nm bytes maxL ret W) {x : Int32} (hd : decode bytes pc = .ok (.i2b, 1)) (hp : pc + 1 = pc') (k : N G K rm Q h a b pc' ls (.int (x.toInt8.toInt32) :: st)) : N G K rm Q h a b pc ls (.int x :: st) := by
  subst hp; exact N.step (fun T A t ht => XS.i2b A C.hx rfl (hb C.by hd) rfl ht) k
theorem N.i2s (C : Cx G K own nm bytes maxL ret W) {x : Int32} (hd : decode bytes pc = .ok (.i2s, 1)) (hp : pc + 1 = pc') (k : N G K rm Q h a b pc' ls (.int (x.toInt16.toInt32) :: st)) : N G K rm Q h a b pc ls (.int x :: st) := by
  subst hp; exact N.step (fun T A t ht => XS.i2s A C.hx rfl (hb C.by hd) rfl ht) k
theorem N.i2c (C : Cx G K own nm bytes maxL ret W) {x : Int32} (hd : decode bytes pc = .ok (.i2c, 1)) (hp : pc + 1 = pc') (k : N G K rm Q h a b pc' ls (.int (x.toUInt32.toUInt16.toUInt32.toInt32) :: st)) : N G K rm Q h a b pc ls (.int x :: st) := by
  subst hp; exact N.step (fun T A t ht => XS.i2c A C.hx rfl (hb C.by hd) rfl ht) k
theorem N.ishl (C : Cx G K own nm bytes maxL ret W) {x y : Int32} (hd : decode bytes pc = .ok (.ishl, 1)) (hp : pc + 1 = pc') (k : N G K rm Q h a b pc' ls (.int (x <<< (y &&& 31)) :: st)) : N G K rm Q h a b pc ls (.int y :: .int x :: st) := by
  subst hp; exact N.step (fun T A t ht => XS.ishl A C.hx rfl (hb C.by hd) rfl ht) k
theorem N.ishr (C : Cx G K own nm bytes maxL ret W) {x y : Int32} (hd : decode bytes pc = .ok (.ishr, 1)) (hp : pc + 1 = pc') (k : N G K rm Q h a b pc' ls (.int (x >>> (y &&& 31)) :: st)) : N G K rm Q h a b pc ls (.int y :: .int x :: st) := by
  subst hp; exact N.step (fun T A t ht => XS.ishr A C.hx rfl (hb C.by hd) rfl ht) k
theorem N.iushr (C : Cx G K own nm bytes maxL ret W) {x y : Int32} (hd : decode bytes pc = .ok (.iushr, 1)) (hp : pc + 1 = pc') (k : N G K rm Q h a b pc' ls (.int ((x.toUInt32 >>> (y &&& 31).toUInt32).toInt32) :: st)) : N G K rm Q h a b pc ls (.int y :: .int x :: st) := by
  subst hp; exact N.step (fun T A t ht => XS.iushr A C.hx rfl (hb C.by hd) rfl ht) k
theorem N.lshl (C : Cx G K own nm bytes maxL ret W) {x : Int64} {y : Int32} (hd : decode bytes pc = .ok (.lshl, 1)) (hp : pc + 1 = pc') (k : N G K rm Q h a b pc' ls (.long (x <<< (y &&& 0x3f).toInt64) :: st)) : N G K rm Q h a b pc ls (.int y :: .long x :: st) := by
  subst hp; exact N.step (fun T A t ht => XS.lshl A C.hx rfl (hb C.by hd) rfl ht) k
theorem N.lshr (C : Cx G K own nm bytes maxL ret W) {x : Int64} {y : Int32} (hd : decode bytes pc = .ok (.lshr, 1)) (hp : pc + 1 = pc') (k : N G K rm Q h a b pc' ls (.long (x >>> (y &&& 0x3f).toInt64) :: st)) : N G K rm Q h a b pc ls (.int y :: .long x :: st) := by
  subst hp; exact N.step (fun T A t ht => XS.lshr A C.hx rfl (hb C.by hd) rfl ht) k
theorem N.lushr (C : Cx G K own nm bytes maxL ret W) {x : Int64} {y : Int32} (hd : decode bytes pc = .ok (.lushr, 1)) (hp : pc + 1 = pc') (k : N G K rm Q h a b pc' ls (.long ((x.toUInt64 >>> (y &&& 0x3f).toInt64.toUInt64).toInt64) :: st)) : N G K rm Q h a b pc ls (.int y :: .long x :: st) := by
  subst hp; exact N.step (fun T A t ht => XS.lushr A C.hx rfl (hb C.by hd) rfl ht) k
theorem N.lcmp (C : Cx G K own nm bytes maxL ret W) {x y : Int64} (hd : decode bytes pc = .ok (.lcmp, 1)) (hp : pc + 1 = pc') (k : N G K rm Q h a b pc' ls (.int (lcmpW x y) :: st)) : N G K rm Q h a b pc ls (.long y :: .long x :: st) := by
  subst hp; exact N.step (fun T A t ht => XS.lcmp A C.hx rfl (hb C.by hd) rfl ht) k
theorem N.iinc (C : Cx G K own nm bytes maxL ret W) {k : Nat} {cst : Int} {x z : Int32} (hd : decode bytes pc = .ok (.iinc k cst, 3)) (hl : ls[k]? = some (.val (.int x))) (hz : Int32.ofInt cst = z) (hl' : storeLocals ls k (.int (x + z)) = some ls') (hp : pc + 3 = pc') (k : N G K rm Q h a b pc' ls' st) : N G K rm Q h a b pc ls st := by
  subst hp hz; exact N.step (fun T A t ht => XS.iinc A C.hx rfl (hb C.by hd) hl hl' ht) k
theorem N.goto (C : Cx G K own nm bytes maxL ret W) {o : Int} (hd : decode bytes pc = .ok (.goto o, 3)) (hp : (pc : Int) + o = (pc' : Nat)) (k : N G K rm Q h a b pc' ls st) : N G K rm Q h a b pc ls st :=
  N.step (fun T A t ht => XS.goto A C.hx rfl (pc0 := pc) rfl (hb C.by hd) (by omega) (by omega) ht) k
theorem N.icmp (C : Cx G K own nm bytes maxL ret W) {cd : ClassFile.Cond} {o : Int} {x y : Int32} {pt pf : Nat} (hd : decode bytes pc = .ok (.if_icmp cd o, 3)) (ht : (pc : Int) + o = (pt : Nat)) (hf : pc + 3 = pf) (kt : cmpP cd x y → N G K rm Q h a b pt ls st) (kf : cmpN cd x y → N G K rm Q h a b pf ls st) : N G K rm Q h a b pc ls (.int y :: .int x :: st) := by
  subst hf
  rcases cmp_or cd x y with ⟨h1, h2⟩ | ⟨h1, h2⟩
  · exact N.step (fun T A t k => XS.icmpYes A C.hx rfl (pc0 := pc) rfl (hb C.by hd) rfl h1 (by omega) (by omega) k) (kt h2)
  · exact N.step (fun T A t k => XS.icmpNo A C.hx rfl (hb C.by hd) rfl h1 k) (kf h2)
theorem N.ifc (C : Cx G K own nm bytes maxL ret W) {cd : ClassFile.Cond} {o : Int} {x : Int32} {pt pf : Nat} (hd : decode bytes pc = .ok (.ifCond cd o, 3)) (ht : (pc : Int) + o = (pt : Nat)) (hf : pc + 3 = pf) (kt : cmpP cd x 0 → N G K rm Q h a b pt ls st) (kf : cmpN cd x 0 → N G K rm Q h a b pf ls st) : N G K rm Q h a b pc ls (.int x :: st) := by
  subst hf
  rcases cmp_or cd x 0 with ⟨h1, h2⟩ | ⟨h1, h2⟩
  · exact N.step (fun T A t k => XS.ifYes A C.hx rfl (pc0 := pc) rfl (hb C.by hd) rfl ((if0 _ _).trans h1) (by omega) (by omega) k) (kt h2)
  · exact N.step (fun T A t k => XS.ifNo A C.hx rfl (hb C.by hd) rfl ((if0 _ _).trans h1) k) (kf h2)
/-- behind lcmp -/
theorem N.lif (C : Cx G K own nm bytes maxL ret W) {cd : ClassFile.Cond} {o : Int} {x y : Int64} {pt pf : Nat} (hd : decode bytes pc = .ok (.ifCond cd o, 3)) (ht : (pc : Int) + o = (pt : Nat)) (hf : pc + 3 = pf) (kt : cmpPL cd x y → N G K rm Q h a b pt ls st) (kf : cmpNL cd x y → N G K rm Q h a b pf ls st) : N G K rm Q h a b pc ls (.int (lcmpW x y) :: st) := by
  subst hf
  rcases cmp_orL cd x y with ⟨h1, h2⟩ | ⟨h1, h2⟩
  · exact N.step (fun T A t k => XS.ifYes A C.hx rfl (pc0 := pc) rfl (hb C.by hd) rfl h1 (by omega) (by omega) k) (kt h2)
  · exact N.step (fun T A t k => XS.ifNo A C.hx rfl (hb C.by hd) rfl h1 k) (kf h2)
theorem N.ifnull0 (C : Cx G K own nm bytes maxL ret W) {o : Int} (hd : decode bytes pc = .ok (.ifnull o, 3)) (ht : (pc : Int) + o = (pc' : Nat)) (k : N G K rm Q h a b pc' ls st) : N G K rm Q h a b pc ls (.null :: st) :=
  N.step (fun T A t k => XS.ifnullYes A C.hx rfl (pc0 := pc) rfl (hb C.by hd) rfl (by omega) (by omega) k) k
theorem N.ifnull1 (C : Cx G K own nm bytes maxL ret W) {o : Int} {x : Addr} (hd : decode bytes pc = .ok (.ifnull o, 3)) (hp : pc + 3 = pc') (k : N G K rm Q h a b pc' ls st) : N G K rm Q h a b pc ls (.ref x :: st) := by
  subst hp; exact N.step (fun T A t k => XS.ifnullNo A C.hx rfl (hb C.by hd) rfl k) k
theorem N.ifnonnull1 (C : Cx G K own nm bytes maxL ret W) {o : Int} {x : Addr} (hd : decode bytes pc = .ok (.ifnonnull o, 3)) (ht : (pc : Int) + o = (pc' : Nat)) (k : N G K rm Q h a b pc' ls st) : N G K rm Q h a b pc ls (.ref x :: st) :=
  N.step (fun T A t k => XS.ifnonnullYes A C.hx rfl (pc0 := pc) rfl (hb C.by hd) rfl (by omega) (by omega) k) k
theorem N.ifnonnull0 (C : Cx G K own nm bytes maxL ret W) {o : Int} (hd : decode bytes pc = .ok (.ifnonnull o, 3)) (hp : pc + 3 = pc') (k : N G K rm Q h a b pc' ls st) : N G K rm Q h a b pc ls (.null :: st) := by
  subst hp; exact N.step (fun T A t k => XS.ifnonnullNo A C.hx rfl (hb C.by hd) rfl k) k
theorem N.acmp (C : Cx G K own nm bytes maxL ret W) {cd : ACond} {o : Int} {v w : Value} (same : Bool) (hd : decode bytes pc = .ok (.if_acmp cd o, 3)) (h1 : v.isRef = true) (h2 : w.isRef = true) (hq : decide (v = w) = same) (ho : 0 ≤ (pc : Int) + o) (hp : pc' = if acV cd same = true then ((pc : Int) + o).toNat else pc + 3) (k : N G K rm Q h a b pc' ls st) : N G K rm Q h a b pc ls (w :: v :: st) :=
  N.stX (fun T locs X e t ht => Jvm.RoadKit.acmp (g := mkF K.m pc ls (w :: v :: st)) X C.hx rfl h1 h2 rfl (hb C.by hd) rfl hq ho hp ht) k
theorem N.ldcI (C : Cx G K own nm bytes maxL ret W) {i : Nat} {v : Int32} (hd : decode bytes pc = .ok (.ldc i, 2)) (w : (Jvm.Cond.constant own i v).before G.a0 G.Z = true) (hp : pc + 2 = pc') (k : N G K rm Q h a b pc' ls (.int v :: st)) : N G K rm Q h a b pc ls st := by
  subst hp; exact N.stX (fun T locs X e t ht => X.ldcInt C.hx C.ow (mvT C.hZ w) (g := mkF K.m pc ls st) rfl (hb C.by hd) t ht) k
theorem N.ldcwI (C : Cx G K own nm bytes maxL ret W) {i : Nat} {v : Int32} (hd : decode bytes pc = .ok (.ldc_w i, 3)) (w : (Jvm.Cond.constant own i v).before G.a0 G.Z = true) (hp : pc + 3 = pc') (k : N G K rm Q h a b pc' ls (.int v :: st)) : N G K rm Q h a b pc ls st := by
  subst hp; exact N.stX (fun T locs X e t ht => X.ldcwInt C.hx C.ow (mvT C.hZ w) (g := mkF K.m pc ls st) rfl (hb C.by hd) t ht) k
theorem N.ldcL (C : Cx G K own nm bytes maxL ret W) {i : Nat} {v : Int64} (hd : decode bytes pc = .ok (.ldc2_w i, 3)) (w : (Jvm.Cond.constantLong own i v).before G.a0 G.Z = true) (hp : pc + 3 = pc') (k : N G K rm Q h a b pc' ls (.long v :: st)) : N G K rm Q h a b pc ls st := by
  subst hp; exact N.stX (fun T locs X e t ht => X.ldc2Long C.hx C.ow (mvT C.hZ w) (g := mkF K.m pc ls st) rfl (hb C.by hd) t ht) k
theorem N.getF (C : Cx G K own nm bytes maxL ret W) {O n d : String} {i : Nat} {x : Addr} {v : Value} (hd : decode bytes pc = .ok (.getfield i, 3)) (w : (Jvm.Cond.fieldLink own i O n d).before G.a0 G.Z = true) (F : Fld G.Z h x O n d v) (hp : pc + 3 = pc') (k : N G K rm Q h a b pc' ls (v :: st)) : N G K rm Q h a b pc ls (.ref x :: st) := fun T locs X e N0 => by
  subst hp
  obtain ⟨T', X', e', s'⟩ := Jvm.RoadKit.getF X C.hx C.hZ C.ow (host := "") (Or.inl w) Via.refl e F (g := mkF K.m pc ls (.ref x :: st)) rfl rfl (hb C.by hd)
  obtain ⟨s₂, o, hs, r⟩ := k T' locs X' e' N0
  exact ⟨s₂, o, s' _ hs, r⟩
theorem N.getFN (C : Cx G K own nm bytes maxL ret W) {O n d host : String} {i : Nat} {x : Addr} {v : Value} (hd : decode bytes pc = .ok (.getfield i, 3)) (w : (Jvm.Cond.fieldLinkNest own i O n d host).before G.a0 G.Z = true) (F : Fld G.Z h x O n d v) (hp : pc + 3 = pc') (k : N G K rm Q h a b pc' ls (v :: st)) : N G K rm Q h a b pc ls (.ref x :: st) := fun T locs X e N0 => by
  subst hp
  obtain ⟨T', X', e', s'⟩ := Jvm.RoadKit.getF X C.hx C.hZ C.ow (Or.inr w) Via.refl e F (g := mkF K.m pc ls (.ref x :: st)) rfl rfl (hb C.by hd)
  obtain ⟨s₂, o, hs, r⟩ := k T' locs X' e' N0
  exact ⟨s₂, o, s' _ hs, r⟩
theorem N.putF (C : Cx G K own nm bytes maxL ret W) {O n d Cn : String} {i kk : Nat} {ty : FieldType} {x : Addr} {v old : Value} (hd : decode bytes pc = .ok (.putfield i, 3)) (w : (Jvm.Cond.fieldLink own i O n d).before G.a0 G.Z = true) (F : Fld G.Z h x O n d old) (E : Exa G.Z h x Cn)
    (L : (Jvm.Cond.lays Cn O n d).before G.a0 G.Z = true ∨ ((Jvm.Cond.laysFinal Cn O n d).before G.a0 G.Z = true ∧ own = O ∧ nm = "<init>")) (wi : (Jvm.Cond.instantiable Cn kk).before G.a0 G.Z = true) (hty : parseFieldDescriptor d = some ty) (hn : narrow ty v = v) (hf : fits ty v = true) (hx : G.n0 ≤ x) (hp : pc + 3 = pc')
    (k : ∀ h', Wr h h' x (Jvm.RoadKit.slotOf G.Z O n d) v → N G K rm Q h' a b pc' ls st) : N G K rm Q h a b pc ls (v :: .ref x :: st) := fun T locs X e N0 => by
  subst hp
  obtain ⟨T', h', X', e', W', s'⟩ := Jvm.RoadKit.putF X C.hx C.hZ C.ow (host := "") (Or.inl w) Via.refl e F E (L.imp id fun q => ⟨q.1, q.2.1, C.name.trans q.2.2⟩) wi hty hn hf (g := mkF K.m pc ls (v :: .ref x :: st)) rfl rfl (hb C.by hd)
  obtain ⟨s₂, o, hs, r⟩ := k h' W' T' _ X' e' (Fr.snoc X' N0 hx)
  exact ⟨s₂, o, s' _ hs, r⟩
theorem N.putFN (C : Cx G K own nm bytes maxL ret W) {O n d Cn : String} {i kk : Nat} {ty : FieldType} {x : Addr} {v v' old : Value} (hd : decode bytes pc = .ok (.putfield i, 3)) (w : (Jvm.Cond.fieldLink own i O n d).before G.a0 G.Z = true) (F : Fld G.Z h x O n d old) (E : Exa G.Z h x Cn)
    (L : (Jvm.Cond.lays Cn O n d).before G.a0 G.Z = true ∨ ((Jvm.Cond.laysFinal Cn O n d).before G.a0 G.Z = true ∧ own = O ∧ nm = "<init>")) (wi : (Jvm.Cond.instantiable Cn kk).before G.a0 G.Z = true) (hty : parseFieldDescriptor d = some ty) (hn : narrow ty v = v') (hf : fits ty v' = true) (hx : G.n0 ≤ x) (hp : pc + 3 = pc')
    (k : ∀ h', Wr h h' x (Jvm.RoadKit.slotOf G.Z O n d) v' → N G K rm Q h' a b pc' ls st) : N G K rm Q h a b pc ls (v :: .ref x :: st) := fun T locs X e N0 => by
  subst hp
  obtain ⟨T', h', X', e', W', s'⟩ := Jvm.RoadKit.putFN X C.hx C.hZ C.ow w Via.refl e F E (L.imp id fun q => ⟨q.1, q.2.1, C.name.trans q.2.2⟩) wi hty hn hf (g := mkF K.m pc ls (v :: .ref x :: st)) rfl rfl (hb C.by hd)
  obtain ⟨s₂, o, hs, r⟩ := k h' W' T' _ X' e' (Fr.snoc X' N0 hx)
  exact ⟨s₂, o, s' _ hs, r⟩
theorem N.getS (C : Cx G K own nm bytes maxL ret W) {O n d : String} {i : Nat} {v : Value} (hd : decode bytes pc = .ok (.getstatic i, 3)) (w : (Jvm.Cond.fieldLink own i O n d).before G.a0 G.Z = true) (F : Sta G.Z h O n d v) (hp : pc + 3 = pc') (k : N G K rm Q h a b pc' ls (v :: st)) : N G K rm Q h a b pc ls st := fun T locs X e N0 => by
  subst hp
  obtain ⟨T', X', e', s'⟩ := Jvm.RoadKit.getS X C.hx C.hZ (host := "") C.ow w Via.refl e F (g := mkF K.m pc ls st) rfl (hb C.by hd)
  obtain ⟨s₂, o, hs, r⟩ := k T' locs X' e' N0
  exact ⟨s₂, o, s' _ hs, r⟩
theorem N.newO (C : Cx G K own nm bytes maxL ret W) {Cn : String} {i n : Nat} (hd : decode bytes pc = .ok (.new i, 3)) (w : (Jvm.Cond.classLink own i Cn).before G.a0 G.Z = true) (wi : (Jvm.Cond.instantiable Cn n).before G.a0 G.Z = true) (wz : (Jvm.Cond.initialized Cn).before G.a0 G.Z = true) (hc : a + 1 ≤ rm.cells) (hl : b + n ≤ rm.slots) (hp : pc + 3 = pc')
    (k : ∀ (h' : Heap) (x : Addr), x = h.size → Ext h h' → Exa G.Z h' x Cn → (∀ {O f d : String} {ty : FieldType}, Laid G.Z G.a0 Cn O f d → parseFieldDescriptor d = some ty → Fld G.Z h' x O f d (defaultValue ty)) → N G K rm Q h' (a + 1) (b + n) pc' ls (.ref x :: st)) : N G K rm Q h a b pc ls st := fun T locs X e N0 => by
  subst hp
  obtain ⟨T', h', X', e', E', A', D', -, s'⟩ := Jvm.RoadKit.newO X C.hx C.hZ C.ow w wi wz e (g := mkF K.m pc ls st) rfl (hb C.by hd) hc hl
  obtain ⟨s₂, o, hs, r⟩ := k h' _ rfl E' A' D' T' locs X' e' N0
  exact ⟨s₂, o, s' _ hs, r⟩
theorem N.newP (C : Cx G K own nm bytes maxL ret W) {aty : ArrayType} {n : Int32} (cap : Nat) (hd : decode bytes pc = .ok (.newarray aty, 2)) (w : (Jvm.Cond.arrayClass (newarray.typeOf aty)).before G.a0 G.Z = true) (hn : 0 ≤ n.toInt) (hcap : n.toInt ≤ (cap : Int)) (hb8 : cap * 8 ≤ 536870912) (hc : a + 1 ≤ rm.cells) (hl : b + cap ≤ rm.slots) (hp : pc + 2 = pc')
    (k : ∀ (h' : Heap) (x : Addr), x = h.size → Ext h h' → Av G.Z h' x (newarray.typeOf aty) (List.replicate n.toInt.toNat (defaultValue (newarray.typeOf aty))) → N G K rm Q h' (a + 1) (b + cap) pc' ls (.ref x :: st)) : N G K rm Q h a b pc ls (.int n :: st) := fun T locs X e N0 => by
  subst hp
  have hneg : ¬ n < 0 := fun q => by
    have := Int32.lt_iff_toInt_lt.mp q
    have e0 : (0 : Int32).toInt = 0 := by decide
    omega
  obtain ⟨T', h', cA, X', e', E', A', s'⟩ := Jvm.RoadKit.newP X C.hx C.hZ w e (g := mkF K.m pc ls (.int n :: st)) rfl (hb C.by hd) rfl hneg (cap := cap) (by show n.toInt.toNat ≤ cap; omega) hb8 hc hl
  obtain ⟨s₂, o, hs, r⟩ := k h' _ rfl E' (Av.new A') T' locs X' e' N0
  exact ⟨s₂, o, s' _ hs, r⟩
theorem N.initO (C : Cx G K own nm bytes maxL ret W) {i : Nat} {x : Addr} (hd : decode bytes pc = .ok (.invokespecial i, 3)) (w1 : (Jvm.Cond.methodLink own i Lib.objectInit).before G.a0 G.Z = true) (w2 : (Jvm.Cond.instanceMethod Lib.objectInit).before G.a0 G.Z = true) (w3 : (Jvm.Cond.code Lib.objectInit ⟨#[0xb1]⟩ 1 none).before G.a0 G.Z = true) (hsz : ls.size = maxL) (hf : 1 ≤ rm.frames) (hl : (st.map fun v => v.category).sum + 12 ≤ rm.locals) (hp : pc + 3 = pc')
    (k : N G K rm Q h a b pc' ls st) : N G K rm Q h a b pc ls (.ref x :: st) := fun T locs X e N0 => by
  subst hp
  obtain ⟨T', X', e', s'⟩ := Jvm.RoadKit.initO X C.hx C.hZ C.ow w1 w2 w3 e (g := mkF K.m pc ls (.ref x :: st)) rfl (by rw [C.ml]; exact hsz) rfl (hb C.by hd) hf (W := (st.map fun v => v.category).sum) (by show 2 * 0 + _ ≤ _; omega) hl
  obtain ⟨s₂, o, hs, r⟩ := k T' locs X' e' N0
  exact ⟨s₂, o, s' _ hs, r⟩
theorem N.alen (C : Cx G K own nm bytes maxL ret W) {x : Addr} {ty : FieldType} {vs : List Value} {n : Int32} (hd : decode bytes pc = .ok (.arraylength, 1)) (A : Av G.Z h x ty vs) (hn : n.toInt = (vs.length : Nat)) (hp : pc + 1 = pc') (k : N G K rm Q h a b pc' ls (.int n :: st)) : N G K rm Q h a b pc ls (.ref x :: st) := by
  subst hp
  obtain ⟨c, A, rfl⟩ := A
  have hz : c.slots.size.toInt32 = n := by
    have h1 := n.toInt_lt
    apply Int32.toInt_inj.mp
    rw [hn]
    simp only [Array.length_toList] at hn ⊢
    show (Int32.ofNat c.slots.size).toInt = _
    rw [Int32.toInt_ofNat']
    have e32 : (Int32.size : Int) = 4294967296 := rfl
    exact Int.bmod_eq_of_le (by omega) (by omega)
  exact N.stX (fun T locs X e t ht => X.arraylength C.hx (by rw [e]; exact A.1) (State.isArrayOf_alike C.hZ.alike A.2.1) (g := mkF K.m pc ls (.ref x :: st)) rfl rfl (hb C.by hd) t (by rw [hz]; exact ht)) k

theorem N.iaload (C : Cx G K own nm bytes maxL ret W) {x : Addr} {vs : List Value} {j : Int32} {i : Nat} {v : Value} (hd : decode bytes pc = .ok (.iaload, 1)) (A : Av G.Z h x .int vs) (hj : j.toInt = (i : Nat)) (hv : vs[i]? = some v) (hp : pc + 1 = pc') (k : N G K rm Q h a b pc' ls (v :: st)) : N G K rm Q h a b pc ls (.int j :: .ref x :: st) := by
  subst hp
  obtain ⟨c, A, rfl⟩ := A
  have hi : i < c.slots.size := by have := (List.getElem?_eq_some_iff.mp hv).1; simpa using this
  have hv' : c.slots[j.toNatClampNeg]? = some v := by rw [(ix hj).2, ← Array.getElem?_toList]; exact hv
  exact N.stX (fun T locs X e t ht => X.iaload C.hx (by rw [e]; exact A.1) (State.isArrayOf_alike C.hZ.alike A.2.1) A.2.2 (ixin hj hi) hv' (g := mkF K.m pc ls (.int j :: .ref x :: st)) rfl rfl (hb C.by hd) t ht) k
theorem N.laload (C : Cx G K own nm bytes maxL ret W) {x : Addr} {vs : List Value} {j : Int32} {i : Nat} {v : Value} (hd : decode bytes pc = .ok (.laload, 1)) (A : Av G.Z h x .long vs) (hj : j.toInt = (i : Nat)) (hv : vs[i]? = some v) (hp : pc + 1 = pc') (k : N G K rm Q h a b pc' ls (v :: st)) : N G K rm Q h a b pc ls (.int j :: .ref x :: st) := by
  subst hp
  obtain ⟨c, A, rfl⟩ := A
  have hi : i < c.slots.size := by have := (List.getElem?_eq_some_iff.mp hv).1; simpa using this
  have hv' : c.slots[j.toNatClampNeg]? = some v := by rw [(ix hj).2, ← Array.getElem?_toList]; exact hv
  exact N.stX (fun T locs X e t ht => X.laload C.hx (by rw [e]; exact A.1) (State.isArrayOf_alike C.hZ.alike A.2.1) A.2.2 (ixin hj hi) hv' (g := mkF K.m pc ls (.int j :: .ref x :: st)) rfl rfl (hb C.by hd) t ht) k
theorem N.caload (C : Cx G K own nm bytes maxL ret W) {x : Addr} {vs : List Value} {j : Int32} {i : Nat} {v : Value} (hd : decode bytes pc = .ok (.caload, 1)) (A : Av G.Z h x .char vs) (hj : j.toInt = (i : Nat)) (hv : vs[i]? = some v) (hp : pc + 1 = pc') (k : N G K rm Q h a b pc' ls (v :: st)) : N G K rm Q h a b pc ls (.int j :: .ref x :: st) := by
  subst hp
  obtain ⟨c, A, rfl⟩ := A
  have hi : i < c.slots.size := by have := (List.getElem?_eq_some_iff.mp hv).1; simpa using this
  have hv' : c.slots[j.toNatClampNeg]? = some v := by rw [(ix hj).2, ← Array.getElem?_toList]; exact hv
  exact N.stX (fun T locs X e t ht => X.caload C.hx (by rw [e]; exact A.1) (State.isArrayOf_alike C.hZ.alike A.2.1) A.2.2 (ixin hj hi) hv' (g := mkF K.m pc ls (.int j :: .ref x :: st)) rfl rfl (hb C.by hd) t ht) k
theorem N.baload (C : Cx G K own nm bytes maxL ret W) {x : Addr} {vs : List Value} {j : Int32} {i : Nat} {v : Value} (hd : decode bytes pc = .ok (.baload, 1)) (A : Av G.Z h x .byte vs) (hj : j.toInt = (i : Nat)) (hv : vs[i]? = some v) (hp : pc + 1 = pc') (k : N G K rm Q h a b pc' ls (v :: st)) : N G K rm Q h a b pc ls (.int j :: .ref x :: st) := by
  subst hp
  obtain ⟨c, A, rfl⟩ := A
  have hi : i < c.slots.size := by have := (List.getElem?_eq_some_iff.mp hv).1; simpa using this
  have hv' : c.slots[j.toNatClampNeg]? = some v := by rw [(ix hj).2, ← Array.getElem?_toList]; exact hv
  exact N.stX (fun T locs X e t ht => X.baloadBytes C.hx (by rw [e]; exact A.1) (State.isArrayOf_alike C.hZ.alike A.2.1) A.2.2 (ixin hj hi) hv' (g := mkF K.m pc ls (.int j :: .ref x :: st)) rfl rfl (hb C.by hd) t ht) k
theorem N.zaload (C : Cx G K own nm bytes maxL ret W) {x : Addr} {vs : List Value} {j : Int32} {i : Nat} {v : Value} (hd : decode bytes pc = .ok (.baload, 1)) (A : Av G.Z h x .boolean vs) (hj : j.toInt = (i : Nat)) (hv : vs[i]? = some v) (hp : pc + 1 = pc') (k : N G K rm Q h a b pc' ls (v :: st)) : N G K rm Q h a b pc ls (.int j :: .ref x :: st) := by
  subst hp
  obtain ⟨c, A, rfl⟩ := A
  have hi : i < c.slots.size := by have := (List.getElem?_eq_some_iff.mp hv).1; simpa using this
  have hv' : c.slots[j.toNatClampNeg]? = some v := by rw [(ix hj).2, ← Array.getElem?_toList]; exact hv
  exact N.stX (fun T locs X e t ht => X.baloadBooleans C.hx (by rw [e]; exact A.1) (State.isArrayOf_alike C.hZ.alike A.2.1) A.2.2 (ixin hj hi) hv' (g := mkF K.m pc ls (.int j :: .ref x :: st)) rfl rfl (hb C.by hd) t ht) k
theorem N.iastore (C : Cx G K own nm bytes maxL ret W) {x : Addr} {vs : List Value} {j : Int32} {i : Nat} {v : Int32} (hd : decode bytes pc = .ok (.iastore, 1)) (A : Av G.Z h x .int vs) (hj : j.toInt = (i : Nat)) (hi : i < vs.length) (hx : G.n0 ≤ x) (hp : pc + 1 = pc') (k : ∀ h', Wr h h' x i (.int v) → Av G.Z h' x .int (vs.set i (.int v)) → N G K rm Q h' a b pc' ls st) : N G K rm Q h a b pc ls (.int v :: .int j :: .ref x :: st) := fun T locs X e N0 => by
  subst hp
  have A0 := A
  obtain ⟨c, A, rfl⟩ := A
  obtain ⟨T', h', X', e', W', s'⟩ := Jvm.RoadKit.stI X C.hx C.hZ e A (j := j) (ixin hj (by simpa using hi)) (g := mkF K.m pc ls (.int v :: .int j :: .ref x :: st)) rfl rfl (hb C.by hd)
  have F' := Fr.snoc X' N0 hx
  rw [(ix hj).2] at W'
  obtain ⟨s₂, o, hs, r⟩ := k h' W' (A0.same W') T' _ X' e' F'
  exact ⟨s₂, o, s' _ hs, r⟩
theorem N.lastore (C : Cx G K own nm bytes maxL ret W) {x : Addr} {vs : List Value} {j : Int32} {i : Nat} {v : Int64} (hd : decode bytes pc = .ok (.lastore, 1)) (A : Av G.Z h x .long vs) (hj : j.toInt = (i : Nat)) (hi : i < vs.length) (hx : G.n0 ≤ x) (hp : pc + 1 = pc') (k : ∀ h', Wr h h' x i (.long v) → Av G.Z h' x .long (vs.set i (.long v)) → N G K rm Q h' a b pc' ls st) : N G K rm Q h a b pc ls (.long v :: .int j :: .ref x :: st) := fun T locs X e N0 => by
  subst hp
  have A0 := A
  obtain ⟨c, A, rfl⟩ := A
  obtain ⟨T', h', X', e', W', s'⟩ := Jvm.RoadKit.stJ X C.hx C.hZ e A (j := j) (ixin hj (by simpa using hi)) (g := mkF K.m pc ls (.long v :: .int j :: .ref x :: st)) rfl rfl (hb C.by hd)
  have F' := Fr.snoc X' N0 hx
  rw [(ix hj).2] at W'
  obtain ⟨s₂, o, hs, r⟩ := k h' W' (A0.same W') T' _ X' e' F'
  exact ⟨s₂, o, s' _ hs, r⟩
theorem N.castore (C : Cx G K own nm bytes maxL ret W) {x : Addr} {vs : List Value} {j : Int32} {i : Nat} {v : Int32} (hd : decode bytes pc = .ok (.castore, 1)) (A : Av G.Z h x .char vs) (hj : j.toInt = (i : Nat)) (hi : i < vs.length) (hx : G.n0 ≤ x) (hp : pc + 1 = pc') (k : ∀ h', Wr h h' x i (.int (nar .char v)) → Av G.Z h' x .char (vs.set i (.int (nar .char v))) → N G K rm Q h' a b pc' ls st) : N G K rm Q h a b pc ls (.int v :: .int j :: .ref x :: st) := fun T locs X e N0 => by
  subst hp
  have A0 := A
  obtain ⟨c, A, rfl⟩ := A
  obtain ⟨T', h', X', e', W', s'⟩ := Jvm.RoadKit.stC X C.hx C.hZ e A (j := j) (ixin hj (by simpa using hi)) (g := mkF K.m pc ls (.int v :: .int j :: .ref x :: st)) rfl rfl (hb C.by hd)
  have F' := Fr.snoc X' N0 hx
  rw [(ix hj).2] at W'
  obtain ⟨s₂, o, hs, r⟩ := k h' W' (A0.same W') T' _ X' e' F'
  exact ⟨s₂, o, s' _ hs, r⟩
theorem N.bastore (C : Cx G K own nm bytes maxL ret W) {x : Addr} {vs : List Value} {j : Int32} {i : Nat} {v : Int32} (hd : decode bytes pc = .ok (.bastore, 1)) (A : Av G.Z h x .byte vs) (hj : j.toInt = (i : Nat)) (hi : i < vs.length) (hx : G.n0 ≤ x) (hp : pc + 1 = pc') (k : ∀ h', Wr h h' x i (.int (nar .byte v)) → Av G.Z h' x .byte (vs.set i (.int (nar .byte v))) → N G K rm Q h' a b pc' ls st) : N G K rm Q h a b pc ls (.int v :: .int j :: .ref x :: st) := fun T locs X e N0 => by
  subst hp
  have A0 := A
  obtain ⟨c, A, rfl⟩ := A
  obtain ⟨T', h', X', e', W', s'⟩ := Jvm.RoadKit.stB X C.hx C.hZ e A (j := j) (ixin hj (by simpa using hi)) (g := mkF K.m pc ls (.int v :: .int j :: .ref x :: st)) rfl rfl (hb C.by hd)
  have F' := Fr.snoc X' N0 hx
  rw [(ix hj).2] at W'
  obtain ⟨s₂, o, hs, r⟩ := k h' W' (A0.same W') T' _ X' e' F'
  exact ⟨s₂, o, s' _ hs, r⟩
theorem N.zastore (C : Cx G K own nm bytes maxL ret W) {x : Addr} {vs : List Value} {j : Int32} {i : Nat} {v : Int32} (hd : decode bytes pc = .ok (.bastore, 1)) (A : Av G.Z h x .boolean vs) (hj : j.toInt = (i : Nat)) (hi : i < vs.length) (hx : G.n0 ≤ x) (hp : pc + 1 = pc') (k : ∀ h', Wr h h' x i (.int (nar .boolean v)) → Av G.Z h' x .boolean (vs.set i (.int (nar .boolean v))) → N G K rm Q h' a b pc' ls st) : N G K rm Q h a b pc ls (.int v :: .int j :: .ref x :: st) := fun T locs X e N0 => by
  subst hp
  have A0 := A
  obtain ⟨c, A, rfl⟩ := A
  obtain ⟨T', h', X', e', W', s'⟩ := Jvm.RoadKit.stZ X C.hx C.hZ e A (j := j) (ixin hj (by simpa using hi)) (g := mkF K.m pc ls (.int v :: .int j :: .ref x :: st)) rfl rfl (hb C.by hd)
  have F' := Fr.snoc X' N0 hx
  rw [(ix hj).2] at W'
  obtain ⟨s₂, o, hs, r⟩ := k h' W' (A0.same W') T' _ X' e' F'
  exact ⟨s₂, o, s' _ hs, r⟩

/-! returns -/
theorem N.ret0 (C : Cx G K own nm bytes maxL ret W) (hr : ret = none) (hd : decode bytes pc = .ok (.return_, 1)) (ha : a ≤ rm.cells) (hb' : b ≤ rm.slots) (hq : Q none h) : N G K rm Q h a b pc ls [] := fun T locs X e N0 => by
  obtain ⟨fs, hr', hrun, hended, hW, hsame⟩ := X.leave (v := none) (fun _ => rfl) (hlocks := C.lk)
  exact ⟨_, _, X.returnOut C.hx (C.rt.trans hr) (hb C.by hd) hr', hrun, hended, _, _, rfl, ⟨by show Q none T.heap; rw [e]; exact hq, N0⟩, ⟨_, rfl⟩, hW, hsame.mono ha hb'⟩
theorem N.retV (C : Cx G K own nm bytes maxL ret W) {w : Value} {t : FieldType} {i : Instr} (hr : ret = some t) (hn : narrow t w = w)
    (hi : (i = .ireturn ∧ (t = .int ∨ t = .boolean ∨ t = .byte ∨ t = .char ∨ t = .short) ∧ ∃ z, w = .int z) ∨ (i = .lreturn ∧ t = .long ∧ ∃ z, w = .long z) ∨ (i = .dreturn ∧ t = .double ∧ ∃ z, w = .double z) ∨ (i = .freturn ∧ t = .float ∧ ∃ z, w = .float z) ∨ (i = .areturn ∧ t.isReference = true ∧ w.isRef = true))
    (hd : decode bytes pc = .ok (i, 1)) (ha : a ≤ rm.cells) (hb' : b ≤ rm.slots) (hq : Q (some w) h) : N G K rm Q h a b pc ls (w :: st) := fun T locs X e N0 => by
  obtain ⟨fs, hr', hrun, hended, hW, hsame⟩ := X.leave (v := some w) (fun q => by rw [C.rt, hr] at q; cases q) (hlocks := C.lk)
  exact ⟨_, _, retOut X C.hx (C.rt.trans hr) hn hi (hb C.by hd) hr', hrun, hended, _, _, rfl, ⟨by show Q (some w) T.heap; rw [e]; exact hq, N0⟩, ⟨_, rfl⟩, hW, hsame.mono ha hb'⟩
theorem N.retI (C : Cx G K own nm bytes maxL (some .int) W) {z : Int32} (hd : decode bytes pc = .ok (.ireturn, 1)) (ha : a ≤ rm.cells) (hb' : b ≤ rm.slots) (hq : Q (some (.int z)) h) : N G K rm Q h a b pc ls (.int z :: st) :=
  N.retV C rfl rfl (Or.inl ⟨rfl, Or.inl rfl, z, rfl⟩) hd ha hb' hq
theorem N.retL (C : Cx G K own nm bytes maxL (some .long) W) {z : Int64} (hd : decode bytes pc = .ok (.lreturn, 1)) (ha : a ≤ rm.cells) (hb' : b ≤ rm.slots) (hq : Q (some (.long z)) h) : N G K rm Q h a b pc ls (.long z :: st) :=
  N.retV C rfl rfl (Or.inr (Or.inl ⟨rfl, rfl, z, rfl⟩)) hd ha hb' hq
theorem N.retA (C : Cx G K own nm bytes maxL (some t) W) {w : Value} (ht : t.isReference = true) (hw : w.isRef = true) (hd : decode bytes pc = .ok (.areturn, 1)) (ha : a ≤ rm.cells) (hb' : b ≤ rm.slots) (hq : Q (some w) h) : N G K rm Q h a b pc ls (w :: st) :=
  N.retV C rfl (by rcases ref_cases hw with rfl | ⟨z, rfl⟩ <;> cases t <;> first | rfl | (cases ht)) (Or.inr (Or.inr (Or.inr (Or.inr ⟨rfl, ht, hw⟩)))) hd ha hb' hq
theorem N.retN (C : Cx G K own nm bytes maxL (some t) W) {z z' : Int32} (ht : t = .boolean ∨ t = .byte ∨ t = .char ∨ t = .short) (hz : nar t z = z') (hd : decode bytes pc = .ok (.ireturn, 1)) (ha : a ≤ rm.cells) (hb' : b ≤ rm.slots) (hq : Q (some (.int z')) h) : N G K rm Q h a b pc ls (.int z :: st) := fun T locs X e N0 => by
  subst hz
  obtain ⟨fs, hr', hrun, hended, hW, hsame⟩ := X.leave (v := some (.int (nar t z))) (fun q => by rw [C.rt] at q; cases q) (hlocks := C.lk)
  exact ⟨_, _, Jvm.RoadKit.retN X C.hx C.rt ht (hb C.by hd) hr', hrun, hended, _, _, rfl, ⟨by show Q (some (.int (nar t z))) T.heap; rw [e]; exact hq, N0⟩, ⟨_, rfl⟩, hW, hsame.mono ha hb'⟩
/-! calls by the callee's contract -/
section Calls
variable {y : MethodName} {bytes' : ByteArray} {maxL' : Nat} {ret' : Option FieldType} {rm' : Room} {as : Array Value} {R' : Option Value → Heap → Prop} {stk rest : List Value}
theorem N.callS (C : Cx G K own nm bytes maxL ret W) {i : Nat} (argsL : List Value) (hd : decode bytes pc = .ok (.invokestatic i, 3)) (w1 : (Jvm.Cond.methodLink own i y).before G.a0 G.Z = true) (w2 : (Jvm.Cond.static y).before G.a0 G.Z = true) (w3 : (Jvm.Cond.initialized y.cls).before G.a0 G.Z = true) (w4 : (Jvm.Cond.code y bytes' maxL' ret').before G.a0 G.Z = true)
    (hy : y.cls ≠ "java/lang/invoke/MethodHandle" ∧ y.cls ≠ "java/lang/invoke/VarHandle") (M : Con G y bytes' maxL' ret' rm' argsL.toArray h R') (hlen : ∀ sig, parseMethodDescriptor y.desc = some sig → argsL.length = sig.parameters.length) (hsz : ls.size = maxL)
    (hf : rm'.frames + 1 ≤ rm.frames) (hl : (rest.map fun v => v.category).sum + (maxL' + 11) + rm'.locals ≤ rm.locals) (hc : a + rm'.cells ≤ rm.cells) (hs : b + rm'.slots ≤ rm.slots) (hst : stk = argsL.reverse ++ rest) (hp : pc + 3 = pc')
    (k : ∀ v h', R' v h' → N G K rm Q h' (a + rm'.cells) (b + rm'.slots) pc' ls (v.toList ++ rest)) : N G K rm Q h a b pc ls stk := fun T locs X e N0 => by
  subst hp
  obtain ⟨v, _, ⟨T', L', k', n'⟩, -, X', ⟨Lc, ⟨hQ, N1⟩, l', y', z'⟩, s'⟩ := Jvm.LawKit.callS X C.hx (y := y) C.ow (mvT C.hZ w1) (mvT C.hZ w2) (mvT C.hZ w3) (mvT C.hZ w4) hy (backOf (W := (rest.map fun v => v.category).sum) (Q := fun v h L => R' v h ∧ Fr G.n0 L) (M []) C.hZ w4 w3 hf hl) (g := mkF K.m pc ls stk) rfl (by rw [C.ml]; exact hsz) (argsL := argsL) (rest := rest) hlen hst (by show 2 * 0 + _ ≤ _; omega) (hb C.by hd) (fun _ _ => ⟨rfl, e, hc, hs⟩)
  dsimp only [Pt.U, Pt.locs, Pt.cells, Pt.slots] at X' l' y' z' s' hQ
  subst l' y' z'
  obtain ⟨s₂, o, hs', r⟩ := k v T'.heap hQ T' _ X' rfl (N0.app N1)
  exact ⟨s₂, o, s' _ hs', r⟩
theorem N.callI (C : Cx G K own nm bytes maxL ret W) {i : Nat} (x : Addr) (argsL : List Value) (hd : decode bytes pc = .ok (.invokespecial i, 3)) (hy1 : y.name = "<init>") (w1 : (Jvm.Cond.methodLink own i y).before G.a0 G.Z = true) (w2 : (Jvm.Cond.instanceMethod y).before G.a0 G.Z = true) (w3 : (Jvm.Cond.initialized y.cls).before G.a0 G.Z = true) (w4 : (Jvm.Cond.code y bytes' maxL' none).before G.a0 G.Z = true)
    (hy : y.cls ≠ "java/lang/invoke/MethodHandle" ∧ y.cls ≠ "java/lang/invoke/VarHandle") (M : Con G y bytes' maxL' none rm' (.ref x :: argsL).toArray h R') (hlen : ∀ sig, parseMethodDescriptor y.desc = some sig → argsL.length = sig.parameters.length) (hsz : ls.size = maxL)
    (hf : rm'.frames + 1 ≤ rm.frames) (hl : (rest.map fun v => v.category).sum + (maxL' + 11) + rm'.locals ≤ rm.locals) (hc : a + rm'.cells ≤ rm.cells) (hs : b + rm'.slots ≤ rm.slots) (hst : stk = argsL.reverse ++ .ref x :: rest) (hp : pc + 3 = pc')
    (k : ∀ v h', R' v h' → N G K rm Q h' (a + rm'.cells) (b + rm'.slots) pc' ls (v.toList ++ rest)) : N G K rm Q h a b pc ls stk := fun T locs X e N0 => by
  subst hp
  obtain ⟨v, _, ⟨T', L', k', n'⟩, -, X', ⟨Lc, ⟨hQ, N1⟩, l', y', z'⟩, s'⟩ := X.specialBack C.hx (y := y) hy1 C.ow (mvT C.hZ w1) (mvT C.hZ w2) (mvT C.hZ w4) hy (backOf (W := (rest.map fun v => v.category).sum) (Q := fun v h L => R' v h ∧ Fr G.n0 L) (M []) C.hZ w4 w3 hf hl) (g := mkF K.m pc ls stk) rfl (by rw [C.ml]; exact hsz) (Steps.refl _) (a := x) (argsL := argsL) (rest := rest) hlen hst (by show 2 * 0 + _ ≤ _; omega) (hb C.by hd) (fun _ _ => ⟨rfl, e, hc, hs⟩)
  dsimp only [Pt.U, Pt.locs, Pt.cells, Pt.slots] at X' l' y' z' s' hQ
  subst l' y' z'
  obtain ⟨s₂, o, hs', r⟩ := k v T'.heap hQ T' _ X' rfl (N0.app N1)
  exact ⟨s₂, o, s'.trans hs', r⟩
/-- an instance method of a class that selects itself -/
theorem N.callV (C : Cx G K own nm bytes maxL ret W) {i : Nat} (x : Addr) (argsL : List Value) (hd : decode bytes pc = .ok (.invokevirtual i, 3)) (w1 : (Jvm.Cond.methodLink own i y).before G.a0 G.Z = true) (wd : (Jvm.Cond.declares y).before G.a0 G.Z = true) (ws : (Jvm.Cond.selects y.cls y y).before G.a0 G.Z = true) (w2 : (Jvm.Cond.instanceMethod y).before G.a0 G.Z = true) (w3 : (Jvm.Cond.initialized y.cls).before G.a0 G.Z = true) (w4 : (Jvm.Cond.code y bytes' maxL' ret').before G.a0 G.Z = true)
    (hy : y.cls ≠ "java/lang/invoke/MethodHandle" ∧ y.cls ≠ "java/lang/invoke/VarHandle") (E : Exa G.Z h x y.cls) (M : Con G y bytes' maxL' ret' rm' (.ref x :: argsL).toArray h R') (hlen : ∀ sig, parseMethodDescriptor y.desc = some sig → argsL.length = sig.parameters.length) (hsz : ls.size = maxL)
    (hf : rm'.frames + 1 ≤ rm.frames) (hl : (rest.map fun v => v.category).sum + (maxL' + 11) + rm'.locals ≤ rm.locals) (hc : a + rm'.cells ≤ rm.cells) (hs : b + rm'.slots ≤ rm.slots) (hst : stk = argsL.reverse ++ .ref x :: rest) (hp : pc + 3 = pc')
    (k : ∀ v h', R' v h' → N G K rm Q h' (a + rm'.cells) (b + rm'.slots) pc' ls (v.toList ++ rest)) : N G K rm Q h a b pc ls stk := fun T locs X e N0 => by
  subst hp
  obtain ⟨cq, kq, qa, qb, qc⟩ := isOf C.hZ e E
  obtain ⟨v, _, ⟨T', L', k', n'⟩, -, X', ⟨Lc, ⟨hQ, N1⟩, l', y', z'⟩, s'⟩ := X.virtualBack C.hx (y := y) (z := y) C.ow (mvT C.hZ w1) (mvT C.hZ wd) (notFace_of_selects (args := #[]) (mvT C.hZ ws)) (mvT C.hZ ws) (mvT C.hZ w2) hy (backOf (W := (rest.map fun v => v.category).sum) (Q := fun v h L => R' v h ∧ Fr G.n0 L) (M []) C.hZ w4 w3 hf hl) qa qc (g := mkF K.m pc ls stk) rfl (by rw [C.ml]; exact hsz) (Steps.refl _) (argsL := argsL) (rest := rest) hlen hst (by show 2 * 0 + _ ≤ _; omega) (hb C.by hd) (fun _ _ => ⟨rfl, e, hc, hs⟩)
  dsimp only [Pt.U, Pt.locs, Pt.cells, Pt.slots] at X' l' y' z' s' hQ
  subst l' y' z'
  obtain ⟨s₂, o, hs', r⟩ := k v T'.heap hQ T' _ X' rfl (N0.app N1)
  exact ⟨s₂, o, s'.trans hs', r⟩
/-- a private method -/
theorem N.callP (C : Cx G K own nm bytes maxL ret W) {i : Nat} (x : Addr) (argsL : List Value) (hd : decode bytes pc = .ok (.invokevirtual i, 3)) (w1 : (Jvm.Cond.methodLink own i y).before G.a0 G.Z = true) (wp : (Jvm.Cond.privateMethod y).before G.a0 G.Z = true) (ws : (Jvm.Cond.selects y.cls y y).before G.a0 G.Z = true) (w2 : (Jvm.Cond.instanceMethod y).before G.a0 G.Z = true) (w3 : (Jvm.Cond.initialized y.cls).before G.a0 G.Z = true) (w4 : (Jvm.Cond.code y bytes' maxL' ret').before G.a0 G.Z = true)
    (hy : y.cls ≠ "java/lang/invoke/MethodHandle" ∧ y.cls ≠ "java/lang/invoke/VarHandle") (E : Exa G.Z h x y.cls) (M : Con G y bytes' maxL' ret' rm' (.ref x :: argsL).toArray h R') (hlen : ∀ sig, parseMethodDescriptor y.desc = some sig → argsL.length = sig.parameters.length) (hsz : ls.size = maxL)
    (hf : rm'.frames + 1 ≤ rm.frames) (hl : (rest.map fun v => v.category).sum + (maxL' + 11) + rm'.locals ≤ rm.locals) (hc : a + rm'.cells ≤ rm.cells) (hs : b + rm'.slots ≤ rm.slots) (hst : stk = argsL.reverse ++ .ref x :: rest) (hp : pc + 3 = pc')
    (k : ∀ v h', R' v h' → N G K rm Q h' (a + rm'.cells) (b + rm'.slots) pc' ls (v.toList ++ rest)) : N G K rm Q h a b pc ls stk := fun T locs X e N0 => by
  subst hp
  obtain ⟨cq, qa, qb⟩ := E.cell
  obtain ⟨v, _, ⟨T', L', k', n'⟩, -, X', ⟨Lc, ⟨hQ, N1⟩, l', y', z'⟩, s'⟩ := X.privateBack C.hx (y := y) C.ow (mvT C.hZ w1) (mvT C.hZ w2) (mvT C.hZ ws) (Cond.privateMethod_at (mvP C.hZ wp (args := #[]))) (mvT C.hZ w4) hy (backOf (W := (rest.map fun v => v.category).sum) (Q := fun v h L => R' v h ∧ Fr G.n0 L) (M []) C.hZ w4 w3 hf hl) (g := mkF K.m pc ls stk) rfl (by rw [C.ml]; exact hsz) (Steps.refl _) (a := x) (by rw [e]; exact qa) qb (argsL := argsL) (rest := rest) hlen hst (by show 2 * 0 + _ ≤ _; omega) (hb C.by hd) (fun _ _ => ⟨rfl, e, hc, hs⟩)
  dsimp only [Pt.U, Pt.locs, Pt.cells, Pt.slots] at X' l' y' z' s' hQ
  subst l' y' z'
  obtain ⟨s₂, o, hs', r⟩ := k v T'.heap hQ T' _ X' rfl (N0.app N1)
  exact ⟨s₂, o, s'.trans hs', r⟩
end Calls
end Rules
end Jvm.OwnKit

namespace Jvm.Pilot.@@N@@
open Jvm Jvm.ClassFile Sem Op Lib Jvm.Free Jvm.Stand Jvm.LawKit Jvm.RoadKit Bundle Jvm.OwnKit Jvm.Pilot.@@N@@.Jvm.D
theorem pn0 : plainName "quadrille/LexerIsNameStartCharPinLaw" = true := by first | (simp [plainName, overriddenIn]; done) | decide +kernel
theorem pn1 : plainName "quadrille/LexerIsNameStartCharPinLaw" = true := by first | (simp [plainName, overriddenIn]; done) | decide +kernel
theorem pn2 : plainName "quadrille/Lexer" = true := by first | (simp [plainName, overriddenIn]; done) | decide +kernel
theorem pn3 : plainName "quadrille/LexerIsNameStartCharPinLaw" = true := by first | (simp [plainName, overriddenIn]; done) | decide +kernel
theorem pd__I_Z : parseMethodDescriptor "(I)Z" = some ⟨[.int], some .boolean⟩ := by decide +kernel

theorem d1_0 : decode method_3_code 0 = .ok (.iload_n 0, 1) := by decide +kernel
theorem d1_1 : decode method_3_code 1 = .ok (.invokestatic 14, 3) := by decide +kernel
theorem d1_4 : decode method_3_code 4 = .ok (.iload_n 0, 1) := by decide +kernel
theorem d1_5 : decode method_3_code 5 = .ok (.invokestatic 20, 3) := by decide +kernel
theorem d1_8 : decode method_3_code 8 = .ok (.ifCond .ne 7, 3) := by decide +kernel
theorem d1_11 : decode method_3_code 11 = .ok (.iconst 1, 1) := by decide +kernel
theorem d1_12 : decode method_3_code 12 = .ok (.goto 4, 3) := by decide +kernel
theorem d1_15 : decode method_3_code 15 = .ok (.iconst 0, 1) := by decide +kernel
theorem d1_16 : decode method_3_code 16 = .ok (.if_icmp .ne 7, 3) := by decide +kernel
theorem d1_19 : decode method_3_code 19 = .ok (.iconst 1, 1) := by decide +kernel
theorem d1_20 : decode method_3_code 20 = .ok (.goto 4, 3) := by decide +kernel
theorem d1_24 : decode method_3_code 24 = .ok (.ireturn, 1) := by decide +kernel
theorem d2_0 : decode prog_70_method_38_code 0 = .ok (.iload_n 0, 1) := by decide +kernel
theorem d2_1 : decode prog_70_method_38_code 1 = .ok (.bipush 95, 2) := by decide +kernel
theorem d2_3 : decode prog_70_method_38_code 3 = .ok (.if_icmp .eq 195, 3) := by decide +kernel
theorem d2_6 : decode prog_70_method_38_code 6 = .ok (.iload_n 0, 1) := by decide +kernel
theorem d2_7 : decode prog_70_method_38_code 7 = .ok (.bipush 65, 2) := by decide +kernel
theorem d2_9 : decode prog_70_method_38_code 9 = .ok (.if_icmp .lt 9, 3) := by decide +kernel
theorem d2_12 : decode prog_70_method_38_code 12 = .ok (.iload_n 0, 1) := by decide +kernel
theorem d2_13 : decode prog_70_method_38_code 13 = .ok (.bipush 90, 2) := by decide +kernel
theorem d2_15 : decode prog_70_method_38_code 15 = .ok (.if_icmp .le 183, 3) := by decide +kernel
theorem d2_18 : decode prog_70_method_38_code 18 = .ok (.iload_n 0, 1) := by decide +kernel
theorem d2_19 : decode prog_70_method_38_code 19 = .ok (.bipush 97, 2) := by decide +kernel
theorem d2_21 : decode prog_70_method_38_code 21 = .ok (.if_icmp .lt 9, 3) := by decide +kernel
theorem d2_24 : decode prog_70_method_38_code 24 = .ok (.iload_n 0, 1) := by decide +kernel
theorem d2_25 : decode prog_70_method_38_code 25 = .ok (.bipush 122, 2) := by decide +kernel
theorem d2_27 : decode prog_70_method_38_code 27 = .ok (.if_icmp .le 171, 3) := by decide +kernel
theorem d2_30 : decode prog_70_method_38_code 30 = .ok (.iload_n 0, 1) := by decide +kernel
theorem d2_31 : decode prog_70_method_38_code 31 = .ok (.sipush 192, 3) := by decide +kernel
theorem d2_34 : decode prog_70_method_38_code 34 = .ok (.if_icmp .lt 10, 3) := by decide +kernel
theorem d2_37 : decode prog_70_method_38_code 37 = .ok (.iload_n 0, 1) := by decide +kernel
theorem d2_38 : decode prog_70_method_38_code 38 = .ok (.sipush 214, 3) := by decide +kernel
theorem d2_41 : decode prog_70_method_38_code 41 = .ok (.if_icmp .le 157, 3) := by decide +kernel
theorem d2_44 : decode prog_70_method_38_code 44 = .ok (.iload_n 0, 1) := by decide +kernel
theorem d2_45 : decode prog_70_method_38_code 45 = .ok (.sipush 216, 3) := by decide +kernel
theorem d2_48 : decode prog_70_method_38_code 48 = .ok (.if_icmp .lt 10, 3) := by decide +kernel
theorem d2_51 : decode prog_70_method_38_code 51 = .ok (.iload_n 0, 1) := by decide +kernel
theorem d2_52 : decode prog_70_method_38_code 52 = .ok (.sipush 246, 3) := by decide +kernel
theorem d2_55 : decode prog_70_method_38_code 55 = .ok (.if_icmp .le 143, 3) := by decide +kernel
theorem d2_58 : decode prog_70_method_38_code 58 = .ok (.iload_n 0, 1) := by decide +kernel
theorem d2_59 : decode prog_70_method_38_code 59 = .ok (.sipush 248, 3) := by decide +kernel
theorem d2_62 : decode prog_70_method_38_code 62 = .ok (.if_icmp .lt 10, 3) := by decide +kernel
theorem d2_65 : decode prog_70_method_38_code 65 = .ok (.iload_n 0, 1) := by decide +kernel
theorem d2_66 : decode prog_70_method_38_code 66 = .ok (.sipush 767, 3) := by decide +kernel
theorem d2_69 : decode prog_70_method_38_code 69 = .ok (.if_icmp .le 129, 3) := by decide +kernel
theorem d2_72 : decode prog_70_method_38_code 72 = .ok (.iload_n 0, 1) := by decide +kernel
theorem d2_73 : decode prog_70_method_38_code 73 = .ok (.sipush 880, 3) := by decide +kernel
theorem d2_76 : decode prog_70_method_38_code 76 = .ok (.if_icmp .lt 10, 3) := by decide +kernel
theorem d2_79 : decode prog_70_method_38_code 79 = .ok (.iload_n 0, 1) := by decide +kernel
theorem d2_80 : decode prog_70_method_38_code 80 = .ok (.sipush 893, 3) := by decide +kernel
theorem d2_83 : decode prog_70_method_38_code 83 = .ok (.if_icmp .le 115, 3) := by decide +kernel
theorem d2_86 : decode prog_70_method_38_code 86 = .ok (.iload_n 0, 1) := by decide +kernel
theorem d2_87 : decode prog_70_method_38_code 87 = .ok (.sipush 895, 3) := by decide +kernel
theorem d2_90 : decode prog_70_method_38_code 90 = .ok (.if_icmp .lt 10, 3) := by decide +kernel
theorem d2_93 : decode prog_70_method_38_code 93 = .ok (.iload_n 0, 1) := by decide +kernel
theorem d2_94 : decode prog_70_method_38_code 94 = .ok (.sipush 8191, 3) := by decide +kernel
theorem d2_97 : decode prog_70_method_38_code 97 = .ok (.if_icmp .le 101, 3) := by decide +kernel
theorem d2_100 : decode prog_70_method_38_code 100 = .ok (.iload_n 0, 1) := by decide +kernel
theorem d2_101 : decode prog_70_method_38_code 101 = .ok (.sipush 8204, 3) := by decide +kernel
theorem d2_104 : decode prog_70_method_38_code 104 = .ok (.if_icmp .lt 10, 3) := by decide +kernel
theorem d2_107 : decode prog_70_method_38_code 107 = .ok (.iload_n 0, 1) := by decide +kernel
theorem d2_108 : decode prog_70_method_38_code 108 = .ok (.sipush 8205, 3) := by decide +kernel
theorem d2_111 : decode prog_70_method_38_code 111 = .ok (.if_icmp .le 87, 3) := by decide +kernel
theorem d2_114 : decode prog_70_method_38_code 114 = .ok (.iload_n 0, 1) := by decide +kernel
theorem d2_115 : decode prog_70_method_38_code 115 = .ok (.sipush 8304, 3) := by decide +kernel
theorem d2_118 : decode prog_70_method_38_code 118 = .ok (.if_icmp .lt 10, 3) := by decide +kernel
theorem d2_121 : decode prog_70_method_38_code 121 = .ok (.iload_n 0, 1) := by decide +kernel
theorem d2_122 : decode prog_70_method_38_code 122 = .ok (.sipush 8591, 3) := by decide +kernel
theorem d2_125 : decode prog_70_method_38_code 125 = .ok (.if_icmp .le 73, 3) := by decide +kernel
theorem d2_128 : decode prog_70_method_38_code 128 = .ok (.iload_n 0, 1) := by decide +kernel
theorem d2_129 : decode prog_70_method_38_code 129 = .ok (.sipush 11264, 3) := by decide +kernel
theorem d2_132 : decode prog_70_method_38_code 132 = .ok (.if_icmp .lt 10, 3) := by decide +kernel
theorem d2_135 : decode prog_70_method_38_code 135 = .ok (.iload_n 0, 1) := by decide +kernel
theorem d2_136 : decode prog_70_method_38_code 136 = .ok (.sipush 12271, 3) := by decide +kernel
theorem d2_139 : decode prog_70_method_38_code 139 = .ok (.if_icmp .le 59, 3) := by decide +kernel
theorem d2_142 : decode prog_70_method_38_code 142 = .ok (.iload_n 0, 1) := by decide +kernel
theorem d2_143 : decode prog_70_method_38_code 143 = .ok (.sipush 12289, 3) := by decide +kernel
theorem d2_146 : decode prog_70_method_38_code 146 = .ok (.if_icmp .lt 10, 3) := by decide +kernel
theorem d2_149 : decode prog_70_method_38_code 149 = .ok (.iload_n 0, 1) := by decide +kernel
theorem d2_150 : decode prog_70_method_38_code 150 = .ok (.ldc_w 295, 3) := by decide +kernel
theorem d2_153 : decode prog_70_method_38_code 153 = .ok (.if_icmp .le 45, 3) := by decide +kernel
theorem d2_156 : decode prog_70_method_38_code 156 = .ok (.iload_n 0, 1) := by decide +kernel
theorem d2_157 : decode prog_70_method_38_code 157 = .ok (.ldc_w 296, 3) := by decide +kernel
theorem d2_160 : decode prog_70_method_38_code 160 = .ok (.if_icmp .lt 10, 3) := by decide +kernel
theorem d2_163 : decode prog_70_method_38_code 163 = .ok (.iload_n 0, 1) := by decide +kernel
theorem d2_164 : decode prog_70_method_38_code 164 = .ok (.ldc_w 297, 3) := by decide +kernel
theorem d2_167 : decode prog_70_method_38_code 167 = .ok (.if_icmp .le 31, 3) := by decide +kernel
theorem d2_170 : decode prog_70_method_38_code 170 = .ok (.iload_n 0, 1) := by decide +kernel
theorem d2_171 : decode prog_70_method_38_code 171 = .ok (.ldc_w 298, 3) := by decide +kernel
theorem d2_174 : decode prog_70_method_38_code 174 = .ok (.if_icmp .lt 10, 3) := by decide +kernel
theorem d2_177 : decode prog_70_method_38_code 177 = .ok (.iload_n 0, 1) := by decide +kernel
theorem d2_178 : decode prog_70_method_38_code 178 = .ok (.ldc_w 299, 3) := by decide +kernel
theorem d2_181 : decode prog_70_method_38_code 181 = .ok (.if_icmp .le 17, 3) := by decide +kernel
theorem d2_184 : decode prog_70_method_38_code 184 = .ok (.iload_n 0, 1) := by decide +kernel
theorem d2_185 : decode prog_70_method_38_code 185 = .ok (.ldc_w 300, 3) := by decide +kernel
theorem d2_188 : decode prog_70_method_38_code 188 = .ok (.if_icmp .lt 14, 3) := by decide +kernel
theorem d2_191 : decode prog_70_method_38_code 191 = .ok (.iload_n 0, 1) := by decide +kernel
theorem d2_192 : decode prog_70_method_38_code 192 = .ok (.ldc_w 301, 3) := by decide +kernel
theorem d2_195 : decode prog_70_method_38_code 195 = .ok (.if_icmp .gt 7, 3) := by decide +kernel
theorem d2_198 : decode prog_70_method_38_code 198 = .ok (.iconst 1, 1) := by decide +kernel
theorem d2_199 : decode prog_70_method_38_code 199 = .ok (.goto 4, 3) := by decide +kernel
theorem d2_202 : decode prog_70_method_38_code 202 = .ok (.iconst 0, 1) := by decide +kernel
theorem d2_203 : decode prog_70_method_38_code 203 = .ok (.ireturn, 1) := by decide +kernel
theorem d3_0 : decode method_2_code 0 = .ok (.iload_n 0, 1) := by decide +kernel
theorem d3_1 : decode method_2_code 1 = .ok (.bipush 65, 2) := by decide +kernel
theorem d3_3 : decode method_2_code 3 = .ok (.if_icmp .lt 167, 3) := by decide +kernel
theorem d3_6 : decode method_2_code 6 = .ok (.iload_n 0, 1) := by decide +kernel
theorem d3_7 : decode method_2_code 7 = .ok (.bipush 91, 2) := by decide +kernel
theorem d3_9 : decode method_2_code 9 = .ok (.if_icmp .lt 9, 3) := by decide +kernel
theorem d3_12 : decode method_2_code 12 = .ok (.iload_n 0, 1) := by decide +kernel
theorem d3_13 : decode method_2_code 13 = .ok (.bipush 94, 2) := by decide +kernel
theorem d3_15 : decode method_2_code 15 = .ok (.if_icmp .le 155, 3) := by decide +kernel
theorem d3_18 : decode method_2_code 18 = .ok (.iload_n 0, 1) := by decide +kernel
theorem d3_19 : decode method_2_code 19 = .ok (.bipush 96, 2) := by decide +kernel
theorem d3_21 : decode method_2_code 21 = .ok (.if_icmp .eq 149, 3) := by decide +kernel
theorem d3_24 : decode method_2_code 24 = .ok (.iload_n 0, 1) := by decide +kernel
theorem d3_25 : decode method_2_code 25 = .ok (.bipush 123, 2) := by decide +kernel
theorem d3_27 : decode method_2_code 27 = .ok (.if_icmp .lt 10, 3) := by decide +kernel
theorem d3_30 : decode method_2_code 30 = .ok (.iload_n 0, 1) := by decide +kernel
theorem d3_31 : decode method_2_code 31 = .ok (.sipush 191, 3) := by decide +kernel
theorem d3_34 : decode method_2_code 34 = .ok (.if_icmp .le 136, 3) := by decide +kernel
theorem d3_37 : decode method_2_code 37 = .ok (.iload_n 0, 1) := by decide +kernel
theorem d3_38 : decode method_2_code 38 = .ok (.sipush 215, 3) := by decide +kernel
theorem d3_41 : decode method_2_code 41 = .ok (.if_icmp .eq 129, 3) := by decide +kernel
theorem d3_44 : decode method_2_code 44 = .ok (.iload_n 0, 1) := by decide +kernel
theorem d3_45 : decode method_2_code 45 = .ok (.sipush 247, 3) := by decide +kernel
theorem d3_48 : decode method_2_code 48 = .ok (.if_icmp .eq 122, 3) := by decide +kernel
theorem d3_51 : decode method_2_code 51 = .ok (.iload_n 0, 1) := by decide +kernel
theorem d3_52 : decode method_2_code 52 = .ok (.sipush 768, 3) := by decide +kernel
theorem d3_55 : decode method_2_code 55 = .ok (.if_icmp .lt 10, 3) := by decide +kernel
theorem d3_58 : decode method_2_code 58 = .ok (.iload_n 0, 1) := by decide +kernel
theorem d3_59 : decode method_2_code 59 = .ok (.sipush 879, 3) := by decide +kernel
theorem d3_62 : decode method_2_code 62 = .ok (.if_icmp .le 108, 3) := by decide +kernel
theorem d3_65 : decode method_2_code 65 = .ok (.iload_n 0, 1) := by decide +kernel
theorem d3_66 : decode method_2_code 66 = .ok (.sipush 894, 3) := by decide +kernel
theorem d3_69 : decode method_2_code 69 = .ok (.if_icmp .eq 101, 3) := by decide +kernel
theorem d3_72 : decode method_2_code 72 = .ok (.iload_n 0, 1) := by decide +kernel
theorem d3_73 : decode method_2_code 73 = .ok (.sipush 8192, 3) := by decide +kernel
theorem d3_76 : decode method_2_code 76 = .ok (.if_icmp .lt 10, 3) := by decide +kernel
theorem d3_79 : decode method_2_code 79 = .ok (.iload_n 0, 1) := by decide +kernel
theorem d3_80 : decode method_2_code 80 = .ok (.sipush 8203, 3) := by decide +kernel
theorem d3_83 : decode method_2_code 83 = .ok (.if_icmp .le 87, 3) := by decide +kernel
theorem d3_86 : decode method_2_code 86 = .ok (.iload_n 0, 1) := by decide +kernel
theorem d3_87 : decode method_2_code 87 = .ok (.sipush 8206, 3) := by decide +kernel
theorem d3_90 : decode method_2_code 90 = .ok (.if_icmp .lt 10, 3) := by decide +kernel
theorem d3_93 : decode method_2_code 93 = .ok (.iload_n 0, 1) := by decide +kernel
theorem d3_94 : decode method_2_code 94 = .ok (.sipush 8303, 3) := by decide +kernel
theorem d3_97 : decode method_2_code 97 = .ok (.if_icmp .le 73, 3) := by decide +kernel
theorem d3_100 : decode method_2_code 100 = .ok (.iload_n 0, 1) := by decide +kernel
theorem d3_101 : decode method_2_code 101 = .ok (.sipush 8592, 3) := by decide +kernel
theorem d3_104 : decode method_2_code 104 = .ok (.if_icmp .lt 10, 3) := by decide +kernel
theorem d3_107 : decode method_2_code 107 = .ok (.iload_n 0, 1) := by decide +kernel
theorem d3_108 : decode method_2_code 108 = .ok (.sipush 11263, 3) := by decide +kernel
theorem d3_111 : decode method_2_code 111 = .ok (.if_icmp .le 59, 3) := by decide +kernel
theorem d3_114 : decode method_2_code 114 = .ok (.iload_n 0, 1) := by decide +kernel
theorem d3_115 : decode method_2_code 115 = .ok (.sipush 12272, 3) := by decide +kernel
theorem d3_118 : decode method_2_code 118 = .ok (.if_icmp .lt 10, 3) := by decide +kernel
theorem d3_121 : decode method_2_code 121 = .ok (.iload_n 0, 1) := by decide +kernel
theorem d3_122 : decode method_2_code 122 = .ok (.sipush 12288, 3) := by decide +kernel
theorem d3_125 : decode method_2_code 125 = .ok (.if_icmp .le 45, 3) := by decide +kernel
theorem d3_128 : decode method_2_code 128 = .ok (.iload_n 0, 1) := by decide +kernel
theorem d3_129 : decode method_2_code 129 = .ok (.ldc 7, 2) := by decide +kernel
theorem d3_131 : decode method_2_code 131 = .ok (.if_icmp .lt 9, 3) := by decide +kernel
theorem d3_134 : decode method_2_code 134 = .ok (.iload_n 0, 1) := by decide +kernel
theorem d3_135 : decode method_2_code 135 = .ok (.ldc 8, 2) := by decide +kernel
theorem d3_137 : decode method_2_code 137 = .ok (.if_icmp .le 33, 3) := by decide +kernel
theorem d3_140 : decode method_2_code 140 = .ok (.iload_n 0, 1) := by decide +kernel
theorem d3_141 : decode method_2_code 141 = .ok (.ldc 9, 2) := by decide +kernel
theorem d3_143 : decode method_2_code 143 = .ok (.if_icmp .lt 9, 3) := by decide +kernel
theorem d3_146 : decode method_2_code 146 = .ok (.iload_n 0, 1) := by decide +kernel
theorem d3_147 : decode method_2_code 147 = .ok (.ldc 10, 2) := by decide +kernel
theorem d3_149 : decode method_2_code 149 = .ok (.if_icmp .le 21, 3) := by decide +kernel
theorem d3_152 : decode method_2_code 152 = .ok (.iload_n 0, 1) := by decide +kernel
theorem d3_153 : decode method_2_code 153 = .ok (.ldc 11, 2) := by decide +kernel
theorem d3_155 : decode method_2_code 155 = .ok (.if_icmp .lt 9, 3) := by decide +kernel
theorem d3_158 : decode method_2_code 158 = .ok (.iload_n 0, 1) := by decide +kernel
theorem d3_159 : decode method_2_code 159 = .ok (.ldc 12, 2) := by decide +kernel
theorem d3_161 : decode method_2_code 161 = .ok (.if_icmp .le 9, 3) := by decide +kernel
theorem d3_164 : decode method_2_code 164 = .ok (.iload_n 0, 1) := by decide +kernel
theorem d3_165 : decode method_2_code 165 = .ok (.ldc 13, 2) := by decide +kernel
theorem d3_167 : decode method_2_code 167 = .ok (.if_icmp .le 7, 3) := by decide +kernel
theorem d3_170 : decode method_2_code 170 = .ok (.iconst 1, 1) := by decide +kernel
theorem d3_171 : decode method_2_code 171 = .ok (.goto 4, 3) := by decide +kernel
theorem d3_174 : decode method_2_code 174 = .ok (.iconst 0, 1) := by decide +kernel
theorem d3_175 : decode method_2_code 175 = .ok (.ireturn, 1) := by decide +kernel
theorem ef1 (m : MethodId) (x0 : Int32) : entryFrame m #[(.int x0)] 1 = mkF m 0 #[.val (.int x0)] [] := by first | (simp [entryFrame, mkF, argsToLocals, Value.category]; done) | rfl
theorem ef2 (m : MethodId) (x0 : Int32) : entryFrame m #[(.int x0)] 1 = mkF m 0 #[.val (.int x0)] [] := by first | (simp [entryFrame, mkF, argsToLocals, Value.category]; done) | rfl
theorem ef3 (m : MethodId) (x0 : Int32) : entryFrame m #[(.int x0)] 1 = mkF m 0 #[.val (.int x0)] [] := by first | (simp [entryFrame, mkF, argsToLocals, Value.category]; done) | rfl
theorem ef0 (m : MethodId) (x0 : Int32) (x1 : Int32) (x2 : Int32) : entryFrame m #[(.int x0), (.int x1), (.int x2)] maxLocals = mkF m 0 #[.val (.int x0), .val (.int x1), .val (.int x2), .unset, .unset, .unset] [] := by first | (simp [entryFrame, mkF, argsToLocals, Value.category, maxLocals]; done) | rfl
def rm1 : Room := { frames := 1, cells := 0, slots := 0, locals := 16 }
def rm2 : Room := { frames := 0, cells := 0, slots := 0, locals := 0 }
def rm3 : Room := { frames := 0, cells := 0, slots := 0, locals := 0 }
def Ns (c : Int32) : Prop := (95 ≤ c.toInt ∧ c.toInt ≤ 95) ∨ (65 ≤ c.toInt ∧ c.toInt ≤ 90) ∨ (97 ≤ c.toInt ∧ c.toInt ≤ 122) ∨ (192 ≤ c.toInt ∧ c.toInt ≤ 214) ∨ (216 ≤ c.toInt ∧ c.toInt ≤ 246) ∨ (248 ≤ c.toInt ∧ c.toInt ≤ 767) ∨ (880 ≤ c.toInt ∧ c.toInt ≤ 893) ∨ (895 ≤ c.toInt ∧ c.toInt ≤ 8191) ∨ (8204 ≤ c.toInt ∧ c.toInt ≤ 8205) ∨ (8304 ≤ c.toInt ∧ c.toInt ≤ 8591) ∨ (11264 ≤ c.toInt ∧ c.toInt ≤ 12271) ∨ (12289 ≤ c.toInt ∧ c.toInt ≤ 55295) ∨ (63744 ≤ c.toInt ∧ c.toInt ≤ 64975) ∨ (65008 ≤ c.toInt ∧ c.toInt ≤ 65533) ∨ (65536 ≤ c.toInt ∧ c.toInt ≤ 983039)
def Gp (c : Int32) : Prop := (c.toInt ≤ 64) ∨ (91 ≤ c.toInt ∧ c.toInt ≤ 94) ∨ (96 ≤ c.toInt ∧ c.toInt ≤ 96) ∨ (123 ≤ c.toInt ∧ c.toInt ≤ 191) ∨ (215 ≤ c.toInt ∧ c.toInt ≤ 215) ∨ (247 ≤ c.toInt ∧ c.toInt ≤ 247) ∨ (768 ≤ c.toInt ∧ c.toInt ≤ 879) ∨ (894 ≤ c.toInt ∧ c.toInt ≤ 894) ∨ (8192 ≤ c.toInt ∧ c.toInt ≤ 8203) ∨ (8206 ≤ c.toInt ∧ c.toInt ≤ 8303) ∨ (8592 ≤ c.toInt ∧ c.toInt ≤ 11263) ∨ (12272 ≤ c.toInt ∧ c.toInt ≤ 12288) ∨ (55296 ≤ c.toInt ∧ c.toInt ≤ 63743) ∨ (64976 ≤ c.toInt ∧ c.toInt ≤ 65007) ∨ (65534 ≤ c.toInt ∧ c.toInt ≤ 65535) ∨ (983040 ≤ c.toInt)
theorem own_apart (c : Int32) : Ns c → Gp c → False := by
  unfold Ns Gp
  intro h1 h2
  rcases h1 with h1 | h1 | h1 | h1 | h1 | h1 | h1 | h1 | h1 | h1 | h1 | h1 | h1 | h1 | h1 <;> omega
theorem own_all (c : Int32) : ¬ Ns c → ¬ Gp c → False := by
  unfold Ns Gp
  intro h1 h2
  simp only [not_or] at h1 h2
  omega
theorem own_idx (k : Int32) : ∃ i : Nat, ((k &&& (2147483647 : Int32)) % (29 : Int32)).toInt = (i : Int) ∧ i < 29 := by
  have h1 := c_mask k 2147483647 31 (by decide) (by decide)
  have h2 := (c_irem (k &&& (2147483647 : Int32)) 29 29 (by decide)).1 (by omega)
  exact ⟨((k &&& (2147483647 : Int32)) % (29 : Int32)).toInt.toNat, by omega, by omega⟩
theorem own_ag1 {c z1 z2 : Int32} (h1 : (z1 = 1 ∧ Ns c) ∨ (z1 = 0 ∧ ¬ Ns c)) (h2 : (z2 = 1 ∧ Gp c) ∨ (z2 = 0 ∧ ¬ Gp c)) (h3 : ¬ z2 = (0 : Int32)) (h4 : ¬ z1 = (0 : Int32)) : False := by
  rcases h1 with ⟨-, a⟩ | ⟨e, -⟩
  · rcases h2 with ⟨-, b⟩ | ⟨e, -⟩
    · exact own_apart c a b
    · exact h3 e
  · exact h4 e
theorem own_ag2 {c z1 z2 : Int32} (h1 : (z1 = 1 ∧ Ns c) ∨ (z1 = 0 ∧ ¬ Ns c)) (h2 : (z2 = 1 ∧ Gp c) ∨ (z2 = 0 ∧ ¬ Gp c)) (h3 : z2 = (0 : Int32)) (h4 : ¬ z1 = (1 : Int32)) : False := by
  rcases h1 with ⟨e, -⟩ | ⟨-, a⟩
  · exact h4 e
  · rcases h2 with ⟨e, -⟩ | ⟨-, b⟩
    · rw [h3] at e; exact absurd e (by decide)
    · exact own_all c a b
def own_arr : List Value := [.int 65, .int 90, .int 95, .int 97, .int 122, .int 192, .int 214, .int 216, .int 246, .int 248, .int 767, .int 880, .int 893, .int 895, .int 8191, .int 8204, .int 8205, .int 8304, .int 8591, .int 11264, .int 12271, .int 12289, .int 55295, .int 63744, .int 64975, .int 65008, .int 65533, .int 65536, .int 983039]
theorem own_get29 (i : Nat) (h : i < 29) : ∃ z : Int32, own_arr[i]? = some (.int z) := by
  have : ∀ v ∈ own_arr, ∃ z : Int32, v = .int z := by
    intro v hv
    simp only [own_arr, List.mem_cons, List.not_mem_nil, or_false] at hv
    rcases hv with rfl | rfl | rfl | rfl | rfl | rfl | rfl | rfl | rfl | rfl | rfl | rfl | rfl | rfl | rfl | rfl | rfl | rfl | rfl | rfl | rfl | rfl | rfl | rfl | rfl | rfl | rfl | rfl | rfl <;> exact ⟨_, rfl⟩
  have hl : own_arr.length = 29 := rfl
  obtain ⟨z, hz⟩ := this _ (List.getElem_mem (l := own_arr) (n := i) (by omega))
  exact ⟨z, by rw [List.getElem?_eq_getElem (by omega), hz]⟩
set_option maxRecDepth 65536 in
set_option maxHeartbeats 40000000 in
theorem con2 (G : Gx) (hw : ∀ d ∈ tables_1, d.before G.a0 G.Z = true) (c : Int32) (h : Heap) :
    Con G (⟨"quadrille/Lexer", "isNameStartChar", "(I)Z"⟩ : MethodName) prog_70_method_38_code 1 (some .boolean) rm2 #[(.int c)] h (fun v h' => ∃ z : Int32, v = some (.int z) ∧ h = h' ∧ ((z = 1 ∧ Ns c) ∨ (z = 0 ∧ ¬ Ns c))) := by
  refine Con.of (W := tables_1) (plainFor_of_name pn2) hw (fun m => ef2 m c) (fun K C => ?_)
  have C : Cx G K "quadrille/Lexer" "isNameStartChar" prog_70_method_38_code 1 (some .boolean) tables_1 := C
  generalize hQ : (fun v h' => ∃ z : Int32, v = some (.int z) ∧ h = h' ∧ ((z = 1 ∧ Ns c) ∨ (z = 0 ∧ ¬ Ns c)) : Option Value → Heap → Prop) = Q
  suffices j6 : ¬ (95 ≤ c.toInt ∧ c.toInt ≤ 95) → N G K rm2 Q h 0 0 6 #[.val (.int c)] [] by
    refine N.iloadN C (pc' := 1) d2_0 rfl rfl ?_
    refine N.bipush C (pc' := 3) (z := 95) d2_1 rfl rfl ?_
    refine N.icmp C (pt := 198) (pf := 6) d2_3 rfl rfl (fun (hc3 : c = (95 : Int32)) => ?_) (fun (hc3 : ¬ c = (95 : Int32)) => ?_)
    · have hi3 : c.toInt = 95 := eqI hc3
      refine N.iconst C (pc' := 199) (z := 1) d2_198 rfl rfl ?_
      refine N.goto C (pc' := 203) d2_199 rfl ?_
      exact N.retN C (by simp) (z' := (1 : Int32)) rfl d2_203 (by decide) (by decide) (by subst hQ; exact ⟨1, rfl, rfl, Or.inl ⟨rfl, (Or.inl (by omega))⟩⟩)
    · have hi3 : ¬ c.toInt = 95 := neI hc3
      exact j6 (by omega)
  intro hj6
  suffices j18 : ¬ (65 ≤ c.toInt ∧ c.toInt ≤ 90) → N G K rm2 Q h 0 0 18 #[.val (.int c)] [] by
    refine N.iloadN C (pc' := 7) d2_6 rfl rfl ?_
    refine N.bipush C (pc' := 9) (z := 65) d2_7 rfl rfl ?_
    refine N.icmp C (pt := 18) (pf := 12) d2_9 rfl rfl (fun (hc9 : c.toInt < 65) => ?_) (fun (hc9 : 65 ≤ c.toInt) => ?_)
    · exact j18 (by omega)
    · refine N.iloadN C (pc' := 13) d2_12 rfl rfl ?_
      refine N.bipush C (pc' := 15) (z := 90) d2_13 rfl rfl ?_
      refine N.icmp C (pt := 198) (pf := 18) d2_15 rfl rfl (fun (hc15 : c.toInt ≤ 90) => ?_) (fun (hc15 : 90 < c.toInt) => ?_)
      · refine N.iconst C (pc' := 199) (z := 1) d2_198 rfl rfl ?_
        refine N.goto C (pc' := 203) d2_199 rfl ?_
        exact N.retN C (by simp) (z' := (1 : Int32)) rfl d2_203 (by decide) (by decide) (by subst hQ; exact ⟨1, rfl, rfl, Or.inl ⟨rfl, (Or.inr (Or.inl (by omega)))⟩⟩)
      · exact j18 (by omega)
  intro hj18
  suffices j30 : ¬ (97 ≤ c.toInt ∧ c.toInt ≤ 122) → N G K rm2 Q h 0 0 30 #[.val (.int c)] [] by
    refine N.iloadN C (pc' := 19) d2_18 rfl rfl ?_
    refine N.bipush C (pc' := 21) (z := 97) d2_19 rfl rfl ?_
    refine N.icmp C (pt := 30) (pf := 24) d2_21 rfl rfl (fun (hc21 : c.toInt < 97) => ?_) (fun (hc21 : 97 ≤ c.toInt) => ?_)
    · exact j30 (by omega)
    · refine N.iloadN C (pc' := 25) d2_24 rfl rfl ?_
      refine N.bipush C (pc' := 27) (z := 122) d2_25 rfl rfl ?_
      refine N.icmp C (pt := 198) (pf := 30) d2_27 rfl rfl (fun (hc27 : c.toInt ≤ 122) => ?_) (fun (hc27 : 122 < c.toInt) => ?_)
      · refine N.iconst C (pc' := 199) (z := 1) d2_198 rfl rfl ?_
        refine N.goto C (pc' := 203) d2_199 rfl ?_
        exact N.retN C (by simp) (z' := (1 : Int32)) rfl d2_203 (by decide) (by decide) (by subst hQ; exact ⟨1, rfl, rfl, Or.inl ⟨rfl, (Or.inr (Or.inr (Or.inl (by omega))))⟩⟩)
      · exact j30 (by omega)
  intro hj30
  suffices j44 : ¬ (192 ≤ c.toInt ∧ c.toInt ≤ 214) → N G K rm2 Q h 0 0 44 #[.val (.int c)] [] by
    refine N.iloadN C (pc' := 31) d2_30 rfl rfl ?_
    refine N.sipush C (pc' := 34) (z := 192) d2_31 rfl rfl ?_
    refine N.icmp C (pt := 44) (pf := 37) d2_34 rfl rfl (fun (hc34 : c.toInt < 192) => ?_) (fun (hc34 : 192 ≤ c.toInt) => ?_)
    · exact j44 (by omega)
    · refine N.iloadN C (pc' := 38) d2_37 rfl rfl ?_
      refine N.sipush C (pc' := 41) (z := 214) d2_38 rfl rfl ?_
      refine N.icmp C (pt := 198) (pf := 44) d2_41 rfl rfl (fun (hc41 : c.toInt ≤ 214) => ?_) (fun (hc41 : 214 < c.toInt) => ?_)
      · refine N.iconst C (pc' := 199) (z := 1) d2_198 rfl rfl ?_
        refine N.goto C (pc' := 203) d2_199 rfl ?_
        exact N.retN C (by simp) (z' := (1 : Int32)) rfl d2_203 (by decide) (by decide) (by subst hQ; exact ⟨1, rfl, rfl, Or.inl ⟨rfl, (Or.inr (Or.inr (Or.inr (Or.inl (by omega)))))⟩⟩)
      · exact j44 (by omega)
  intro hj44
  suffices j58 : ¬ (216 ≤ c.toInt ∧ c.toInt ≤ 246) → N G K rm2 Q h 0 0 58 #[.val (.int c)] [] by
    refine N.iloadN C (pc' := 45) d2_44 rfl rfl ?_
    refine N.sipush C (pc' := 48) (z := 216) d2_45 rfl rfl ?_
    refine N.icmp C (pt := 58) (pf := 51) d2_48 rfl rfl (fun (hc48 : c.toInt < 216) => ?_) (fun (hc48 : 216 ≤ c.toInt) => ?_)
    · exact j58 (by omega)
    · refine N.iloadN C (pc' := 52) d2_51 rfl rfl ?_
      refine N.sipush C (pc' := 55) (z := 246) d2_52 rfl rfl ?_
      refine N.icmp C (pt := 198) (pf := 58) d2_55 rfl rfl (fun (hc55 : c.toInt ≤ 246) => ?_) (fun (hc55 : 246 < c.toInt) => ?_)
      · refine N.iconst C (pc' := 199) (z := 1) d2_198 rfl rfl ?_
        refine N.goto C (pc' := 203) d2_199 rfl ?_
        exact N.retN C (by simp) (z' := (1 : Int32)) rfl d2_203 (by decide) (by decide) (by subst hQ; exact ⟨1, rfl, rfl, Or.inl ⟨rfl, (Or.inr (Or.inr (Or.inr (Or.inr (Or.inl (by omega))))))⟩⟩)
      · exact j58 (by omega)
  intro hj58
  suffices j72 : ¬ (248 ≤ c.toInt ∧ c.toInt ≤ 767) → N G K rm2 Q h 0 0 72 #[.val (.int c)] [] by
    refine N.iloadN C (pc' := 59) d2_58 rfl rfl ?_
    refine N.sipush C (pc' := 62) (z := 248) d2_59 rfl rfl ?_
    refine N.icmp C (pt := 72) (pf := 65) d2_62 rfl rfl (fun (hc62 : c.toInt < 248) => ?_) (fun (hc62 : 248 ≤ c.toInt) => ?_)
    · exact j72 (by omega)
    · refine N.iloadN C (pc' := 66) d2_65 rfl rfl ?_
      refine N.sipush C (pc' := 69) (z := 767) d2_66 rfl rfl ?_
      refine N.icmp C (pt := 198) (pf := 72) d2_69 rfl rfl (fun (hc69 : c.toInt ≤ 767) => ?_) (fun (hc69 : 767 < c.toInt) => ?_)
      · refine N.iconst C (pc' := 199) (z := 1) d2_198 rfl rfl ?_
        refine N.goto C (pc' := 203) d2_199 rfl ?_
        exact N.retN C (by simp) (z' := (1 : Int32)) rfl d2_203 (by decide) (by decide) (by subst hQ; exact ⟨1, rfl, rfl, Or.inl ⟨rfl, (Or.inr (Or.inr (Or.inr (Or.inr (Or.inr (Or.inl (by omega)))))))⟩⟩)
      · exact j72 (by omega)
  intro hj72
  suffices j86 : ¬ (880 ≤ c.toInt ∧ c.toInt ≤ 893) → N G K rm2 Q h 0 0 86 #[.val (.int c)] [] by
    refine N.iloadN C (pc' := 73) d2_72 rfl rfl ?_
    refine N.sipush C (pc' := 76) (z := 880) d2_73 rfl rfl ?_
    refine N.icmp C (pt := 86) (pf := 79) d2_76 rfl rfl (fun (hc76 : c.toInt < 880) => ?_) (fun (hc76 : 880 ≤ c.toInt) => ?_)
    · exact j86 (by omega)
    · refine N.iloadN C (pc' := 80) d2_79 rfl rfl ?_
      refine N.sipush C (pc' := 83) (z := 893) d2_80 rfl rfl ?_
      refine N.icmp C (pt := 198) (pf := 86) d2_83 rfl rfl (fun (hc83 : c.toInt ≤ 893) => ?_) (fun (hc83 : 893 < c.toInt) => ?_)
      · refine N.iconst C (pc' := 199) (z := 1) d2_198 rfl rfl ?_
        refine N.goto C (pc' := 203) d2_199 rfl ?_
        exact N.retN C (by simp) (z' := (1 : Int32)) rfl d2_203 (by decide) (by decide) (by subst hQ; exact ⟨1, rfl, rfl, Or.inl ⟨rfl, (Or.inr (Or.inr (Or.inr (Or.inr (Or.inr (Or.inr (Or.inl (by omega))))))))⟩⟩)
      · exact j86 (by omega)
  intro hj86
  suffices j100 : ¬ (895 ≤ c.toInt ∧ c.toInt ≤ 8191) → N G K rm2 Q h 0 0 100 #[.val (.int c)] [] by
    refine N.iloadN C (pc' := 87) d2_86 rfl rfl ?_
    refine N.sipush C (pc' := 90) (z := 895) d2_87 rfl rfl ?_
    refine N.icmp C (pt := 100) (pf := 93) d2_90 rfl rfl (fun (hc90 : c.toInt < 895) => ?_) (fun (hc90 : 895 ≤ c.toInt) => ?_)
    · exact j100 (by omega)
    · refine N.iloadN C (pc' := 94) d2_93 rfl rfl ?_
      refine N.sipush C (pc' := 97) (z := 8191) d2_94 rfl rfl ?_
      refine N.icmp C (pt := 198) (pf := 100) d2_97 rfl rfl (fun (hc97 : c.toInt ≤ 8191) => ?_) (fun (hc97 : 8191 < c.toInt) => ?_)
      · refine N.iconst C (pc' := 199) (z := 1) d2_198 rfl rfl ?_
        refine N.goto C (pc' := 203) d2_199 rfl ?_
        exact N.retN C (by simp) (z' := (1 : Int32)) rfl d2_203 (by decide) (by decide) (by subst hQ; exact ⟨1, rfl, rfl, Or.inl ⟨rfl, (Or.inr (Or.inr (Or.inr (Or.inr (Or.inr (Or.inr (Or.inr (Or.inl (by omega)))))))))⟩⟩)
      · exact j100 (by omega)
  intro hj100
  suffices j114 : ¬ (8204 ≤ c.toInt ∧ c.toInt ≤ 8205) → N G K rm2 Q h 0 0 114 #[.val (.int c)] [] by
    refine N.iloadN C (pc' := 101) d2_100 rfl rfl ?_
    refine N.sipush C (pc' := 104) (z := 8204) d2_101 rfl rfl ?_
    refine N.icmp C (pt := 114) (pf := 107) d2_104 rfl rfl (fun (hc104 : c.toInt < 8204) => ?_) (fun (hc104 : 8204 ≤ c.toInt) => ?_)
    · exact j114 (by omega)
    · refine N.iloadN C (pc' := 108) d2_107 rfl rfl ?_
      refine N.sipush C (pc' := 111) (z := 8205) d2_108 rfl rfl ?_
      refine N.icmp C (pt := 198) (pf := 114) d2_111 rfl rfl (fun (hc111 : c.toInt ≤ 8205) => ?_) (fun (hc111 : 8205 < c.toInt) => ?_)
      · refine N.iconst C (pc' := 199) (z := 1) d2_198 rfl rfl ?_
        refine N.goto C (pc' := 203) d2_199 rfl ?_
        exact N.retN C (by simp) (z' := (1 : Int32)) rfl d2_203 (by decide) (by decide) (by subst hQ; exact ⟨1, rfl, rfl, Or.inl ⟨rfl, (Or.inr (Or.inr (Or.inr (Or.inr (Or.inr (Or.inr (Or.inr (Or.inr (Or.inl (by omega))))))))))⟩⟩)
      · exact j114 (by omega)
  intro hj114
  suffices j128 : ¬ (8304 ≤ c.toInt ∧ c.toInt ≤ 8591) → N G K rm2 Q h 0 0 128 #[.val (.int c)] [] by
    refine N.iloadN C (pc' := 115) d2_114 rfl rfl ?_
    refine N.sipush C (pc' := 118) (z := 8304) d2_115 rfl rfl ?_
    refine N.icmp C (pt := 128) (pf := 121) d2_118 rfl rfl (fun (hc118 : c.toInt < 8304) => ?_) (fun (hc118 : 8304 ≤ c.toInt) => ?_)
    · exact j128 (by omega)
    · refine N.iloadN C (pc' := 122) d2_121 rfl rfl ?_
      refine N.sipush C (pc' := 125) (z := 8591) d2_122 rfl rfl ?_
      refine N.icmp C (pt := 198) (pf := 128) d2_125 rfl rfl (fun (hc125 : c.toInt ≤ 8591) => ?_) (fun (hc125 : 8591 < c.toInt) => ?_)
      · refine N.iconst C (pc' := 199) (z := 1) d2_198 rfl rfl ?_
        refine N.goto C (pc' := 203) d2_199 rfl ?_
        exact N.retN C (by simp) (z' := (1 : Int32)) rfl d2_203 (by decide) (by decide) (by subst hQ; exact ⟨1, rfl, rfl, Or.inl ⟨rfl, (Or.inr (Or.inr (Or.inr (Or.inr (Or.inr (Or.inr (Or.inr (Or.inr (Or.inr (Or.inl (by omega)))))))))))⟩⟩)
      · exact j128 (by omega)
  intro hj128
  suffices j142 : ¬ (11264 ≤ c.toInt ∧ c.toInt ≤ 12271) → N G K rm2 Q h 0 0 142 #[.val (.int c)] [] by
    refine N.iloadN C (pc' := 129) d2_128 rfl rfl ?_
    refine N.sipush C (pc' := 132) (z := 11264) d2_129 rfl rfl ?_
    refine N.icmp C (pt := 142) (pf := 135) d2_132 rfl rfl (fun (hc132 : c.toInt < 11264) => ?_) (fun (hc132 : 11264 ≤ c.toInt) => ?_)
    · exact j142 (by omega)
    · refine N.iloadN C (pc' := 136) d2_135 rfl rfl ?_
      refine N.sipush C (pc' := 139) (z := 12271) d2_136 rfl rfl ?_
      refine N.icmp C (pt := 198) (pf := 142) d2_139 rfl rfl (fun (hc139 : c.toInt ≤ 12271) => ?_) (fun (hc139 : 12271 < c.toInt) => ?_)
      · refine N.iconst C (pc' := 199) (z := 1) d2_198 rfl rfl ?_
        refine N.goto C (pc' := 203) d2_199 rfl ?_
        exact N.retN C (by simp) (z' := (1 : Int32)) rfl d2_203 (by decide) (by decide) (by subst hQ; exact ⟨1, rfl, rfl, Or.inl ⟨rfl, (Or.inr (Or.inr (Or.inr (Or.inr (Or.inr (Or.inr (Or.inr (Or.inr (Or.inr (Or.inr (Or.inl (by omega))))))))))))⟩⟩)
      · exact j142 (by omega)
  intro hj142
  suffices j156 : ¬ (12289 ≤ c.toInt ∧ c.toInt ≤ 55295) → N G K rm2 Q h 0 0 156 #[.val (.int c)] [] by
    refine N.iloadN C (pc' := 143) d2_142 rfl rfl ?_
    refine N.sipush C (pc' := 146) (z := 12289) d2_143 rfl rfl ?_
    refine N.icmp C (pt := 156) (pf := 149) d2_146 rfl rfl (fun (hc146 : c.toInt < 12289) => ?_) (fun (hc146 : 12289 ≤ c.toInt) => ?_)
    · exact j156 (by omega)
    · refine N.iloadN C (pc' := 150) d2_149 rfl rfl ?_
      refine N.ldcwI C (pc' := 153) (v := 55295) d2_150 (C.w (i := 27) rfl) rfl ?_
      refine N.icmp C (pt := 198) (pf := 156) d2_153 rfl rfl (fun (hc153 : c.toInt ≤ 55295) => ?_) (fun (hc153 : 55295 < c.toInt) => ?_)
      · refine N.iconst C (pc' := 199) (z := 1) d2_198 rfl rfl ?_
        refine N.goto C (pc' := 203) d2_199 rfl ?_
        exact N.retN C (by simp) (z' := (1 : Int32)) rfl d2_203 (by decide) (by decide) (by subst hQ; exact ⟨1, rfl, rfl, Or.inl ⟨rfl, (Or.inr (Or.inr (Or.inr (Or.inr (Or.inr (Or.inr (Or.inr (Or.inr (Or.inr (Or.inr (Or.inr (Or.inl (by omega)))))))))))))⟩⟩)
      · exact j156 (by omega)
  intro hj156
  suffices j170 : ¬ (63744 ≤ c.toInt ∧ c.toInt ≤ 64975) → N G K rm2 Q h 0 0 170 #[.val (.int c)] [] by
    refine N.iloadN C (pc' := 157) d2_156 rfl rfl ?_
    refine N.ldcwI C (pc' := 160) (v := 63744) d2_157 (C.w (i := 17) rfl) rfl ?_
    refine N.icmp C (pt := 170) (pf := 163) d2_160 rfl rfl (fun (hc160 : c.toInt < 63744) => ?_) (fun (hc160 : 63744 ≤ c.toInt) => ?_)
    · exact j170 (by omega)
    · refine N.iloadN C (pc' := 164) d2_163 rfl rfl ?_
      refine N.ldcwI C (pc' := 167) (v := 64975) d2_164 (C.w (i := 28) rfl) rfl ?_
      refine N.icmp C (pt := 198) (pf := 170) d2_167 rfl rfl (fun (hc167 : c.toInt ≤ 64975) => ?_) (fun (hc167 : 64975 < c.toInt) => ?_)
      · refine N.iconst C (pc' := 199) (z := 1) d2_198 rfl rfl ?_
        refine N.goto C (pc' := 203) d2_199 rfl ?_
        exact N.retN C (by simp) (z' := (1 : Int32)) rfl d2_203 (by decide) (by decide) (by subst hQ; exact ⟨1, rfl, rfl, Or.inl ⟨rfl, (Or.inr (Or.inr (Or.inr (Or.inr (Or.inr (Or.inr (Or.inr (Or.inr (Or.inr (Or.inr (Or.inr (Or.inr (Or.inl (by omega))))))))))))))⟩⟩)
      · exact j170 (by omega)
  intro hj170
  suffices j184 : ¬ (65008 ≤ c.toInt ∧ c.toInt ≤ 65533) → N G K rm2 Q h 0 0 184 #[.val (.int c)] [] by
    refine N.iloadN C (pc' := 171) d2_170 rfl rfl ?_
    refine N.ldcwI C (pc' := 174) (v := 65008) d2_171 (C.w (i := 18) rfl) rfl ?_
    refine N.icmp C (pt := 184) (pf := 177) d2_174 rfl rfl (fun (hc174 : c.toInt < 65008) => ?_) (fun (hc174 : 65008 ≤ c.toInt) => ?_)
    · exact j184 (by omega)
    · refine N.iloadN C (pc' := 178) d2_177 rfl rfl ?_
      refine N.ldcwI C (pc' := 181) (v := 65533) d2_178 (C.w (i := 29) rfl) rfl ?_
      refine N.icmp C (pt := 198) (pf := 184) d2_181 rfl rfl (fun (hc181 : c.toInt ≤ 65533) => ?_) (fun (hc181 : 65533 < c.toInt) => ?_)
      · refine N.iconst C (pc' := 199) (z := 1) d2_198 rfl rfl ?_
        refine N.goto C (pc' := 203) d2_199 rfl ?_
        exact N.retN C (by simp) (z' := (1 : Int32)) rfl d2_203 (by decide) (by decide) (by subst hQ; exact ⟨1, rfl, rfl, Or.inl ⟨rfl, (Or.inr (Or.inr (Or.inr (Or.inr (Or.inr (Or.inr (Or.inr (Or.inr (Or.inr (Or.inr (Or.inr (Or.inr (Or.inr (Or.inl (by omega)))))))))))))))⟩⟩)
      · exact j184 (by omega)
  intro hj184
  refine N.iloadN C (pc' := 185) d2_184 rfl rfl ?_
  refine N.ldcwI C (pc' := 188) (v := 65536) d2_185 (C.w (i := 19) rfl) rfl ?_
  refine N.icmp C (pt := 202) (pf := 191) d2_188 rfl rfl (fun (hc188 : c.toInt < 65536) => ?_) (fun (hc188 : 65536 ≤ c.toInt) => ?_)
  · refine N.iconst C (pc' := 203) (z := 0) d2_202 rfl rfl ?_
    exact N.retN C (by simp) (z' := (0 : Int32)) rfl d2_203 (by decide) (by decide) (by subst hQ; exact ⟨0, rfl, rfl, Or.inr ⟨rfl, (not_or.mpr ⟨hj6, (not_or.mpr ⟨hj18, (not_or.mpr ⟨hj30, (not_or.mpr ⟨hj44, (not_or.mpr ⟨hj58, (not_or.mpr ⟨hj72, (not_or.mpr ⟨hj86, (not_or.mpr ⟨hj100, (not_or.mpr ⟨hj114, (not_or.mpr ⟨hj128, (not_or.mpr ⟨hj142, (not_or.mpr ⟨hj156, (not_or.mpr ⟨hj170, (not_or.mpr ⟨hj184, (by omega : ¬ (65536 ≤ c.toInt ∧ c.toInt ≤ 983039))⟩)⟩)⟩)⟩)⟩)⟩)⟩)⟩)⟩)⟩)⟩)⟩)⟩)⟩)⟩⟩)
  · refine N.iloadN C (pc' := 192) d2_191 rfl rfl ?_
    refine N.ldcwI C (pc' := 195) (v := 983039) d2_192 (C.w (i := 30) rfl) rfl ?_
    refine N.icmp C (pt := 202) (pf := 198) d2_195 rfl rfl (fun (hc195 : 983039 < c.toInt) => ?_) (fun (hc195 : c.toInt ≤ 983039) => ?_)
    · refine N.iconst C (pc' := 203) (z := 0) d2_202 rfl rfl ?_
      exact N.retN C (by simp) (z' := (0 : Int32)) rfl d2_203 (by decide) (by decide) (by subst hQ; exact ⟨0, rfl, rfl, Or.inr ⟨rfl, (not_or.mpr ⟨hj6, (not_or.mpr ⟨hj18, (not_or.mpr ⟨hj30, (not_or.mpr ⟨hj44, (not_or.mpr ⟨hj58, (not_or.mpr ⟨hj72, (not_or.mpr ⟨hj86, (not_or.mpr ⟨hj100, (not_or.mpr ⟨hj114, (not_or.mpr ⟨hj128, (not_or.mpr ⟨hj142, (not_or.mpr ⟨hj156, (not_or.mpr ⟨hj170, (not_or.mpr ⟨hj184, (by omega : ¬ (65536 ≤ c.toInt ∧ c.toInt ≤ 983039))⟩)⟩)⟩)⟩)⟩)⟩)⟩)⟩)⟩)⟩)⟩)⟩)⟩)⟩)⟩⟩)
    · refine N.iconst C (pc' := 199) (z := 1) d2_198 rfl rfl ?_
      refine N.goto C (pc' := 203) d2_199 rfl ?_
      exact N.retN C (by simp) (z' := (1 : Int32)) rfl d2_203 (by decide) (by decide) (by subst hQ; exact ⟨1, rfl, rfl, Or.inl ⟨rfl, (Or.inr (Or.inr (Or.inr (Or.inr (Or.inr (Or.inr (Or.inr (Or.inr (Or.inr (Or.inr (Or.inr (Or.inr (Or.inr (Or.inr (by omega)))))))))))))))⟩⟩)
set_option maxRecDepth 65536 in
set_option maxHeartbeats 40000000 in
theorem con3 (G : Gx) (hw : ∀ d ∈ tables_1, d.before G.a0 G.Z = true) (c : Int32) (h : Heap) :
    Con G (⟨"quadrille/LexerIsNameStartCharPinLaw", "inGap", "(I)Z"⟩ : MethodName) method_2_code 1 (some .boolean) rm3 #[(.int c)] h (fun v h' => ∃ z : Int32, v = some (.int z) ∧ h = h' ∧ ((z = 1 ∧ Gp c) ∨ (z = 0 ∧ ¬ Gp c))) := by
  refine Con.of (W := tables_1) (plainFor_of_name pn3) hw (fun m => ef3 m c) (fun K C => ?_)
  have C : Cx G K "quadrille/LexerIsNameStartCharPinLaw" "inGap" method_2_code 1 (some .boolean) tables_1 := C
  generalize hQ : (fun v h' => ∃ z : Int32, v = some (.int z) ∧ h = h' ∧ ((z = 1 ∧ Gp c) ∨ (z = 0 ∧ ¬ Gp c)) : Option Value → Heap → Prop) = Q
  suffices j6 : ¬ (c.toInt ≤ 64) → N G K rm3 Q h 0 0 6 #[.val (.int c)] [] by
    refine N.iloadN C (pc' := 1) d3_0 rfl rfl ?_
    refine N.bipush C (pc' := 3) (z := 65) d3_1 rfl rfl ?_
    refine N.icmp C (pt := 170) (pf := 6) d3_3 rfl rfl (fun (hc3 : c.toInt < 65) => ?_) (fun (hc3 : 65 ≤ c.toInt) => ?_)
    · refine N.iconst C (pc' := 171) (z := 1) d3_170 rfl rfl ?_
      refine N.goto C (pc' := 175) d3_171 rfl ?_
      exact N.retN C (by simp) (z' := (1 : Int32)) rfl d3_175 (by decide) (by decide) (by subst hQ; exact ⟨1, rfl, rfl, Or.inl ⟨rfl, (Or.inl (by omega))⟩⟩)
    · exact j6 (by omega)
  intro hj6
  suffices j18 : ¬ (91 ≤ c.toInt ∧ c.toInt ≤ 94) → N G K rm3 Q h 0 0 18 #[.val (.int c)] [] by
    refine N.iloadN C (pc' := 7) d3_6 rfl rfl ?_
    refine N.bipush C (pc' := 9) (z := 91) d3_7 rfl rfl ?_
    refine N.icmp C (pt := 18) (pf := 12) d3_9 rfl rfl (fun (hc9 : c.toInt < 91) => ?_) (fun (hc9 : 91 ≤ c.toInt) => ?_)
    · exact j18 (by omega)
    · refine N.iloadN C (pc' := 13) d3_12 rfl rfl ?_
      refine N.bipush C (pc' := 15) (z := 94) d3_13 rfl rfl ?_
      refine N.icmp C (pt := 170) (pf := 18) d3_15 rfl rfl (fun (hc15 : c.toInt ≤ 94) => ?_) (fun (hc15 : 94 < c.toInt) => ?_)
      · refine N.iconst C (pc' := 171) (z := 1) d3_170 rfl rfl ?_
        refine N.goto C (pc' := 175) d3_171 rfl ?_
        exact N.retN C (by simp) (z' := (1 : Int32)) rfl d3_175 (by decide) (by decide) (by subst hQ; exact ⟨1, rfl, rfl, Or.inl ⟨rfl, (Or.inr (Or.inl (by omega)))⟩⟩)
      · exact j18 (by omega)
  intro hj18
  suffices j24 : ¬ (96 ≤ c.toInt ∧ c.toInt ≤ 96) → N G K rm3 Q h 0 0 24 #[.val (.int c)] [] by
    refine N.iloadN C (pc' := 19) d3_18 rfl rfl ?_
    refine N.bipush C (pc' := 21) (z := 96) d3_19 rfl rfl ?_
    refine N.icmp C (pt := 170) (pf := 24) d3_21 rfl rfl (fun (hc21 : c = (96 : Int32)) => ?_) (fun (hc21 : ¬ c = (96 : Int32)) => ?_)
    · have hi21 : c.toInt = 96 := eqI hc21
      refine N.iconst C (pc' := 171) (z := 1) d3_170 rfl rfl ?_
      refine N.goto C (pc' := 175) d3_171 rfl ?_
      exact N.retN C (by simp) (z' := (1 : Int32)) rfl d3_175 (by decide) (by decide) (by subst hQ; exact ⟨1, rfl, rfl, Or.inl ⟨rfl, (Or.inr (Or.inr (Or.inl (by omega))))⟩⟩)
    · have hi21 : ¬ c.toInt = 96 := neI hc21
      exact j24 (by omega)
  intro hj24
  suffices j37 : ¬ (123 ≤ c.toInt ∧ c.toInt ≤ 191) → N G K rm3 Q h 0 0 37 #[.val (.int c)] [] by
    refine N.iloadN C (pc' := 25) d3_24 rfl rfl ?_
    refine N.bipush C (pc' := 27) (z := 123) d3_25 rfl rfl ?_
    refine N.icmp C (pt := 37) (pf := 30) d3_27 rfl rfl (fun (hc27 : c.toInt < 123) => ?_) (fun (hc27 : 123 ≤ c.toInt) => ?_)
    · exact j37 (by omega)
    · refine N.iloadN C (pc' := 31) d3_30 rfl rfl ?_
      refine N.sipush C (pc' := 34) (z := 191) d3_31 rfl rfl ?_
      refine N.icmp C (pt := 170) (pf := 37) d3_34 rfl rfl (fun (hc34 : c.toInt ≤ 191) => ?_) (fun (hc34 : 191 < c.toInt) => ?_)
      · refine N.iconst C (pc' := 171) (z := 1) d3_170 rfl rfl ?_
        refine N.goto C (pc' := 175) d3_171 rfl ?_
        exact N.retN C (by simp) (z' := (1 : Int32)) rfl d3_175 (by decide) (by decide) (by subst hQ; exact ⟨1, rfl, rfl, Or.inl ⟨rfl, (Or.inr (Or.inr (Or.inr (Or.inl (by omega)))))⟩⟩)
      · exact j37 (by omega)
  intro hj37
  suffices j44 : ¬ (215 ≤ c.toInt ∧ c.toInt ≤ 215) → N G K rm3 Q h 0 0 44 #[.val (.int c)] [] by
    refine N.iloadN C (pc' := 38) d3_37 rfl rfl ?_
    refine N.sipush C (pc' := 41) (z := 215) d3_38 rfl rfl ?_
    refine N.icmp C (pt := 170) (pf := 44) d3_41 rfl rfl (fun (hc41 : c = (215 : Int32)) => ?_) (fun (hc41 : ¬ c = (215 : Int32)) => ?_)
    · have hi41 : c.toInt = 215 := eqI hc41
      refine N.iconst C (pc' := 171) (z := 1) d3_170 rfl rfl ?_
      refine N.goto C (pc' := 175) d3_171 rfl ?_
      exact N.retN C (by simp) (z' := (1 : Int32)) rfl d3_175 (by decide) (by decide) (by subst hQ; exact ⟨1, rfl, rfl, Or.inl ⟨rfl, (Or.inr (Or.inr (Or.inr (Or.inr (Or.inl (by omega))))))⟩⟩)
    · have hi41 : ¬ c.toInt = 215 := neI hc41
      exact j44 (by omega)
  intro hj44
  suffices j51 : ¬ (247 ≤ c.toInt ∧ c.toInt ≤ 247) → N G K rm3 Q h 0 0 51 #[.val (.int c)] [] by
    refine N.iloadN C (pc' := 45) d3_44 rfl rfl ?_
    refine N.sipush C (pc' := 48) (z := 247) d3_45 rfl rfl ?_
    refine N.icmp C (pt := 170) (pf := 51) d3_48 rfl rfl (fun (hc48 : c = (247 : Int32)) => ?_) (fun (hc48 : ¬ c = (247 : Int32)) => ?_)
    · have hi48 : c.toInt = 247 := eqI hc48
      refine N.iconst C (pc' := 171) (z := 1) d3_170 rfl rfl ?_
      refine N.goto C (pc' := 175) d3_171 rfl ?_
      exact N.retN C (by simp) (z' := (1 : Int32)) rfl d3_175 (by decide) (by decide) (by subst hQ; exact ⟨1, rfl, rfl, Or.inl ⟨rfl, (Or.inr (Or.inr (Or.inr (Or.inr (Or.inr (Or.inl (by omega)))))))⟩⟩)
    · have hi48 : ¬ c.toInt = 247 := neI hc48
      exact j51 (by omega)
  intro hj51
  suffices j65 : ¬ (768 ≤ c.toInt ∧ c.toInt ≤ 879) → N G K rm3 Q h 0 0 65 #[.val (.int c)] [] by
    refine N.iloadN C (pc' := 52) d3_51 rfl rfl ?_
    refine N.sipush C (pc' := 55) (z := 768) d3_52 rfl rfl ?_
    refine N.icmp C (pt := 65) (pf := 58) d3_55 rfl rfl (fun (hc55 : c.toInt < 768) => ?_) (fun (hc55 : 768 ≤ c.toInt) => ?_)
    · exact j65 (by omega)
    · refine N.iloadN C (pc' := 59) d3_58 rfl rfl ?_
      refine N.sipush C (pc' := 62) (z := 879) d3_59 rfl rfl ?_
      refine N.icmp C (pt := 170) (pf := 65) d3_62 rfl rfl (fun (hc62 : c.toInt ≤ 879) => ?_) (fun (hc62 : 879 < c.toInt) => ?_)
      · refine N.iconst C (pc' := 171) (z := 1) d3_170 rfl rfl ?_
        refine N.goto C (pc' := 175) d3_171 rfl ?_
        exact N.retN C (by simp) (z' := (1 : Int32)) rfl d3_175 (by decide) (by decide) (by subst hQ; exact ⟨1, rfl, rfl, Or.inl ⟨rfl, (Or.inr (Or.inr (Or.inr (Or.inr (Or.inr (Or.inr (Or.inl (by omega))))))))⟩⟩)
      · exact j65 (by omega)
  intro hj65
  suffices j72 : ¬ (894 ≤ c.toInt ∧ c.toInt ≤ 894) → N G K rm3 Q h 0 0 72 #[.val (.int c)] [] by
    refine N.iloadN C (pc' := 66) d3_65 rfl rfl ?_
    refine N.sipush C (pc' := 69) (z := 894) d3_66 rfl rfl ?_
    refine N.icmp C (pt := 170) (pf := 72) d3_69 rfl rfl (fun (hc69 : c = (894 : Int32)) => ?_) (fun (hc69 : ¬ c = (894 : Int32)) => ?_)
    · have hi69 : c.toInt = 894 := eqI hc69
      refine N.iconst C (pc' := 171) (z := 1) d3_170 rfl rfl ?_
      refine N.goto C (pc' := 175) d3_171 rfl ?_
      exact N.retN C (by simp) (z' := (1 : Int32)) rfl d3_175 (by decide) (by decide) (by subst hQ; exact ⟨1, rfl, rfl, Or.inl ⟨rfl, (Or.inr (Or.inr (Or.inr (Or.inr (Or.inr (Or.inr (Or.inr (Or.inl (by omega)))))))))⟩⟩)
    · have hi69 : ¬ c.toInt = 894 := neI hc69
      exact j72 (by omega)
  intro hj72
  suffices j86 : ¬ (8192 ≤ c.toInt ∧ c.toInt ≤ 8203) → N G K rm3 Q h 0 0 86 #[.val (.int c)] [] by
    refine N.iloadN C (pc' := 73) d3_72 rfl rfl ?_
    refine N.sipush C (pc' := 76) (z := 8192) d3_73 rfl rfl ?_
    refine N.icmp C (pt := 86) (pf := 79) d3_76 rfl rfl (fun (hc76 : c.toInt < 8192) => ?_) (fun (hc76 : 8192 ≤ c.toInt) => ?_)
    · exact j86 (by omega)
    · refine N.iloadN C (pc' := 80) d3_79 rfl rfl ?_
      refine N.sipush C (pc' := 83) (z := 8203) d3_80 rfl rfl ?_
      refine N.icmp C (pt := 170) (pf := 86) d3_83 rfl rfl (fun (hc83 : c.toInt ≤ 8203) => ?_) (fun (hc83 : 8203 < c.toInt) => ?_)
      · refine N.iconst C (pc' := 171) (z := 1) d3_170 rfl rfl ?_
        refine N.goto C (pc' := 175) d3_171 rfl ?_
        exact N.retN C (by simp) (z' := (1 : Int32)) rfl d3_175 (by decide) (by decide) (by subst hQ; exact ⟨1, rfl, rfl, Or.inl ⟨rfl, (Or.inr (Or.inr (Or.inr (Or.inr (Or.inr (Or.inr (Or.inr (Or.inr (Or.inl (by omega))))))))))⟩⟩)
      · exact j86 (by omega)
  intro hj86
  suffices j100 : ¬ (8206 ≤ c.toInt ∧ c.toInt ≤ 8303) → N G K rm3 Q h 0 0 100 #[.val (.int c)] [] by
    refine N.iloadN C (pc' := 87) d3_86 rfl rfl ?_
    refine N.sipush C (pc' := 90) (z := 8206) d3_87 rfl rfl ?_
    refine N.icmp C (pt := 100) (pf := 93) d3_90 rfl rfl (fun (hc90 : c.toInt < 8206) => ?_) (fun (hc90 : 8206 ≤ c.toInt) => ?_)
    · exact j100 (by omega)
    · refine N.iloadN C (pc' := 94) d3_93 rfl rfl ?_
      refine N.sipush C (pc' := 97) (z := 8303) d3_94 rfl rfl ?_
      refine N.icmp C (pt := 170) (pf := 100) d3_97 rfl rfl (fun (hc97 : c.toInt ≤ 8303) => ?_) (fun (hc97 : 8303 < c.toInt) => ?_)
      · refine N.iconst C (pc' := 171) (z := 1) d3_170 rfl rfl ?_
        refine N.goto C (pc' := 175) d3_171 rfl ?_
        exact N.retN C (by simp) (z' := (1 : Int32)) rfl d3_175 (by decide) (by decide) (by subst hQ; exact ⟨1, rfl, rfl, Or.inl ⟨rfl, (Or.inr (Or.inr (Or.inr (Or.inr (Or.inr (Or.inr (Or.inr (Or.inr (Or.inr (Or.inl (by omega)))))))))))⟩⟩)
      · exact j100 (by omega)
  intro hj100
  suffices j114 : ¬ (8592 ≤ c.toInt ∧ c.toInt ≤ 11263) → N G K rm3 Q h 0 0 114 #[.val (.int c)] [] by
    refine N.iloadN C (pc' := 101) d3_100 rfl rfl ?_
    refine N.sipush C (pc' := 104) (z := 8592) d3_101 rfl rfl ?_
    refine N.icmp C (pt := 114) (pf := 107) d3_104 rfl rfl (fun (hc104 : c.toInt < 8592) => ?_) (fun (hc104 : 8592 ≤ c.toInt) => ?_)
    · exact j114 (by omega)
    · refine N.iloadN C (pc' := 108) d3_107 rfl rfl ?_
      refine N.sipush C (pc' := 111) (z := 11263) d3_108 rfl rfl ?_
      refine N.icmp C (pt := 170) (pf := 114) d3_111 rfl rfl (fun (hc111 : c.toInt ≤ 11263) => ?_) (fun (hc111 : 11263 < c.toInt) => ?_)
      · refine N.iconst C (pc' := 171) (z := 1) d3_170 rfl rfl ?_
        refine N.goto C (pc' := 175) d3_171 rfl ?_
        exact N.retN C (by simp) (z' := (1 : Int32)) rfl d3_175 (by decide) (by decide) (by subst hQ; exact ⟨1, rfl, rfl, Or.inl ⟨rfl, (Or.inr (Or.inr (Or.inr (Or.inr (Or.inr (Or.inr (Or.inr (Or.inr (Or.inr (Or.inr (Or.inl (by omega))))))))))))⟩⟩)
      · exact j114 (by omega)
  intro hj114
  suffices j128 : ¬ (12272 ≤ c.toInt ∧ c.toInt ≤ 12288) → N G K rm3 Q h 0 0 128 #[.val (.int c)] [] by
    refine N.iloadN C (pc' := 115) d3_114 rfl rfl ?_
    refine N.sipush C (pc' := 118) (z := 12272) d3_115 rfl rfl ?_
    refine N.icmp C (pt := 128) (pf := 121) d3_118 rfl rfl (fun (hc118 : c.toInt < 12272) => ?_) (fun (hc118 : 12272 ≤ c.toInt) => ?_)
    · exact j128 (by omega)
    · refine N.iloadN C (pc' := 122) d3_121 rfl rfl ?_
      refine N.sipush C (pc' := 125) (z := 12288) d3_122 rfl rfl ?_
      refine N.icmp C (pt := 170) (pf := 128) d3_125 rfl rfl (fun (hc125 : c.toInt ≤ 12288) => ?_) (fun (hc125 : 12288 < c.toInt) => ?_)
      · refine N.iconst C (pc' := 171) (z := 1) d3_170 rfl rfl ?_
        refine N.goto C (pc' := 175) d3_171 rfl ?_
        exact N.retN C (by simp) (z' := (1 : Int32)) rfl d3_175 (by decide) (by decide) (by subst hQ; exact ⟨1, rfl, rfl, Or.inl ⟨rfl, (Or.inr (Or.inr (Or.inr (Or.inr (Or.inr (Or.inr (Or.inr (Or.inr (Or.inr (Or.inr (Or.inr (Or.inl (by omega)))))))))))))⟩⟩)
      · exact j128 (by omega)
  intro hj128
  suffices j140 : ¬ (55296 ≤ c.toInt ∧ c.toInt ≤ 63743) → N G K rm3 Q h 0 0 140 #[.val (.int c)] [] by
    refine N.iloadN C (pc' := 129) d3_128 rfl rfl ?_
    refine N.ldcI C (pc' := 131) (v := 55296) d3_129 (C.w (i := 24) rfl) rfl ?_
    refine N.icmp C (pt := 140) (pf := 134) d3_131 rfl rfl (fun (hc131 : c.toInt < 55296) => ?_) (fun (hc131 : 55296 ≤ c.toInt) => ?_)
    · exact j140 (by omega)
    · refine N.iloadN C (pc' := 135) d3_134 rfl rfl ?_
      refine N.ldcI C (pc' := 137) (v := 63743) d3_135 (C.w (i := 31) rfl) rfl ?_
      refine N.icmp C (pt := 170) (pf := 140) d3_137 rfl rfl (fun (hc137 : c.toInt ≤ 63743) => ?_) (fun (hc137 : 63743 < c.toInt) => ?_)
      · refine N.iconst C (pc' := 171) (z := 1) d3_170 rfl rfl ?_
        refine N.goto C (pc' := 175) d3_171 rfl ?_
        exact N.retN C (by simp) (z' := (1 : Int32)) rfl d3_175 (by decide) (by decide) (by subst hQ; exact ⟨1, rfl, rfl, Or.inl ⟨rfl, (Or.inr (Or.inr (Or.inr (Or.inr (Or.inr (Or.inr (Or.inr (Or.inr (Or.inr (Or.inr (Or.inr (Or.inr (Or.inl (by omega))))))))))))))⟩⟩)
      · exact j140 (by omega)
  intro hj140
  suffices j152 : ¬ (64976 ≤ c.toInt ∧ c.toInt ≤ 65007) → N G K rm3 Q h 0 0 152 #[.val (.int c)] [] by
    refine N.iloadN C (pc' := 141) d3_140 rfl rfl ?_
    refine N.ldcI C (pc' := 143) (v := 64976) d3_141 (C.w (i := 25) rfl) rfl ?_
    refine N.icmp C (pt := 152) (pf := 146) d3_143 rfl rfl (fun (hc143 : c.toInt < 64976) => ?_) (fun (hc143 : 64976 ≤ c.toInt) => ?_)
    · exact j152 (by omega)
    · refine N.iloadN C (pc' := 147) d3_146 rfl rfl ?_
      refine N.ldcI C (pc' := 149) (v := 65007) d3_147 (C.w (i := 32) rfl) rfl ?_
      refine N.icmp C (pt := 170) (pf := 152) d3_149 rfl rfl (fun (hc149 : c.toInt ≤ 65007) => ?_) (fun (hc149 : 65007 < c.toInt) => ?_)
      · refine N.iconst C (pc' := 171) (z := 1) d3_170 rfl rfl ?_
        refine N.goto C (pc' := 175) d3_171 rfl ?_
        exact N.retN C (by simp) (z' := (1 : Int32)) rfl d3_175 (by decide) (by decide) (by subst hQ; exact ⟨1, rfl, rfl, Or.inl ⟨rfl, (Or.inr (Or.inr (Or.inr (Or.inr (Or.inr (Or.inr (Or.inr (Or.inr (Or.inr (Or.inr (Or.inr (Or.inr (Or.inr (Or.inl (by omega)))))))))))))))⟩⟩)
      · exact j152 (by omega)
  intro hj152
  suffices j164 : ¬ (65534 ≤ c.toInt ∧ c.toInt ≤ 65535) → N G K rm3 Q h 0 0 164 #[.val (.int c)] [] by
    refine N.iloadN C (pc' := 153) d3_152 rfl rfl ?_
    refine N.ldcI C (pc' := 155) (v := 65534) d3_153 (C.w (i := 26) rfl) rfl ?_
    refine N.icmp C (pt := 164) (pf := 158) d3_155 rfl rfl (fun (hc155 : c.toInt < 65534) => ?_) (fun (hc155 : 65534 ≤ c.toInt) => ?_)
    · exact j164 (by omega)
    · refine N.iloadN C (pc' := 159) d3_158 rfl rfl ?_
      refine N.ldcI C (pc' := 161) (v := 65535) d3_159 (C.w (i := 33) rfl) rfl ?_
      refine N.icmp C (pt := 170) (pf := 164) d3_161 rfl rfl (fun (hc161 : c.toInt ≤ 65535) => ?_) (fun (hc161 : 65535 < c.toInt) => ?_)
      · refine N.iconst C (pc' := 171) (z := 1) d3_170 rfl rfl ?_
        refine N.goto C (pc' := 175) d3_171 rfl ?_
        exact N.retN C (by simp) (z' := (1 : Int32)) rfl d3_175 (by decide) (by decide) (by subst hQ; exact ⟨1, rfl, rfl, Or.inl ⟨rfl, (Or.inr (Or.inr (Or.inr (Or.inr (Or.inr (Or.inr (Or.inr (Or.inr (Or.inr (Or.inr (Or.inr (Or.inr (Or.inr (Or.inr (Or.inl (by omega))))))))))))))))⟩⟩)
      · exact j164 (by omega)
  intro hj164
  refine N.iloadN C (pc' := 165) d3_164 rfl rfl ?_
  refine N.ldcI C (pc' := 167) (v := 983039) d3_165 (C.w (i := 7) rfl) rfl ?_
  refine N.icmp C (pt := 174) (pf := 170) d3_167 rfl rfl (fun (hc167 : c.toInt ≤ 983039) => ?_) (fun (hc167 : 983039 < c.toInt) => ?_)
  · refine N.iconst C (pc' := 175) (z := 0) d3_174 rfl rfl ?_
    exact N.retN C (by simp) (z' := (0 : Int32)) rfl d3_175 (by decide) (by decide) (by subst hQ; exact ⟨0, rfl, rfl, Or.inr ⟨rfl, (not_or.mpr ⟨hj6, (not_or.mpr ⟨hj18, (not_or.mpr ⟨hj24, (not_or.mpr ⟨hj37, (not_or.mpr ⟨hj44, (not_or.mpr ⟨hj51, (not_or.mpr ⟨hj65, (not_or.mpr ⟨hj72, (not_or.mpr ⟨hj86, (not_or.mpr ⟨hj100, (not_or.mpr ⟨hj114, (not_or.mpr ⟨hj128, (not_or.mpr ⟨hj140, (not_or.mpr ⟨hj152, (not_or.mpr ⟨hj164, (by omega : ¬ (983040 ≤ c.toInt))⟩)⟩)⟩)⟩)⟩)⟩)⟩)⟩)⟩)⟩)⟩)⟩)⟩)⟩)⟩)⟩⟩)
  · refine N.iconst C (pc' := 171) (z := 1) d3_170 rfl rfl ?_
    refine N.goto C (pc' := 175) d3_171 rfl ?_
    exact N.retN C (by simp) (z' := (1 : Int32)) rfl d3_175 (by decide) (by decide) (by subst hQ; exact ⟨1, rfl, rfl, Or.inl ⟨rfl, (Or.inr (Or.inr (Or.inr (Or.inr (Or.inr (Or.inr (Or.inr (Or.inr (Or.inr (Or.inr (Or.inr (Or.inr (Or.inr (Or.inr (Or.inr (by omega))))))))))))))))⟩⟩)
set_option maxRecDepth 65536 in
set_option maxHeartbeats 40000000 in
theorem con1 (G : Gx) (hw : ∀ d ∈ tables_1, d.before G.a0 G.Z = true) (c : Int32) (h : Heap) :
    Con G (⟨"quadrille/LexerIsNameStartCharPinLaw", "agrees", "(I)Z"⟩ : MethodName) method_3_code 1 (some .boolean) rm1 #[(.int c)] h (fun v h' => v = some (.int 1) ∧ h = h') := by
  refine Con.of (W := tables_1) (plainFor_of_name pn1) hw (fun mm => ef1 mm c) (fun K C => ?_)
  have C : Cx G K "quadrille/LexerIsNameStartCharPinLaw" "agrees" method_3_code 1 (some .boolean) tables_1 := C
  generalize hQ : (fun v h' => v = some (.int 1) ∧ h = h' : Option Value → Heap → Prop) = Q
  refine N.iloadN C (pc' := 1) d1_0 rfl rfl ?_
  refine N.callS C (pc' := 4) [(.int c)] d1_1 (C.w (i := 13) rfl) (C.w (i := 14) rfl) (C.w (i := 15) rfl) (C.w (i := 16) rfl) (by decide) (con2 G hw c h) (lenOf pd__I_Z rfl) rfl (by decide) (show 0 + (1 + 11) + _ ≤ _ from by decide) (by decide) (by decide) (rest := []) rfl rfl ?_
  rintro _ h1_1 ⟨z1, rfl, rfl, hz1⟩
  show N G K rm1 Q h 0 0 4 #[.val (.int c)] [(.int z1)]
  refine N.iloadN C (pc' := 5) d1_4 rfl rfl ?_
  refine N.callS C (pc' := 8) [(.int c)] d1_5 (C.w (i := 20) rfl) (C.w (i := 21) rfl) (C.w (i := 11) rfl) (C.w (i := 22) rfl) (by decide) (con3 G hw c h) (lenOf pd__I_Z rfl) rfl (by decide) (show 1 + (1 + 11) + _ ≤ _ from by decide) (by decide) (by decide) (rest := [(.int z1)]) rfl rfl ?_
  rintro _ h5_2 ⟨z2, rfl, rfl, hz2⟩
  show N G K rm1 Q h 0 0 8 #[.val (.int c)] [(.int z2), (.int z1)]
  refine N.ifc C (pt := 15) (pf := 11) d1_8 rfl rfl (fun (hc8 : ¬ z2 = (0 : Int32)) => ?_) (fun (hc8 : z2 = (0 : Int32)) => ?_)
  · have hi8 : ¬ z2.toInt = 0 := neI hc8
    refine N.iconst C (pc' := 16) (z := 0) d1_15 rfl rfl ?_
    refine N.icmp C (pt := 23) (pf := 19) d1_16 rfl rfl (fun (hc16 : ¬ z1 = (0 : Int32)) => absurd (show False from by exact own_ag1 hz1 hz2 hc8 hc16) id) (fun (hc16 : z1 = (0 : Int32)) => ?_)
    refine N.iconst C (pc' := 20) (z := 1) d1_19 rfl rfl ?_
    refine N.goto C (pc' := 24) d1_20 rfl ?_
    exact N.retN C (by simp) (z' := (1 : Int32)) rfl d1_24 (by decide) (by decide) (by subst hQ; exact ⟨rfl, rfl⟩)
  · have hi8 : z2.toInt = 0 := eqI hc8
    refine N.iconst C (pc' := 12) (z := 1) d1_11 rfl rfl ?_
    refine N.goto C (pc' := 16) d1_12 rfl ?_
    refine N.icmp C (pt := 23) (pf := 19) d1_16 rfl rfl (fun (hc16 : ¬ z1 = (1 : Int32)) => absurd (show False from by exact own_ag2 hz1 hz2 hc8 hc16) id) (fun (hc16 : z1 = (1 : Int32)) => ?_)
    refine N.iconst C (pc' := 20) (z := 1) d1_19 rfl rfl ?_
    refine N.goto C (pc' := 24) d1_20 rfl ?_
    exact N.retN C (by simp) (z' := (1 : Int32)) rfl d1_24 (by decide) (by decide) (by subst hQ; exact ⟨rfl, rfl⟩)
set_option maxRecDepth 65536 in
set_option maxHeartbeats 40000000 in
theorem con0 (G : Gx) (hw : ∀ d ∈ tables_1, d.before G.a0 G.Z = true) (c k p : Int32) (h : Heap) (Z0 : G.n0 ≤ h.size) :
    Con G x code maxLocals ret room_1 #[(.int c), (.int k), (.int p)] h (fun v _ => v = some (.int 1)) := by
  refine Con.of (W := tables_1) (plainFor_of_name pn0) hw (fun mm => ef0 mm c k p) (fun K C => ?_)
  have C : Cx G K "quadrille/LexerIsNameStartCharPinLaw" "law" code maxLocals ret tables_1 := C
  generalize hQ : (fun v _ => v = some (.int 1) : Option Value → Heap → Prop) = Q
  refine N.bipush C (pc' := 2) (z := 29) at_0 rfl rfl ?_
  refine N.newP C (pc' := 4) (n := (29 : Int32)) 29 at_2 (C.w (i := 0) rfl) (by decide) (by decide) (by decide) (by decide) (by decide) rfl (fun h2_1 ar hx_ar Ex2 A'_ar => ?_)
  have g_ar : G.n0 ≤ ar := by rw [hx_ar]; exact Z0
  have Z0 := Nat.le_trans Z0 Ex2.1
  have A_ar : Av G.Z h2_1 ar .int [(.int (0 : Int32)), (.int (0 : Int32)), (.int (0 : Int32)), (.int (0 : Int32)), (.int (0 : Int32)), (.int (0 : Int32)), (.int (0 : Int32)), (.int (0 : Int32)), (.int (0 : Int32)), (.int (0 : Int32)), (.int (0 : Int32)), (.int (0 : Int32)), (.int (0 : Int32)), (.int (0 : Int32)), (.int (0 : Int32)), (.int (0 : Int32)), (.int (0 : Int32)), (.int (0 : Int32)), (.int (0 : Int32)), (.int (0 : Int32)), (.int (0 : Int32)), (.int (0 : Int32)), (.int (0 : Int32)), (.int (0 : Int32)), (.int (0 : Int32)), (.int (0 : Int32)), (.int (0 : Int32)), (.int (0 : Int32)), (.int (0 : Int32))] := A'_ar
  refine N.dup C (pc' := 5) at_4 rfl rfl ?_
  refine N.iconst C (pc' := 6) (z := 0) at_5 rfl rfl ?_
  refine N.bipush C (pc' := 8) (z := 65) at_6 rfl rfl ?_
  refine N.iastore C (pc' := 9) (i := 0) at_8 A_ar rfl (by decide) g_ar rfl (fun h8_2 W8 A_ar => ?_)
  have Z0 : G.n0 ≤ _ := (Wr.size W8).symm ▸ Z0
  have A_ar : Av G.Z h8_2 ar .int [(.int (65 : Int32)), (.int (0 : Int32)), (.int (0 : Int32)), (.int (0 : Int32)), (.int (0 : Int32)), (.int (0 : Int32)), (.int (0 : Int32)), (.int (0 : Int32)), (.int (0 : Int32)), (.int (0 : Int32)), (.int (0 : Int32)), (.int (0 : Int32)), (.int (0 : Int32)), (.int (0 : Int32)), (.int (0 : Int32)), (.int (0 : Int32)), (.int (0 : Int32)), (.int (0 : Int32)), (.int (0 : Int32)), (.int (0 : Int32)), (.int (0 : Int32)), (.int (0 : Int32)), (.int (0 : Int32)), (.int (0 : Int32)), (.int (0 : Int32)), (.int (0 : Int32)), (.int (0 : Int32)), (.int (0 : Int32)), (.int (0 : Int32))] := A_ar
  refine N.dup C (pc' := 10) at_9 rfl rfl ?_
  refine N.iconst C (pc' := 11) (z := 1) at_10 rfl rfl ?_
  refine N.bipush C (pc' := 13) (z := 90) at_11 rfl rfl ?_
  refine N.iastore C (pc' := 14) (i := 1) at_13 A_ar rfl (by decide) g_ar rfl (fun h13_3 W13 A_ar => ?_)
  have Z0 : G.n0 ≤ _ := (Wr.size W13).symm ▸ Z0
  have A_ar : Av G.Z h13_3 ar .int [(.int (65 : Int32)), (.int (90 : Int32)), (.int (0 : Int32)), (.int (0 : Int32)), (.int (0 : Int32)), (.int (0 : Int32)), (.int (0 : Int32)), (.int (0 : Int32)), (.int (0 : Int32)), (.int (0 : Int32)), (.int (0 : Int32)), (.int (0 : Int32)), (.int (0 : Int32)), (.int (0 : Int32)), (.int (0 : Int32)), (.int (0 : Int32)), (.int (0 : Int32)), (.int (0 : Int32)), (.int (0 : Int32)), (.int (0 : Int32)), (.int (0 : Int32)), (.int (0 : Int32)), (.int (0 : Int32)), (.int (0 : Int32)), (.int (0 : Int32)), (.int (0 : Int32)), (.int (0 : Int32)), (.int (0 : Int32)), (.int (0 : Int32))] := A_ar
  refine N.dup C (pc' := 15) at_14 rfl rfl ?_
  refine N.iconst C (pc' := 16) (z := 2) at_15 rfl rfl ?_
  refine N.bipush C (pc' := 18) (z := 95) at_16 rfl rfl ?_
  refine N.iastore C (pc' := 19) (i := 2) at_18 A_ar rfl (by decide) g_ar rfl (fun h18_4 W18 A_ar => ?_)
  have Z0 : G.n0 ≤ _ := (Wr.size W18).symm ▸ Z0
  have A_ar : Av G.Z h18_4 ar .int [(.int (65 : Int32)), (.int (90 : Int32)), (.int (95 : Int32)), (.int (0 : Int32)), (.int (0 : Int32)), (.int (0 : Int32)), (.int (0 : Int32)), (.int (0 : Int32)), (.int (0 : Int32)), (.int (0 : Int32)), (.int (0 : Int32)), (.int (0 : Int32)), (.int (0 : Int32)), (.int (0 : Int32)), (.int (0 : Int32)), (.int (0 : Int32)), (.int (0 : Int32)), (.int (0 : Int32)), (.int (0 : Int32)), (.int (0 : Int32)), (.int (0 : Int32)), (.int (0 : Int32)), (.int (0 : Int32)), (.int (0 : Int32)), (.int (0 : Int32)), (.int (0 : Int32)), (.int (0 : Int32)), (.int (0 : Int32)), (.int (0 : Int32))] := A_ar
  refine N.dup C (pc' := 20) at_19 rfl rfl ?_
  refine N.iconst C (pc' := 21) (z := 3) at_20 rfl rfl ?_
  refine N.bipush C (pc' := 23) (z := 97) at_21 rfl rfl ?_
  refine N.iastore C (pc' := 24) (i := 3) at_23 A_ar rfl (by decide) g_ar rfl (fun h23_5 W23 A_ar => ?_)
  have Z0 : G.n0 ≤ _ := (Wr.size W23).symm ▸ Z0
  have A_ar : Av G.Z h23_5 ar .int [(.int (65 : Int32)), (.int (90 : Int32)), (.int (95 : Int32)), (.int (97 : Int32)), (.int (0 : Int32)), (.int (0 : Int32)), (.int (0 : Int32)), (.int (0 : Int32)), (.int (0 : Int32)), (.int (0 : Int32)), (.int (0 : Int32)), (.int (0 : Int32)), (.int (0 : Int32)), (.int (0 : Int32)), (.int (0 : Int32)), (.int (0 : Int32)), (.int (0 : Int32)), (.int (0 : Int32)), (.int (0 : Int32)), (.int (0 : Int32)), (.int (0 : Int32)), (.int (0 : Int32)), (.int (0 : Int32)), (.int (0 : Int32)), (.int (0 : Int32)), (.int (0 : Int32)), (.int (0 : Int32)), (.int (0 : Int32)), (.int (0 : Int32))] := A_ar
  refine N.dup C (pc' := 25) at_24 rfl rfl ?_
  refine N.iconst C (pc' := 26) (z := 4) at_25 rfl rfl ?_
  refine N.bipush C (pc' := 28) (z := 122) at_26 rfl rfl ?_
  refine N.iastore C (pc' := 29) (i := 4) at_28 A_ar rfl (by decide) g_ar rfl (fun h28_6 W28 A_ar => ?_)
  have Z0 : G.n0 ≤ _ := (Wr.size W28).symm ▸ Z0
  have A_ar : Av G.Z h28_6 ar .int [(.int (65 : Int32)), (.int (90 : Int32)), (.int (95 : Int32)), (.int (97 : Int32)), (.int (122 : Int32)), (.int (0 : Int32)), (.int (0 : Int32)), (.int (0 : Int32)), (.int (0 : Int32)), (.int (0 : Int32)), (.int (0 : Int32)), (.int (0 : Int32)), (.int (0 : Int32)), (.int (0 : Int32)), (.int (0 : Int32)), (.int (0 : Int32)), (.int (0 : Int32)), (.int (0 : Int32)), (.int (0 : Int32)), (.int (0 : Int32)), (.int (0 : Int32)), (.int (0 : Int32)), (.int (0 : Int32)), (.int (0 : Int32)), (.int (0 : Int32)), (.int (0 : Int32)), (.int (0 : Int32)), (.int (0 : Int32)), (.int (0 : Int32))] := A_ar
  refine N.dup C (pc' := 30) at_29 rfl rfl ?_
  refine N.iconst C (pc' := 31) (z := 5) at_30 rfl rfl ?_
  refine N.sipush C (pc' := 34) (z := 192) at_31 rfl rfl ?_
  refine N.iastore C (pc' := 35) (i := 5) at_34 A_ar rfl (by decide) g_ar rfl (fun h34_7 W34 A_ar => ?_)
  have Z0 : G.n0 ≤ _ := (Wr.size W34).symm ▸ Z0
  have A_ar : Av G.Z h34_7 ar .int [(.int (65 : Int32)), (.int (90 : Int32)), (.int (95 : Int32)), (.int (97 : Int32)), (.int (122 : Int32)), (.int (192 : Int32)), (.int (0 : Int32)), (.int (0 : Int32)), (.int (0 : Int32)), (.int (0 : Int32)), (.int (0 : Int32)), (.int (0 : Int32)), (.int (0 : Int32)), (.int (0 : Int32)), (.int (0 : Int32)), (.int (0 : Int32)), (.int (0 : Int32)), (.int (0 : Int32)), (.int (0 : Int32)), (.int (0 : Int32)), (.int (0 : Int32)), (.int (0 : Int32)), (.int (0 : Int32)), (.int (0 : Int32)), (.int (0 : Int32)), (.int (0 : Int32)), (.int (0 : Int32)), (.int (0 : Int32)), (.int (0 : Int32))] := A_ar
  refine N.dup C (pc' := 36) at_35 rfl rfl ?_
  refine N.bipush C (pc' := 38) (z := 6) at_36 rfl rfl ?_
  refine N.sipush C (pc' := 41) (z := 214) at_38 rfl rfl ?_
  refine N.iastore C (pc' := 42) (i := 6) at_41 A_ar rfl (by decide) g_ar rfl (fun h41_8 W41 A_ar => ?_)
  have Z0 : G.n0 ≤ _ := (Wr.size W41).symm ▸ Z0
  have A_ar : Av G.Z h41_8 ar .int [(.int (65 : Int32)), (.int (90 : Int32)), (.int (95 : Int32)), (.int (97 : Int32)), (.int (122 : Int32)), (.int (192 : Int32)), (.int (214 : Int32)), (.int (0 : Int32)), (.int (0 : Int32)), (.int (0 : Int32)), (.int (0 : Int32)), (.int (0 : Int32)), (.int (0 : Int32)), (.int (0 : Int32)), (.int (0 : Int32)), (.int (0 : Int32)), (.int (0 : Int32)), (.int (0 : Int32)), (.int (0 : Int32)), (.int (0 : Int32)), (.int (0 : Int32)), (.int (0 : Int32)), (.int (0 : Int32)), (.int (0 : Int32)), (.int (0 : Int32)), (.int (0 : Int32)), (.int (0 : Int32)), (.int (0 : Int32)), (.int (0 : Int32))] := A_ar
  refine N.dup C (pc' := 43) at_42 rfl rfl ?_
  refine N.bipush C (pc' := 45) (z := 7) at_43 rfl rfl ?_
  refine N.sipush C (pc' := 48) (z := 216) at_45 rfl rfl ?_
  refine N.iastore C (pc' := 49) (i := 7) at_48 A_ar rfl (by decide) g_ar rfl (fun h48_9 W48 A_ar => ?_)
  have Z0 : G.n0 ≤ _ := (Wr.size W48).symm ▸ Z0
  have A_ar : Av G.Z h48_9 ar .int [(.int (65 : Int32)), (.int (90 : Int32)), (.int (95 : Int32)), (.int (97 : Int32)), (.int (122 : Int32)), (.int (192 : Int32)), (.int (214 : Int32)), (.int (216 : Int32)), (.int (0 : Int32)), (.int (0 : Int32)), (.int (0 : Int32)), (.int (0 : Int32)), (.int (0 : Int32)), (.int (0 : Int32)), (.int (0 : Int32)), (.int (0 : Int32)), (.int (0 : Int32)), (.int (0 : Int32)), (.int (0 : Int32)), (.int (0 : Int32)), (.int (0 : Int32)), (.int (0 : Int32)), (.int (0 : Int32)), (.int (0 : Int32)), (.int (0 : Int32)), (.int (0 : Int32)), (.int (0 : Int32)), (.int (0 : Int32)), (.int (0 : Int32))] := A_ar
  refine N.dup C (pc' := 50) at_49 rfl rfl ?_
  refine N.bipush C (pc' := 52) (z := 8) at_50 rfl rfl ?_
  refine N.sipush C (pc' := 55) (z := 246) at_52 rfl rfl ?_
  refine N.iastore C (pc' := 56) (i := 8) at_55 A_ar rfl (by decide) g_ar rfl (fun h55_10 W55 A_ar => ?_)
  have Z0 : G.n0 ≤ _ := (Wr.size W55).symm ▸ Z0
  have A_ar : Av G.Z h55_10 ar .int [(.int (65 : Int32)), (.int (90 : Int32)), (.int (95 : Int32)), (.int (97 : Int32)), (.int (122 : Int32)), (.int (192 : Int32)), (.int (214 : Int32)), (.int (216 : Int32)), (.int (246 : Int32)), (.int (0 : Int32)), (.int (0 : Int32)), (.int (0 : Int32)), (.int (0 : Int32)), (.int (0 : Int32)), (.int (0 : Int32)), (.int (0 : Int32)), (.int (0 : Int32)), (.int (0 : Int32)), (.int (0 : Int32)), (.int (0 : Int32)), (.int (0 : Int32)), (.int (0 : Int32)), (.int (0 : Int32)), (.int (0 : Int32)), (.int (0 : Int32)), (.int (0 : Int32)), (.int (0 : Int32)), (.int (0 : Int32)), (.int (0 : Int32))] := A_ar
  refine N.dup C (pc' := 57) at_56 rfl rfl ?_
  refine N.bipush C (pc' := 59) (z := 9) at_57 rfl rfl ?_
  refine N.sipush C (pc' := 62) (z := 248) at_59 rfl rfl ?_
  refine N.iastore C (pc' := 63) (i := 9) at_62 A_ar rfl (by decide) g_ar rfl (fun h62_11 W62 A_ar => ?_)
  have Z0 : G.n0 ≤ _ := (Wr.size W62).symm ▸ Z0
  have A_ar : Av G.Z h62_11 ar .int [(.int (65 : Int32)), (.int (90 : Int32)), (.int (95 : Int32)), (.int (97 : Int32)), (.int (122 : Int32)), (.int (192 : Int32)), (.int (214 : Int32)), (.int (216 : Int32)), (.int (246 : Int32)), (.int (248 : Int32)), (.int (0 : Int32)), (.int (0 : Int32)), (.int (0 : Int32)), (.int (0 : Int32)), (.int (0 : Int32)), (.int (0 : Int32)), (.int (0 : Int32)), (.int (0 : Int32)), (.int (0 : Int32)), (.int (0 : Int32)), (.int (0 : Int32)), (.int (0 : Int32)), (.int (0 : Int32)), (.int (0 : Int32)), (.int (0 : Int32)), (.int (0 : Int32)), (.int (0 : Int32)), (.int (0 : Int32)), (.int (0 : Int32))] := A_ar
  refine N.dup C (pc' := 64) at_63 rfl rfl ?_
  refine N.bipush C (pc' := 66) (z := 10) at_64 rfl rfl ?_
  refine N.sipush C (pc' := 69) (z := 767) at_66 rfl rfl ?_
  refine N.iastore C (pc' := 70) (i := 10) at_69 A_ar rfl (by decide) g_ar rfl (fun h69_12 W69 A_ar => ?_)
  have Z0 : G.n0 ≤ _ := (Wr.size W69).symm ▸ Z0
  have A_ar : Av G.Z h69_12 ar .int [(.int (65 : Int32)), (.int (90 : Int32)), (.int (95 : Int32)), (.int (97 : Int32)), (.int (122 : Int32)), (.int (192 : Int32)), (.int (214 : Int32)), (.int (216 : Int32)), (.int (246 : Int32)), (.int (248 : Int32)), (.int (767 : Int32)), (.int (0 : Int32)), (.int (0 : Int32)), (.int (0 : Int32)), (.int (0 : Int32)), (.int (0 : Int32)), (.int (0 : Int32)), (.int (0 : Int32)), (.int (0 : Int32)), (.int (0 : Int32)), (.int (0 : Int32)), (.int (0 : Int32)), (.int (0 : Int32)), (.int (0 : Int32)), (.int (0 : Int32)), (.int (0 : Int32)), (.int (0 : Int32)), (.int (0 : Int32)), (.int (0 : Int32))] := A_ar
  refine N.dup C (pc' := 71) at_70 rfl rfl ?_
  refine N.bipush C (pc' := 73) (z := 11) at_71 rfl rfl ?_
  refine N.sipush C (pc' := 76) (z := 880) at_73 rfl rfl ?_
  refine N.iastore C (pc' := 77) (i := 11) at_76 A_ar rfl (by decide) g_ar rfl (fun h76_13 W76 A_ar => ?_)
  have Z0 : G.n0 ≤ _ := (Wr.size W76).symm ▸ Z0
  have A_ar : Av G.Z h76_13 ar .int [(.int (65 : Int32)), (.int (90 : Int32)), (.int (95 : Int32)), (.int (97 : Int32)), (.int (122 : Int32)), (.int (192 : Int32)), (.int (214 : Int32)), (.int (216 : Int32)), (.int (246 : Int32)), (.int (248 : Int32)), (.int (767 : Int32)), (.int (880 : Int32)), (.int (0 : Int32)), (.int (0 : Int32)), (.int (0 : Int32)), (.int (0 : Int32)), (.int (0 : Int32)), (.int (0 : Int32)), (.int (0 : Int32)), (.int (0 : Int32)), (.int (0 : Int32)), (.int (0 : Int32)), (.int (0 : Int32)), (.int (0 : Int32)), (.int (0 : Int32)), (.int (0 : Int32)), (.int (0 : Int32)), (.int (0 : Int32)), (.int (0 : Int32))] := A_ar
  refine N.dup C (pc' := 78) at_77 rfl rfl ?_
  refine N.bipush C (pc' := 80) (z := 12) at_78 rfl rfl ?_
  refine N.sipush C (pc' := 83) (z := 893) at_80 rfl rfl ?_
  refine N.iastore C (pc' := 84) (i := 12) at_83 A_ar rfl (by decide) g_ar rfl (fun h83_14 W83 A_ar => ?_)
  have Z0 : G.n0 ≤ _ := (Wr.size W83).symm ▸ Z0
  have A_ar : Av G.Z h83_14 ar .int [(.int (65 : Int32)), (.int (90 : Int32)), (.int (95 : Int32)), (.int (97 : Int32)), (.int (122 : Int32)), (.int (192 : Int32)), (.int (214 : Int32)), (.int (216 : Int32)), (.int (246 : Int32)), (.int (248 : Int32)), (.int (767 : Int32)), (.int (880 : Int32)), (.int (893 : Int32)), (.int (0 : Int32)), (.int (0 : Int32)), (.int (0 : Int32)), (.int (0 : Int32)), (.int (0 : Int32)), (.int (0 : Int32)), (.int (0 : Int32)), (.int (0 : Int32)), (.int (0 : Int32)), (.int (0 : Int32)), (.int (0 : Int32)), (.int (0 : Int32)), (.int (0 : Int32)), (.int (0 : Int32)), (.int (0 : Int32)), (.int (0 : Int32))] := A_ar
  refine N.dup C (pc' := 85) at_84 rfl rfl ?_
  refine N.bipush C (pc' := 87) (z := 13) at_85 rfl rfl ?_
  refine N.sipush C (pc' := 90) (z := 895) at_87 rfl rfl ?_
  refine N.iastore C (pc' := 91) (i := 13) at_90 A_ar rfl (by decide) g_ar rfl (fun h90_15 W90 A_ar => ?_)
  have Z0 : G.n0 ≤ _ := (Wr.size W90).symm ▸ Z0
  have A_ar : Av G.Z h90_15 ar .int [(.int (65 : Int32)), (.int (90 : Int32)), (.int (95 : Int32)), (.int (97 : Int32)), (.int (122 : Int32)), (.int (192 : Int32)), (.int (214 : Int32)), (.int (216 : Int32)), (.int (246 : Int32)), (.int (248 : Int32)), (.int (767 : Int32)), (.int (880 : Int32)), (.int (893 : Int32)), (.int (895 : Int32)), (.int (0 : Int32)), (.int (0 : Int32)), (.int (0 : Int32)), (.int (0 : Int32)), (.int (0 : Int32)), (.int (0 : Int32)), (.int (0 : Int32)), (.int (0 : Int32)), (.int (0 : Int32)), (.int (0 : Int32)), (.int (0 : Int32)), (.int (0 : Int32)), (.int (0 : Int32)), (.int (0 : Int32)), (.int (0 : Int32))] := A_ar
  refine N.dup C (pc' := 92) at_91 rfl rfl ?_
  refine N.bipush C (pc' := 94) (z := 14) at_92 rfl rfl ?_
  refine N.sipush C (pc' := 97) (z := 8191) at_94 rfl rfl ?_
  refine N.iastore C (pc' := 98) (i := 14) at_97 A_ar rfl (by decide) g_ar rfl (fun h97_16 W97 A_ar => ?_)
  have Z0 : G.n0 ≤ _ := (Wr.size W97).symm ▸ Z0
  have A_ar : Av G.Z h97_16 ar .int [(.int (65 : Int32)), (.int (90 : Int32)), (.int (95 : Int32)), (.int (97 : Int32)), (.int (122 : Int32)), (.int (192 : Int32)), (.int (214 : Int32)), (.int (216 : Int32)), (.int (246 : Int32)), (.int (248 : Int32)), (.int (767 : Int32)), (.int (880 : Int32)), (.int (893 : Int32)), (.int (895 : Int32)), (.int (8191 : Int32)), (.int (0 : Int32)), (.int (0 : Int32)), (.int (0 : Int32)), (.int (0 : Int32)), (.int (0 : Int32)), (.int (0 : Int32)), (.int (0 : Int32)), (.int (0 : Int32)), (.int (0 : Int32)), (.int (0 : Int32)), (.int (0 : Int32)), (.int (0 : Int32)), (.int (0 : Int32)), (.int (0 : Int32))] := A_ar
  refine N.dup C (pc' := 99) at_98 rfl rfl ?_
  refine N.bipush C (pc' := 101) (z := 15) at_99 rfl rfl ?_
  refine N.sipush C (pc' := 104) (z := 8204) at_101 rfl rfl ?_
  refine N.iastore C (pc' := 105) (i := 15) at_104 A_ar rfl (by decide) g_ar rfl (fun h104_17 W104 A_ar => ?_)
  have Z0 : G.n0 ≤ _ := (Wr.size W104).symm ▸ Z0
  have A_ar : Av G.Z h104_17 ar .int [(.int (65 : Int32)), (.int (90 : Int32)), (.int (95 : Int32)), (.int (97 : Int32)), (.int (122 : Int32)), (.int (192 : Int32)), (.int (214 : Int32)), (.int (216 : Int32)), (.int (246 : Int32)), (.int (248 : Int32)), (.int (767 : Int32)), (.int (880 : Int32)), (.int (893 : Int32)), (.int (895 : Int32)), (.int (8191 : Int32)), (.int (8204 : Int32)), (.int (0 : Int32)), (.int (0 : Int32)), (.int (0 : Int32)), (.int (0 : Int32)), (.int (0 : Int32)), (.int (0 : Int32)), (.int (0 : Int32)), (.int (0 : Int32)), (.int (0 : Int32)), (.int (0 : Int32)), (.int (0 : Int32)), (.int (0 : Int32)), (.int (0 : Int32))] := A_ar
  refine N.dup C (pc' := 106) at_105 rfl rfl ?_
  refine N.bipush C (pc' := 108) (z := 16) at_106 rfl rfl ?_
  refine N.sipush C (pc' := 111) (z := 8205) at_108 rfl rfl ?_
  refine N.iastore C (pc' := 112) (i := 16) at_111 A_ar rfl (by decide) g_ar rfl (fun h111_18 W111 A_ar => ?_)
  have Z0 : G.n0 ≤ _ := (Wr.size W111).symm ▸ Z0
  have A_ar : Av G.Z h111_18 ar .int [(.int (65 : Int32)), (.int (90 : Int32)), (.int (95 : Int32)), (.int (97 : Int32)), (.int (122 : Int32)), (.int (192 : Int32)), (.int (214 : Int32)), (.int (216 : Int32)), (.int (246 : Int32)), (.int (248 : Int32)), (.int (767 : Int32)), (.int (880 : Int32)), (.int (893 : Int32)), (.int (895 : Int32)), (.int (8191 : Int32)), (.int (8204 : Int32)), (.int (8205 : Int32)), (.int (0 : Int32)), (.int (0 : Int32)), (.int (0 : Int32)), (.int (0 : Int32)), (.int (0 : Int32)), (.int (0 : Int32)), (.int (0 : Int32)), (.int (0 : Int32)), (.int (0 : Int32)), (.int (0 : Int32)), (.int (0 : Int32)), (.int (0 : Int32))] := A_ar
  refine N.dup C (pc' := 113) at_112 rfl rfl ?_
  refine N.bipush C (pc' := 115) (z := 17) at_113 rfl rfl ?_
  refine N.sipush C (pc' := 118) (z := 8304) at_115 rfl rfl ?_
  refine N.iastore C (pc' := 119) (i := 17) at_118 A_ar rfl (by decide) g_ar rfl (fun h118_19 W118 A_ar => ?_)
  have Z0 : G.n0 ≤ _ := (Wr.size W118).symm ▸ Z0
  have A_ar : Av G.Z h118_19 ar .int [(.int (65 : Int32)), (.int (90 : Int32)), (.int (95 : Int32)), (.int (97 : Int32)), (.int (122 : Int32)), (.int (192 : Int32)), (.int (214 : Int32)), (.int (216 : Int32)), (.int (246 : Int32)), (.int (248 : Int32)), (.int (767 : Int32)), (.int (880 : Int32)), (.int (893 : Int32)), (.int (895 : Int32)), (.int (8191 : Int32)), (.int (8204 : Int32)), (.int (8205 : Int32)), (.int (8304 : Int32)), (.int (0 : Int32)), (.int (0 : Int32)), (.int (0 : Int32)), (.int (0 : Int32)), (.int (0 : Int32)), (.int (0 : Int32)), (.int (0 : Int32)), (.int (0 : Int32)), (.int (0 : Int32)), (.int (0 : Int32)), (.int (0 : Int32))] := A_ar
  refine N.dup C (pc' := 120) at_119 rfl rfl ?_
  refine N.bipush C (pc' := 122) (z := 18) at_120 rfl rfl ?_
  refine N.sipush C (pc' := 125) (z := 8591) at_122 rfl rfl ?_
  refine N.iastore C (pc' := 126) (i := 18) at_125 A_ar rfl (by decide) g_ar rfl (fun h125_20 W125 A_ar => ?_)
  have Z0 : G.n0 ≤ _ := (Wr.size W125).symm ▸ Z0
  have A_ar : Av G.Z h125_20 ar .int [(.int (65 : Int32)), (.int (90 : Int32)), (.int (95 : Int32)), (.int (97 : Int32)), (.int (122 : Int32)), (.int (192 : Int32)), (.int (214 : Int32)), (.int (216 : Int32)), (.int (246 : Int32)), (.int (248 : Int32)), (.int (767 : Int32)), (.int (880 : Int32)), (.int (893 : Int32)), (.int (895 : Int32)), (.int (8191 : Int32)), (.int (8204 : Int32)), (.int (8205 : Int32)), (.int (8304 : Int32)), (.int (8591 : Int32)), (.int (0 : Int32)), (.int (0 : Int32)), (.int (0 : Int32)), (.int (0 : Int32)), (.int (0 : Int32)), (.int (0 : Int32)), (.int (0 : Int32)), (.int (0 : Int32)), (.int (0 : Int32)), (.int (0 : Int32))] := A_ar
  refine N.dup C (pc' := 127) at_126 rfl rfl ?_
  refine N.bipush C (pc' := 129) (z := 19) at_127 rfl rfl ?_
  refine N.sipush C (pc' := 132) (z := 11264) at_129 rfl rfl ?_
  refine N.iastore C (pc' := 133) (i := 19) at_132 A_ar rfl (by decide) g_ar rfl (fun h132_21 W132 A_ar => ?_)
  have Z0 : G.n0 ≤ _ := (Wr.size W132).symm ▸ Z0
  have A_ar : Av G.Z h132_21 ar .int [(.int (65 : Int32)), (.int (90 : Int32)), (.int (95 : Int32)), (.int (97 : Int32)), (.int (122 : Int32)), (.int (192 : Int32)), (.int (214 : Int32)), (.int (216 : Int32)), (.int (246 : Int32)), (.int (248 : Int32)), (.int (767 : Int32)), (.int (880 : Int32)), (.int (893 : Int32)), (.int (895 : Int32)), (.int (8191 : Int32)), (.int (8204 : Int32)), (.int (8205 : Int32)), (.int (8304 : Int32)), (.int (8591 : Int32)), (.int (11264 : Int32)), (.int (0 : Int32)), (.int (0 : Int32)), (.int (0 : Int32)), (.int (0 : Int32)), (.int (0 : Int32)), (.int (0 : Int32)), (.int (0 : Int32)), (.int (0 : Int32)), (.int (0 : Int32))] := A_ar
  refine N.dup C (pc' := 134) at_133 rfl rfl ?_
  refine N.bipush C (pc' := 136) (z := 20) at_134 rfl rfl ?_
  refine N.sipush C (pc' := 139) (z := 12271) at_136 rfl rfl ?_
  refine N.iastore C (pc' := 140) (i := 20) at_139 A_ar rfl (by decide) g_ar rfl (fun h139_22 W139 A_ar => ?_)
  have Z0 : G.n0 ≤ _ := (Wr.size W139).symm ▸ Z0
  have A_ar : Av G.Z h139_22 ar .int [(.int (65 : Int32)), (.int (90 : Int32)), (.int (95 : Int32)), (.int (97 : Int32)), (.int (122 : Int32)), (.int (192 : Int32)), (.int (214 : Int32)), (.int (216 : Int32)), (.int (246 : Int32)), (.int (248 : Int32)), (.int (767 : Int32)), (.int (880 : Int32)), (.int (893 : Int32)), (.int (895 : Int32)), (.int (8191 : Int32)), (.int (8204 : Int32)), (.int (8205 : Int32)), (.int (8304 : Int32)), (.int (8591 : Int32)), (.int (11264 : Int32)), (.int (12271 : Int32)), (.int (0 : Int32)), (.int (0 : Int32)), (.int (0 : Int32)), (.int (0 : Int32)), (.int (0 : Int32)), (.int (0 : Int32)), (.int (0 : Int32)), (.int (0 : Int32))] := A_ar
  refine N.dup C (pc' := 141) at_140 rfl rfl ?_
  refine N.bipush C (pc' := 143) (z := 21) at_141 rfl rfl ?_
  refine N.sipush C (pc' := 146) (z := 12289) at_143 rfl rfl ?_
  refine N.iastore C (pc' := 147) (i := 21) at_146 A_ar rfl (by decide) g_ar rfl (fun h146_23 W146 A_ar => ?_)
  have Z0 : G.n0 ≤ _ := (Wr.size W146).symm ▸ Z0
  have A_ar : Av G.Z h146_23 ar .int [(.int (65 : Int32)), (.int (90 : Int32)), (.int (95 : Int32)), (.int (97 : Int32)), (.int (122 : Int32)), (.int (192 : Int32)), (.int (214 : Int32)), (.int (216 : Int32)), (.int (246 : Int32)), (.int (248 : Int32)), (.int (767 : Int32)), (.int (880 : Int32)), (.int (893 : Int32)), (.int (895 : Int32)), (.int (8191 : Int32)), (.int (8204 : Int32)), (.int (8205 : Int32)), (.int (8304 : Int32)), (.int (8591 : Int32)), (.int (11264 : Int32)), (.int (12271 : Int32)), (.int (12289 : Int32)), (.int (0 : Int32)), (.int (0 : Int32)), (.int (0 : Int32)), (.int (0 : Int32)), (.int (0 : Int32)), (.int (0 : Int32)), (.int (0 : Int32))] := A_ar
  refine N.dup C (pc' := 148) at_147 rfl rfl ?_
  refine N.bipush C (pc' := 150) (z := 22) at_148 rfl rfl ?_
  refine N.ldcI C (pc' := 152) (v := 55295) at_150 (C.w (i := 1) rfl) rfl ?_
  refine N.iastore C (pc' := 153) (i := 22) at_152 A_ar rfl (by decide) g_ar rfl (fun h152_24 W152 A_ar => ?_)
  have Z0 : G.n0 ≤ _ := (Wr.size W152).symm ▸ Z0
  have A_ar : Av G.Z h152_24 ar .int [(.int (65 : Int32)), (.int (90 : Int32)), (.int (95 : Int32)), (.int (97 : Int32)), (.int (122 : Int32)), (.int (192 : Int32)), (.int (214 : Int32)), (.int (216 : Int32)), (.int (246 : Int32)), (.int (248 : Int32)), (.int (767 : Int32)), (.int (880 : Int32)), (.int (893 : Int32)), (.int (895 : Int32)), (.int (8191 : Int32)), (.int (8204 : Int32)), (.int (8205 : Int32)), (.int (8304 : Int32)), (.int (8591 : Int32)), (.int (11264 : Int32)), (.int (12271 : Int32)), (.int (12289 : Int32)), (.int (55295 : Int32)), (.int (0 : Int32)), (.int (0 : Int32)), (.int (0 : Int32)), (.int (0 : Int32)), (.int (0 : Int32)), (.int (0 : Int32))] := A_ar
  refine N.dup C (pc' := 154) at_153 rfl rfl ?_
  refine N.bipush C (pc' := 156) (z := 23) at_154 rfl rfl ?_
  refine N.ldcI C (pc' := 158) (v := 63744) at_156 (C.w (i := 2) rfl) rfl ?_
  refine N.iastore C (pc' := 159) (i := 23) at_158 A_ar rfl (by decide) g_ar rfl (fun h158_25 W158 A_ar => ?_)
  have Z0 : G.n0 ≤ _ := (Wr.size W158).symm ▸ Z0
  have A_ar : Av G.Z h158_25 ar .int [(.int (65 : Int32)), (.int (90 : Int32)), (.int (95 : Int32)), (.int (97 : Int32)), (.int (122 : Int32)), (.int (192 : Int32)), (.int (214 : Int32)), (.int (216 : Int32)), (.int (246 : Int32)), (.int (248 : Int32)), (.int (767 : Int32)), (.int (880 : Int32)), (.int (893 : Int32)), (.int (895 : Int32)), (.int (8191 : Int32)), (.int (8204 : Int32)), (.int (8205 : Int32)), (.int (8304 : Int32)), (.int (8591 : Int32)), (.int (11264 : Int32)), (.int (12271 : Int32)), (.int (12289 : Int32)), (.int (55295 : Int32)), (.int (63744 : Int32)), (.int (0 : Int32)), (.int (0 : Int32)), (.int (0 : Int32)), (.int (0 : Int32)), (.int (0 : Int32))] := A_ar
  refine N.dup C (pc' := 160) at_159 rfl rfl ?_
  refine N.bipush C (pc' := 162) (z := 24) at_160 rfl rfl ?_
  refine N.ldcI C (pc' := 164) (v := 64975) at_162 (C.w (i := 3) rfl) rfl ?_
  refine N.iastore C (pc' := 165) (i := 24) at_164 A_ar rfl (by decide) g_ar rfl (fun h164_26 W164 A_ar => ?_)
  have Z0 : G.n0 ≤ _ := (Wr.size W164).symm ▸ Z0
  have A_ar : Av G.Z h164_26 ar .int [(.int (65 : Int32)), (.int (90 : Int32)), (.int (95 : Int32)), (.int (97 : Int32)), (.int (122 : Int32)), (.int (192 : Int32)), (.int (214 : Int32)), (.int (216 : Int32)), (.int (246 : Int32)), (.int (248 : Int32)), (.int (767 : Int32)), (.int (880 : Int32)), (.int (893 : Int32)), (.int (895 : Int32)), (.int (8191 : Int32)), (.int (8204 : Int32)), (.int (8205 : Int32)), (.int (8304 : Int32)), (.int (8591 : Int32)), (.int (11264 : Int32)), (.int (12271 : Int32)), (.int (12289 : Int32)), (.int (55295 : Int32)), (.int (63744 : Int32)), (.int (64975 : Int32)), (.int (0 : Int32)), (.int (0 : Int32)), (.int (0 : Int32)), (.int (0 : Int32))] := A_ar
  refine N.dup C (pc' := 166) at_165 rfl rfl ?_
  refine N.bipush C (pc' := 168) (z := 25) at_166 rfl rfl ?_
  refine N.ldcI C (pc' := 170) (v := 65008) at_168 (C.w (i := 4) rfl) rfl ?_
  refine N.iastore C (pc' := 171) (i := 25) at_170 A_ar rfl (by decide) g_ar rfl (fun h170_27 W170 A_ar => ?_)
  have Z0 : G.n0 ≤ _ := (Wr.size W170).symm ▸ Z0
  have A_ar : Av G.Z h170_27 ar .int [(.int (65 : Int32)), (.int (90 : Int32)), (.int (95 : Int32)), (.int (97 : Int32)), (.int (122 : Int32)), (.int (192 : Int32)), (.int (214 : Int32)), (.int (216 : Int32)), (.int (246 : Int32)), (.int (248 : Int32)), (.int (767 : Int32)), (.int (880 : Int32)), (.int (893 : Int32)), (.int (895 : Int32)), (.int (8191 : Int32)), (.int (8204 : Int32)), (.int (8205 : Int32)), (.int (8304 : Int32)), (.int (8591 : Int32)), (.int (11264 : Int32)), (.int (12271 : Int32)), (.int (12289 : Int32)), (.int (55295 : Int32)), (.int (63744 : Int32)), (.int (64975 : Int32)), (.int (65008 : Int32)), (.int (0 : Int32)), (.int (0 : Int32)), (.int (0 : Int32))] := A_ar
  refine N.dup C (pc' := 172) at_171 rfl rfl ?_
  refine N.bipush C (pc' := 174) (z := 26) at_172 rfl rfl ?_
  refine N.ldcI C (pc' := 176) (v := 65533) at_174 (C.w (i := 5) rfl) rfl ?_
  refine N.iastore C (pc' := 177) (i := 26) at_176 A_ar rfl (by decide) g_ar rfl (fun h176_28 W176 A_ar => ?_)
  have Z0 : G.n0 ≤ _ := (Wr.size W176).symm ▸ Z0
  have A_ar : Av G.Z h176_28 ar .int [(.int (65 : Int32)), (.int (90 : Int32)), (.int (95 : Int32)), (.int (97 : Int32)), (.int (122 : Int32)), (.int (192 : Int32)), (.int (214 : Int32)), (.int (216 : Int32)), (.int (246 : Int32)), (.int (248 : Int32)), (.int (767 : Int32)), (.int (880 : Int32)), (.int (893 : Int32)), (.int (895 : Int32)), (.int (8191 : Int32)), (.int (8204 : Int32)), (.int (8205 : Int32)), (.int (8304 : Int32)), (.int (8591 : Int32)), (.int (11264 : Int32)), (.int (12271 : Int32)), (.int (12289 : Int32)), (.int (55295 : Int32)), (.int (63744 : Int32)), (.int (64975 : Int32)), (.int (65008 : Int32)), (.int (65533 : Int32)), (.int (0 : Int32)), (.int (0 : Int32))] := A_ar
  refine N.dup C (pc' := 178) at_177 rfl rfl ?_
  refine N.bipush C (pc' := 180) (z := 27) at_178 rfl rfl ?_
  refine N.ldcI C (pc' := 182) (v := 65536) at_180 (C.w (i := 6) rfl) rfl ?_
  refine N.iastore C (pc' := 183) (i := 27) at_182 A_ar rfl (by decide) g_ar rfl (fun h182_29 W182 A_ar => ?_)
  have Z0 : G.n0 ≤ _ := (Wr.size W182).symm ▸ Z0
  have A_ar : Av G.Z h182_29 ar .int [(.int (65 : Int32)), (.int (90 : Int32)), (.int (95 : Int32)), (.int (97 : Int32)), (.int (122 : Int32)), (.int (192 : Int32)), (.int (214 : Int32)), (.int (216 : Int32)), (.int (246 : Int32)), (.int (248 : Int32)), (.int (767 : Int32)), (.int (880 : Int32)), (.int (893 : Int32)), (.int (895 : Int32)), (.int (8191 : Int32)), (.int (8204 : Int32)), (.int (8205 : Int32)), (.int (8304 : Int32)), (.int (8591 : Int32)), (.int (11264 : Int32)), (.int (12271 : Int32)), (.int (12289 : Int32)), (.int (55295 : Int32)), (.int (63744 : Int32)), (.int (64975 : Int32)), (.int (65008 : Int32)), (.int (65533 : Int32)), (.int (65536 : Int32)), (.int (0 : Int32))] := A_ar
  refine N.dup C (pc' := 184) at_183 rfl rfl ?_
  refine N.bipush C (pc' := 186) (z := 28) at_184 rfl rfl ?_
  refine N.ldcI C (pc' := 188) (v := 983039) at_186 (C.w (i := 7) rfl) rfl ?_
  refine N.iastore C (pc' := 189) (i := 28) at_188 A_ar rfl (by decide) g_ar rfl (fun h188_30 W188 A_ar => ?_)
  have Z0 : G.n0 ≤ _ := (Wr.size W188).symm ▸ Z0
  have A_ar : Av G.Z h188_30 ar .int [(.int (65 : Int32)), (.int (90 : Int32)), (.int (95 : Int32)), (.int (97 : Int32)), (.int (122 : Int32)), (.int (192 : Int32)), (.int (214 : Int32)), (.int (216 : Int32)), (.int (246 : Int32)), (.int (248 : Int32)), (.int (767 : Int32)), (.int (880 : Int32)), (.int (893 : Int32)), (.int (895 : Int32)), (.int (8191 : Int32)), (.int (8204 : Int32)), (.int (8205 : Int32)), (.int (8304 : Int32)), (.int (8591 : Int32)), (.int (11264 : Int32)), (.int (12271 : Int32)), (.int (12289 : Int32)), (.int (55295 : Int32)), (.int (63744 : Int32)), (.int (64975 : Int32)), (.int (65008 : Int32)), (.int (65533 : Int32)), (.int (65536 : Int32)), (.int (983039 : Int32))] := A_ar
  refine N.astoreN C (pc' := 190) (ls' := #[.val (.int c), .val (.int k), .val (.int p), .val (.ref ar), .unset, .unset]) at_189 rfl rfl rfl ?_
  have A_ar : Av G.Z h188_30 ar .int own_arr := A_ar
  refine N.aloadN C (pc' := 191) at_190 rfl rfl rfl ?_
  refine N.iloadN C (pc' := 192) at_191 rfl rfl ?_
  refine N.ldcI C (pc' := 194) (v := 2147483647) at_192 (C.w (i := 8) rfl) rfl ?_
  refine N.iand C (pc' := 195) at_194 rfl ?_
  refine N.bipush C (pc' := 197) (z := 29) at_195 rfl rfl ?_
  refine N.irem C (pc' := 198) at_197 (by decide) rfl ?_
  obtain ⟨i, hi, hi29⟩ := own_idx k
  obtain ⟨bv, hbv⟩ := own_get29 i hi29
  refine N.iaload C (pc' := 199) (i := i) (v := (.int bv)) at_198 A_ar hi hbv rfl ?_
  refine N.istore C (pc' := 201) (ls' := #[.val (.int c), .val (.int k), .val (.int p), .val (.ref ar), .val (.int bv), .unset]) at_199 rfl rfl ?_
  refine N.iloadN C (pc' := 202) at_201 rfl rfl ?_
  refine N.ldcI C (pc' := 204) (v := 2147483647) at_202 (C.w (i := 8) rfl) rfl ?_
  refine N.iand C (pc' := 205) at_204 rfl ?_
  refine N.iconst C (pc' := 206) (z := 3) at_205 rfl rfl ?_
  refine N.irem C (pc' := 207) at_206 (by decide) rfl ?_
  refine N.iconst C (pc' := 208) (z := 1) at_207 rfl rfl ?_
  refine N.isub C (pc' := 209) at_208 rfl ?_
  refine N.istore C (pc' := 211) (ls' := #[.val (.int c), .val (.int k), .val (.int p), .val (.ref ar), .val (.int bv), .val (.int (((p &&& (2147483647 : Int32)) % (3 : Int32)) - (1 : Int32)))]) at_209 rfl rfl ?_
  refine N.iloadN C (pc' := 212) at_211 rfl rfl ?_
  refine N.callS C (pc' := 215) [(.int c)] at_212 (C.w (i := 9) rfl) (C.w (i := 10) rfl) (C.w (i := 11) rfl) (C.w (i := 12) rfl) (by decide) (con1 G hw c h188_30) (lenOf pd__I_Z rfl) rfl (by decide) (show 0 + (1 + 11) + _ ≤ _ from by decide) (by decide) (by decide) (rest := []) rfl rfl ?_
  rintro _ h212_31 ⟨rfl, rfl⟩
  show N G K room_1 Q h188_30 (0 + 1) (0 + 29) 215 #[.val (.int c), .val (.int k), .val (.int p), .val (.ref ar), .val (.int bv), .val (.int (((p &&& (2147483647 : Int32)) % (3 : Int32)) - (1 : Int32)))] [(.int (1 : Int32))]
  refine N.ifc C (pt := 243) (pf := 218) at_215 rfl rfl (fun (q : (1 : Int32) = (0 : Int32)) => absurd q (by decide)) (fun _ => ?_)
  refine N.iloadN C (pc' := 219) at_218 rfl rfl ?_
  refine N.ldcI C (pc' := 221) (v := 262143) at_219 (C.w (i := 23) rfl) rfl ?_
  refine N.iand C (pc' := 222) at_221 rfl ?_
  refine N.callS C (pc' := 225) [(.int (c &&& (262143 : Int32)))] at_222 (C.w (i := 9) rfl) (C.w (i := 10) rfl) (C.w (i := 11) rfl) (C.w (i := 12) rfl) (by decide) (con1 G hw (c &&& (262143 : Int32)) h188_30) (lenOf pd__I_Z rfl) rfl (by decide) (show 0 + (1 + 11) + _ ≤ _ from by decide) (by decide) (by decide) (rest := []) rfl rfl ?_
  rintro _ h222_32 ⟨rfl, rfl⟩
  show N G K room_1 Q h188_30 (0 + 1) (0 + 29) 225 #[.val (.int c), .val (.int k), .val (.int p), .val (.ref ar), .val (.int bv), .val (.int (((p &&& (2147483647 : Int32)) % (3 : Int32)) - (1 : Int32)))] [(.int (1 : Int32))]
  refine N.ifc C (pt := 243) (pf := 228) at_225 rfl rfl (fun (q : (1 : Int32) = (0 : Int32)) => absurd q (by decide)) (fun _ => ?_)
  refine N.iload C (pc' := 230) at_228 rfl rfl ?_
  refine N.iload C (pc' := 232) at_230 rfl rfl ?_
  refine N.iadd C (pc' := 233) at_232 rfl ?_
  refine N.callS C (pc' := 236) [(.int (bv + (((p &&& (2147483647 : Int32)) % (3 : Int32)) - (1 : Int32))))] at_233 (C.w (i := 9) rfl) (C.w (i := 10) rfl) (C.w (i := 11) rfl) (C.w (i := 12) rfl) (by decide) (con1 G hw (bv + (((p &&& (2147483647 : Int32)) % (3 : Int32)) - (1 : Int32))) h188_30) (lenOf pd__I_Z rfl) rfl (by decide) (show 0 + (1 + 11) + _ ≤ _ from by decide) (by decide) (by decide) (rest := []) rfl rfl ?_
  rintro _ h233_33 ⟨rfl, rfl⟩
  show N G K room_1 Q h188_30 (0 + 1) (0 + 29) 236 #[.val (.int c), .val (.int k), .val (.int p), .val (.ref ar), .val (.int bv), .val (.int (((p &&& (2147483647 : Int32)) % (3 : Int32)) - (1 : Int32)))] [(.int (1 : Int32))]
  refine N.ifc C (pt := 243) (pf := 239) at_236 rfl rfl (fun (q : (1 : Int32) = (0 : Int32)) => absurd q (by decide)) (fun _ => ?_)
  refine N.iconst C (pc' := 240) (z := 1) at_239 rfl rfl ?_
  refine N.goto C (pc' := 244) at_240 rfl ?_
  exact N.retN C (by simp) (z' := (1 : Int32)) rfl at_244 (by decide) (by decide) (by subst hQ; exact rfl)
set_option maxRecDepth 65536 in
set_option maxHeartbeats 40000000 in
theorem comes_1 {Post : Tables → Env → Array Value → State → Outcome → State → Prop} (hpost : ∀ tb e args s v u, (limb_1_1.after args s (.returned v) u = true ∧ limb_1_2.after args s (.returned v) u = true ∧ True) → FrameEnd s (.returned v) u (Jvm.fieldLocs frame_1_writes args s ++ Jvm.arrayLocs frame_1_arrays args s ++ Jvm.staticLocs frame_1_statics s) 16 128 → Post tb e args s (.returned v) u) :
    ArmFor flags0 classFile x code maxLocals ret World_1 tables_1 room_1 Calls_1 rest_1 Pre_1 Post := by
  intro l hfl _ _ p e ha hc hk s m args below hf hA hF happ hP
  obtain ⟨hcalls, hrest, hpre⟩ := hP
  obtain ⟨-, -, -, hnamed, -, -, -, hat⟩ := (Spec.applies_iff hf).mp happ
  obtain ⟨hg, hn⟩ := and_e (Cond.before_iff.mp (show (Jvm.Cond.and given_1 narrow_1).before args s = true from hpre))
  obtain ⟨hcount, hrow⟩ := and_e hg
  obtain ⟨ha0, hrow⟩ := and_e hrow
  obtain ⟨ha1, hrow⟩ := and_e hrow
  have ha2 := hrow
  obtain ⟨w0, w1, w2, rfl⟩ : ∃ w0 w1 w2 : Value, args = #[w0, w1, w2] := by
    have hs : args.size = 3 := by simpa [Cond.value, given_1] using hcount
    obtain ⟨L⟩ := args
    match L, hs with
    | [w0, w1, w2], _ => exact ⟨w0, w1, w2, rfl⟩
  have hw := fun d (hd : d ∈ tables_1) => atoms_spec (ws := Jvm.Cond.code x code maxLocals ret :: tables_1) hat d (List.mem_cons_of_mem _ hd)
  have hfit : Fit s := fun {y c} hc i hi => by
    obtain ⟨ha, rfl⟩ := Array.getElem?_eq_some_iff.mp hc
    have q := List.all_eq_true.mp ((Array.all_eq_true_iff_forall_mem.mp hF) _ (Array.getElem_mem ha)) i (List.mem_range.mpr hi)
    simpa [Array.getElem?_eq_getElem hi] using q
  obtain ⟨i0, ei0⟩ := is_v ha0
  obtain rfl : w0 = (.int i0) := Option.some.inj ei0
  obtain ⟨i1, ei1⟩ := is_v ha1
  obtain rfl : w1 = (.int i1) := Option.some.inj ei1
  obtain ⟨i2, ei2⟩ := is_v ha2
  obtain rfl : w2 = (.int i2) := Option.some.inj ei2
  obtain ⟨n, o, h1, h2, h3, _, L, rfl, ⟨rfl, N⟩, hq⟩ := con0 (l, s, _, s.heap.size) hw i0 i1 i2 s.heap (Nat.le_refl _) tables_1 p e ha hc hk s m _ below hf ((Spec.applies_iff_loose hf).mp happ).1 ⟨rfl, State.Warmed39.refl s, rfl⟩ trivial
  refine ⟨n, _, h1, h2, h3, hpost _ _ _ _ _ _ ⟨Cond.after_iff.mpr rfl, Cond.after_iff.mpr (eq_i res_at (Term.int_eval (1)) rfl), trivial⟩ ⟨hq.1, hq.2.1, (hq.2.2.sift fun y hy => Or.inr (N y hy)).mono (by decide) (by decide)⟩⟩
theorem main_1_1 : Claimed_1_1 := comes_1 fun _ _ _ _ _ _ h hF => ⟨h.1, hF⟩
theorem main_1_2 : Claimed_1_2 := comes_1 fun _ _ _ _ _ _ h hF => ⟨h.2.1, hF⟩
end Jvm.Pilot.@@N@@
namespace Jvm.Pilot.@@N@@
open Jvm Jvm.ClassFile Sem Op Lib Jvm.Free Jvm.Stand Jvm.Pilot.@@N@@.Jvm.D
/-! MADE BY PROGRAM (witnessworld.py) out of the Statement's table words and the real class files: 9 classes; the members and pool entries that the words name. The judged class is class 1, her method 3. -/
namespace start1
open Jvm.ClassFile
def u (s : String) : CpInfo := .utf8 (stringToUtf16 s)
/-- a pool by its gaps: so many unusable entries, then the entry; so many at the end -/
def gap : Nat → List CpInfo → List CpInfo
  | 0, r => r
  | n + 1, r => .unusable :: gap n r
def poolList (es : List (Nat × CpInfo)) (last : Nat) : List CpInfo := es.foldr (fun e r => gap e.1 (e.2 :: r)) (gap last [])
def pool (es : List (Nat × CpInfo)) (last : Nat) : Array CpInfo := ⟨poolList es last⟩
def fileOf (pool : Array CpInfo) (this : Nat) (attrs : Array Attribute := #[]) (ms : Array MethodInfo := #[]) (fl : Nat := 33) (sup : Nat := 0) (ifs : Array Nat := #[]) (fds : Array FieldInfo := #[]) : ClassFile where
  minorVersion := 0
  majorVersion := 65
  constantPool := pool
  accessFlags := fl
  thisClass := this
  superClass := sup
  interfaces := ifs
  fields := fds
  methods := ms
  attributes := attrs
def plain (name : String) (sup : Option ClassId) : Class where
  name := name
  kind := .ordinary
  loader := none
  accessFlags := 33
  super := sup
  interfaces := #[]
  cf := none
  fields := #[]
  methods := #[]
  instanceTypes := #[]
  staticTypes := #[]
  resolved := #[]
  callSites := []
  init := .initialized
  statics := none
  mirror := none

def pool0 : Array CpInfo := pool [(5, u "<init>"), (0, u "()V"), (1, .class_ 10), (1, u "java/lang/Object")] 113

def k0m0 : Method := { name := "<init>", desc := "()V", sig := { parameters := [], returnType := none }, accessFlags := 1, code := none }
/-- java/lang/Object -/
def k0 : Class := { plain "java/lang/Object" none with
  accessFlags := 33
  interfaces := #[]
  cf := some (fileOf pool0 8 #[] #[{ accessFlags := 1, nameIndex := 5, descriptorIndex := 6, attributes := #[] }] 33 0 #[] #[])
  fields := #[]
  methods := #[k0m0]
  instanceTypes := #[]
  staticTypes := #[]
  resolved := Array.replicate 124 none
  statics := none }

def pool1 : Array CpInfo := pool [(2, .class_ 4), (1, u "java/lang/Object"), (0, u "<init>"), (0, u "()V"), (0, .integer 55296), (0, .integer 63743), (0, .integer 64976), (0, .integer 65007), (0, .integer 65534), (0, .integer 65535), (0, .integer 983039), (0, .methodref 15 16), (0, .class_ 17), (0, .nameAndType 18 19), (0, u "quadrille/Lexer"), (0, u "isNameStartChar"), (0, u "(I)Z"), (0, .methodref 21 22), (0, .class_ 23), (0, .nameAndType 24 19), (0, u "quadrille/LexerIsNameStartCharPinLaw"), (0, u "inGap"), (0, .integer 55295), (0, .integer 63744), (0, .integer 64975), (0, .integer 65008), (0, .integer 65533), (0, .integer 65536), (0, .integer 2147483647), (0, .methodref 21 33), (0, .nameAndType 34 19), (0, u "agrees"), (0, .integer 262143), (3, u "law"), (0, u "(III)Z")] 4

def k1m0 : Method := { name := "<init>", desc := "()V", sig := { parameters := [], returnType := none }, accessFlags := 1, code := none }
def k1c1 : Code := { maxStack := 2, maxLocals := 1, code := method_2_code, exceptionTable := #[], attributes := #[] }
def k1m1 : Method := { name := "inGap", desc := "(I)Z", sig := { parameters := [.int], returnType := some .boolean }, accessFlags := 10, code := some k1c1 }
def k1c2 : Code := { maxStack := 2, maxLocals := 1, code := method_3_code, exceptionTable := #[], attributes := #[] }
def k1m2 : Method := { name := "agrees", desc := "(I)Z", sig := { parameters := [.int], returnType := some .boolean }, accessFlags := 10, code := some k1c2 }
def k1c3 : Code := { maxStack := 4, maxLocals := 6, code := code, exceptionTable := #[], attributes := #[] }
def k1m3 : Method := { name := "law", desc := "(III)Z", sig := { parameters := [.int, .int, .int], returnType := some .boolean }, accessFlags := 9, code := some k1c3 }
/-- quadrille/LexerIsNameStartCharPinLaw -/
def k1 : Class := { plain "quadrille/LexerIsNameStartCharPinLaw" (some 0) with
  accessFlags := 49
  interfaces := #[]
  cf := some (fileOf pool1 21 #[] #[{ accessFlags := 1, nameIndex := 5, descriptorIndex := 6, attributes := #[] }, { accessFlags := 10, nameIndex := 24, descriptorIndex := 19, attributes := #[] }, { accessFlags := 10, nameIndex := 34, descriptorIndex := 19, attributes := #[] }, { accessFlags := 9, nameIndex := 39, descriptorIndex := 40, attributes := #[] }] 49 2 #[] #[])
  fields := #[]
  methods := #[k1m0, k1m1, k1m2, k1m3]
  instanceTypes := #[]
  staticTypes := #[]
  resolved := Array.replicate 45 none
  statics := none }

def pool2 : Array CpInfo := pool [(2, .class_ 4), (1, u "java/lang/Object"), (5, .class_ 12), (1, u "quadrille/Lexer"), (0, u "text"), (0, u "Ljava/lang/String;"), (2, u "firstLine"), (0, u "I"), (2, u "source"), (2, u "endOfText"), (2, u "pos"), (2, u "nesting"), (44, u "(I)Z"), (108, u "isNameStartChar"), (110, .integer 55295), (0, .integer 63744), (0, .integer 64975), (0, .integer 65008), (0, .integer 65533), (0, .integer 65536), (0, .integer 983039), (2, u "NOT_IN_IRI"), (1, u "LOCAL_ESCAPES"), (0, u "MAX_NESTING")] 94

def k2c0 : Code := { maxStack := 2, maxLocals := 1, code := prog_70_method_38_code, exceptionTable := #[], attributes := #[] }
def k2m0 : Method := { name := "isNameStartChar", desc := "(I)Z", sig := { parameters := [.int], returnType := some .boolean }, accessFlags := 8, code := some k2c0 }
/-- quadrille/Lexer -/
def k2 : Class := { plain "quadrille/Lexer" (some 0) with
  accessFlags := 48
  interfaces := #[]
  cf := some (fileOf pool2 10 #[] #[{ accessFlags := 8, nameIndex := 184, descriptorIndex := 75, attributes := #[] }] 48 2 #[] #[{ accessFlags := 26, nameIndex := 304, descriptorIndex := 14, attributes := #[] }, { accessFlags := 26, nameIndex := 306, descriptorIndex := 14, attributes := #[] }, { accessFlags := 24, nameIndex := 307, descriptorIndex := 18, attributes := #[] }, { accessFlags := 18, nameIndex := 21, descriptorIndex := 14, attributes := #[] }, { accessFlags := 18, nameIndex := 24, descriptorIndex := 14, attributes := #[] }, { accessFlags := 2, nameIndex := 13, descriptorIndex := 14, attributes := #[] }, { accessFlags := 2, nameIndex := 17, descriptorIndex := 18, attributes := #[] }, { accessFlags := 2, nameIndex := 27, descriptorIndex := 18, attributes := #[] }, { accessFlags := 2, nameIndex := 30, descriptorIndex := 18, attributes := #[] }])
  fields := #[{ name := "NOT_IN_IRI", type := (.object "java/lang/String"), accessFlags := 26, slot := 0, constantValue := 0 }, { name := "LOCAL_ESCAPES", type := (.object "java/lang/String"), accessFlags := 26, slot := 1, constantValue := 0 }, { name := "MAX_NESTING", type := .int, accessFlags := 24, slot := 2, constantValue := 0 }, { name := "source", type := (.object "java/lang/String"), accessFlags := 18, slot := 0, constantValue := 0 }, { name := "endOfText", type := (.object "java/lang/String"), accessFlags := 18, slot := 1, constantValue := 0 }, { name := "text", type := (.object "java/lang/String"), accessFlags := 2, slot := 2, constantValue := 0 }, { name := "firstLine", type := .int, accessFlags := 2, slot := 3, constantValue := 0 }, { name := "pos", type := .int, accessFlags := 2, slot := 4, constantValue := 0 }, { name := "nesting", type := .int, accessFlags := 2, slot := 5, constantValue := 0 }]
  methods := #[k2m0]
  instanceTypes := #[(.object "java/lang/String"), (.object "java/lang/String"), (.object "java/lang/String"), .int, .int, .int]
  staticTypes := #[(.object "java/lang/String"), (.object "java/lang/String"), .int]
  resolved := Array.replicate 402 none
  statics := none }

def pool3 : Array CpInfo := pool [(1, u "java/lang/Cloneable"), (0, .class_ 1), (0, u "java/lang/Object"), (0, .class_ 3)] 3

/-- java/lang/Cloneable -/
def k3 : Class := { plain "java/lang/Cloneable" (some 0) with
  accessFlags := 1537
  interfaces := #[]
  cf := some (fileOf pool3 2 #[] #[] 1537 4 #[] #[])
  fields := #[]
  methods := #[]
  instanceTypes := #[]
  staticTypes := #[]
  resolved := Array.replicate 8 none
  statics := none }

def pool4 : Array CpInfo := pool [(1, u "java/io/Serializable"), (0, .class_ 1), (0, u "java/lang/Object"), (0, .class_ 3)] 3

/-- java/io/Serializable -/
def k4 : Class := { plain "java/io/Serializable" (some 0) with
  accessFlags := 1537
  interfaces := #[]
  cf := some (fileOf pool4 2 #[] #[] 1537 4 #[] #[])
  fields := #[]
  methods := #[]
  instanceTypes := #[]
  staticTypes := #[]
  resolved := Array.replicate 8 none
  statics := none }

/-- the primitive byte -/
def k5 : Class := { plain "byte" none with kind := .primitive 'B', accessFlags := 0x411 }
/-- [B -/
def k6 : Class := { plain "[B" (some 0) with kind := .array 5 .byte, interfaces := #[3, 4], accessFlags := 1041 }

/-- the primitive int -/
def k7 : Class := { plain "int" none with kind := .primitive 'I', accessFlags := 0x411 }
/-- [I -/
def k8 : Class := { plain "[I" (some 0) with kind := .array 7 .int, interfaces := #[3, 4], accessFlags := 1041 }

def heap : Heap := #[]
def classes : Array Class := #[k0, k1, k2, k3, k4, k5, k6, k7, k8]
def interned : List (Array UInt16 × Addr) := []
def slotsUsed : Nat := 0
def theMethod : MethodId := ⟨1, 3⟩
def args0 : Array Value := #[.int 5, .int 7, .int 1]
def aboutOver (below : List Frame) : State where
  vm := { classes := classes, interned := interned.toArray }
  heap := heap
  slotsUsed := slotsUsed
  threads := #[{ frames := .invoking theMethod args0 :: below }]
def below0 : List Frame := [.native { method := ⟨0, 0⟩, args := #[] }]
def about1 : State := aboutOver below0
def p0 : Program := .bare "" "" ""
def e0 : Env := launch0.env 0 0 0
theorem w_frames : about1.frames = Frame.invoking theMethod args0 :: below0 := rfl
set_option maxRecDepth 65536 in
theorem w_args : argsFit about1.vm theMethod args0 = true := by decide +kernel
set_option maxRecDepth 65536 in
theorem w_heap : heapFits about1 = true := by decide +kernel
set_option maxRecDepth 65536 in
theorem w_runnable : about1.curStatus? = some .runnable := by decide +kernel
set_option maxRecDepth 65536 in
theorem w_alone : about1.alone = true := by decide +kernel
set_option maxRecDepth 65536 in
theorem w_named : about1.methodNamed? x = some theMethod := by decide +kernel
set_option maxRecDepth 65536 in
theorem w_hears : about1.hears theMethod below0 = true := by decide +kernel
set_option maxRecDepth 65536 in
theorem w_ripe : about1.ripe theMethod args0 below0 = true := by decide +kernel
theorem w_running : about1.status = .running := rfl
set_option maxRecDepth 65536 in
theorem w_room : about1.hasRoom e0.platform room_1 = true :=
  launch0.hasRoom_least _ room_1 (by decide +kernel) (by decide +kernel) (by decide +kernel) (by decide +kernel) (by decide +kernel) (by decide +kernel)
theorem allAtoms_all (ts : List Jvm.Cond) (a : Array Jvm.Value) (st : Jvm.State) : (allAtoms ts).before a st = ts.all (fun c => c.before a st) := by
  induction ts with
  | nil => rfl
  | cons c t ih =>
    show (Jvm.Cond.and c (allAtoms t)).before a st = _
    rw [Jvm.Cond.before_and, ih, List.all_cons]
def words1 : List Jvm.Cond := Jvm.Cond.code x code maxLocals ret :: tables_1
/-- a 'code' word, met by the world's own term for the bytes: nothing is compared byte by byte -/
theorem code_word {y : MethodName} {bytes : ByteArray} {mx : Nat} {rt : Option FieldType} {a : Array Value} {s : State} {m : MethodId} {meth : Method} {c : Code} (h1 : s.methodNamed? y = some m) (h2 : s.vm.method? m = some meth) (h3 : meth.code = some c) (h4 : c.code = bytes)
    (h5 : (c.maxLocals == mx && c.exceptionTable.isEmpty && decide (c.maxStack ≤ mostOperands) && decide (meth.sig.returnType = rt) && !meth.locks && decide (parseMethodDescriptor y.desc = some meth.sig)) = true) : (Jvm.Cond.code y bytes mx rt).before a s = true := by
  simp only [Bool.and_eq_true, beq_iff_eq, Bool.not_eq_true', decide_eq_true_eq] at h5
  obtain ⟨⟨⟨⟨⟨g1, g2⟩, g3⟩, g4⟩, g5⟩, g6⟩ := h5
  simp [Cond.before, Cond.holds, Cond.value, h1, h2, h3, h4, g1, g2, g3, g4, g5, g6]
def isCode : Jvm.Cond → Bool
  | .code _ _ _ _ => true
  | _ => false
theorem all_split {L : List Jvm.Cond} {P : Jvm.Cond → Bool} (h1 : L.all (fun c => isCode c || P c) = true) (h2 : ∀ c ∈ L.filter isCode, P c = true) : L.all P = true := by
  refine List.all_eq_true.mpr fun c hc => ?_
  have h := List.all_eq_true.mp h1 c hc
  rcases Bool.eq_false_or_eq_true (isCode c) with hi | hi
  · exact h2 c (List.mem_filter.mpr ⟨hc, hi⟩)
  · simpa [hi] using h
set_option maxRecDepth 65536 in
theorem w_c0 : (Jvm.Cond.code x code maxLocals ret).before args0 about1 = true := code_word (m := ⟨1, 3⟩) (meth := k1m3) (c := k1c3) (by decide +kernel) rfl rfl rfl (by decide +kernel)
set_option maxRecDepth 65536 in
theorem w_c1 : (Jvm.Cond.code ({ cls := "quadrille/LexerIsNameStartCharPinLaw", name := "agrees", desc := "(I)Z" } : Jvm.MethodName) method_3_code (1 : Nat) (Option.some Jvm.ClassFile.FieldType.boolean)).before args0 about1 = true := code_word (m := ⟨1, 2⟩) (meth := k1m2) (c := k1c2) (by decide +kernel) rfl rfl rfl (by decide +kernel)
set_option maxRecDepth 65536 in
theorem w_c2 : (Jvm.Cond.code ({ cls := "quadrille/Lexer", name := "isNameStartChar", desc := "(I)Z" } : Jvm.MethodName) prog_70_method_38_code (1 : Nat) (Option.some Jvm.ClassFile.FieldType.boolean)).before args0 about1 = true := code_word (m := ⟨2, 0⟩) (meth := k2m0) (c := k2c0) (by decide +kernel) rfl rfl rfl (by decide +kernel)
set_option maxRecDepth 65536 in
theorem w_c3 : (Jvm.Cond.code ({ cls := "quadrille/LexerIsNameStartCharPinLaw", name := "inGap", desc := "(I)Z" } : Jvm.MethodName) method_2_code (1 : Nat) (Option.some Jvm.ClassFile.FieldType.boolean)).before args0 about1 = true := code_word (m := ⟨1, 1⟩) (meth := k1m1) (c := k1c1) (by decide +kernel) rfl rfl rfl (by decide +kernel)
def codes1 : List Jvm.Cond := [Jvm.Cond.code x code maxLocals ret, Jvm.Cond.code ({ cls := "quadrille/LexerIsNameStartCharPinLaw", name := "agrees", desc := "(I)Z" } : Jvm.MethodName) method_3_code (1 : Nat) (Option.some Jvm.ClassFile.FieldType.boolean), Jvm.Cond.code ({ cls := "quadrille/Lexer", name := "isNameStartChar", desc := "(I)Z" } : Jvm.MethodName) prog_70_method_38_code (1 : Nat) (Option.some Jvm.ClassFile.FieldType.boolean), Jvm.Cond.code ({ cls := "quadrille/LexerIsNameStartCharPinLaw", name := "inGap", desc := "(I)Z" } : Jvm.MethodName) method_2_code (1 : Nat) (Option.some Jvm.ClassFile.FieldType.boolean)]
set_option maxRecDepth 65536 in
theorem codes_eq : words1.filter isCode = codes1 := rfl
theorem w_codes : ∀ c ∈ words1.filter isCode, c.before args0 about1 = true := by
  rw [codes_eq]
  intro c hc
  simp only [codes1, List.mem_cons, List.not_mem_nil, or_false] at hc
  rcases hc with rfl | rfl | rfl | rfl
  · exact w_c0
  · exact w_c1
  · exact w_c2
  · exact w_c3
set_option maxRecDepth 65536 in
theorem w_t1 : (words1.take 24).all (fun c => isCode c || c.before args0 about1) = true := by decide +kernel
set_option maxRecDepth 65536 in
theorem w_t2 : (words1.drop 24).all (fun c => isCode c || c.before args0 about1) = true := by decide +kernel
theorem w_tables : (allAtoms (Jvm.Cond.code x code maxLocals ret :: tables_1)).before args0 about1 = true := by
  rw [allAtoms_all]
  show words1.all (fun c => c.before args0 about1) = true
  refine all_split ?_ w_codes
  rw [← List.take_append_drop 24 words1, List.all_append, w_t1, w_t2]
  rfl
set_option maxRecDepth 65536 in
theorem w_case : (Jvm.Cond.and given_1 narrow_1).before args0 about1 = true := by decide +kernel
theorem w_applies : (headSpec (Jvm.Cond.code x code maxLocals ret :: tables_1) room_1).applies x e0.platform about1 = true :=
  (Spec.applies_iff w_frames).mpr ⟨w_running, w_runnable, w_alone, w_named, w_hears, w_ripe, w_room, w_tables⟩
theorem atStart : AtStart classFile x code maxLocals ret World_1 tables_1 room_1 Calls_1 rest_1 Pre_1 launch0 p0 e0 about1 theMethod args0 below0 :=
  ⟨lists_1, trivial, launch0.admits_env _ _ _, launch0.least_env, fairChoices_fair.cas, fairChoices_fair.clock, w_frames, w_args, w_heap, w_applies, trivial, trivial, w_case⟩
end start1
theorem witness_1 : WitnessClaimed_1 := ⟨start1.p0, start1.e0, start1.about1, start1.theMethod, start1.args0, start1.below0, start1.atStart⟩
end Jvm.Pilot.@@N@@
