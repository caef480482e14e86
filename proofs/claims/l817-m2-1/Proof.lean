import JvmDerived
import JvmDerived.Pilot.@@N@@Statement
import JvmDerived.Pilot.@@N@@Code
set_option linter.unusedVariables false
set_option linter.unusedSimpArgs false
namespace Jvm.OwnKit
open Sem ClassFile Op Lib Jvm.Stand Jvm.Free Jvm.LawKit Jvm.RoadKit
/-- what is fixed in the whole proof: the launch, the start (whose tables the words speak of), its arguments, the least new address -/
abbrev Gx := Launch × State × Array Value × Nat
abbrev Gx.l (G : Gx) : Launch := G.1
abbrev Gx.Z (G : Gx) : State := G.2.1
abbrev Gx.a0 (G : Gx) : Array Value := G.2.2.1
abbrev Gx.n0 (G : Gx) : Nat := G.2.2.2
/-- what is fixed in one body's walk -/
abbrev Kx := Program × Env × State × MethodId × Array Value × List Frame × Method × Code
abbrev Kx.p (K : Kx) : Program := K.1
abbrev Kx.e (K : Kx) : Env := K.2.1
abbrev Kx.s (K : Kx) : State := K.2.2.1
abbrev Kx.m (K : Kx) : MethodId := K.2.2.2.1
abbrev Kx.args (K : Kx) : Array Value := K.2.2.2.2.1
abbrev Kx.below (K : Kx) : List Frame := K.2.2.2.2.2.1
abbrev Kx.meth (K : Kx) : Method := K.2.2.2.2.2.2.1
abbrev Kx.c (K : Kx) : Code := K.2.2.2.2.2.2.2
def Cx (G : Gx) (K : Kx) (own nm : String) (bytes : ByteArray) (maxL : Nat) (ret : Option FieldType) (W : List Jvm.Cond) : Prop :=
  K.p.tables.exec = Jvm.exec ∧ G.Z.Warmed39 K.s.vm ∧ K.c.code = bytes ∧ K.c.maxLocals = maxL ∧ K.s.vm.findClass own = some K.m.cls ∧ K.meth.name = nm ∧ K.meth.sig.returnType = ret ∧ K.meth.locks = false ∧ ∀ d ∈ W, d.before G.a0 G.Z = true
section Cxs
variable {G : Gx} {K : Kx} {own nm : String} {bytes : ByteArray} {maxL : Nat} {ret : Option FieldType} {W : List Jvm.Cond}
theorem Cx.hx (C : Cx G K own nm bytes maxL ret W) : K.p.tables.exec = Jvm.exec := C.1
theorem Cx.hZ (C : Cx G K own nm bytes maxL ret W) : G.Z.Warmed39 K.s.vm := C.2.1
theorem Cx.by (C : Cx G K own nm bytes maxL ret W) : K.c.code = bytes := C.2.2.1
theorem Cx.ml (C : Cx G K own nm bytes maxL ret W) : K.c.maxLocals = maxL := C.2.2.2.1
theorem Cx.ow (C : Cx G K own nm bytes maxL ret W) : K.s.vm.findClass own = some K.m.cls := C.2.2.2.2.1
theorem Cx.name (C : Cx G K own nm bytes maxL ret W) : K.meth.name = nm := C.2.2.2.2.2.1
theorem Cx.rt (C : Cx G K own nm bytes maxL ret W) : K.meth.sig.returnType = ret := C.2.2.2.2.2.2.1
theorem Cx.lk (C : Cx G K own nm bytes maxL ret W) : K.meth.locks = false := C.2.2.2.2.2.2.2.1
theorem Cx.w (C : Cx G K own nm bytes maxL ret W) {i : Nat} {d : Jvm.Cond} (h : W[i]? = some d) : d.before G.a0 G.Z = true := C.2.2.2.2.2.2.2.2 d (List.mem_of_getElem? h)
end Cxs
/-- the run stands in this body at pc with these locals and this stack, over the heap h, having made so many cells and slots: it ends as Q says -/
def N (G : Gx) (K : Kx) (rm : Room) (Q : Option Value → Heap → Prop) (h : Heap) (cells slots pc : Nat) (ls : Array Slot) (st : List Value) : Prop :=
  ∀ (T : State) (locs : List Loc), Stand K.p G.l K.e rm K.s K.m K.args K.below K.meth K.c T locs cells slots → T.heap = h → Fr G.n0 locs →
    ∃ s₂ o, Steps K.p.tables K.e K.below (T.setTop (mkF K.m pc ls st)) s₂ ∧ s₂.status = .running ∧ Ended s₂ K.below o ∧ ∃ v L, o = .returned v ∧ (Q v s₂.heap ∧ Fr G.n0 L) ∧ FrameEnd K.s o s₂ L rm.cells rm.slots
/-- a body's contract -/
def Con (G : Gx) (y : MethodName) (bytes : ByteArray) (maxL : Nat) (ret : Option FieldType) (rm : Room) (as : Array Value) (h : Heap) (Q : Option Value → Heap → Prop) : Prop :=
  ∀ ws : List Jvm.Cond, MetFree G.l y (head1 (Jvm.Cond.code y bytes maxL ret :: ws) rm) (fun a U => a = as ∧ G.Z.Warmed39 U.vm ∧ U.heap = h) (fun _ _ _ _ _ => True) (fun _ U o U' => ∃ v L, o = .returned v ∧ (Q v U'.heap ∧ Fr G.n0 L) ∧ FrameEnd U o U' L rm.cells rm.slots)
theorem Con.of {G : Gx} {y : MethodName} {bytes : ByteArray} {maxL : Nat} {ret : Option FieldType} {rm : Room} {as : Array Value} {h : Heap} {Q : Option Value → Heap → Prop} {W : List Jvm.Cond} {ls : Array Slot} (hpl : plainFor y = true) (hW : ∀ d ∈ W, d.before G.a0 G.Z = true)
    (he : ∀ m, entryFrame m as maxL = mkF m 0 ls []) (body : ∀ K : Kx, Cx G K y.cls y.name bytes maxL ret W → N G K rm Q h 0 0 0 ls []) : Con G y bytes maxL ret rm as h Q := fun ws => by
  refine MetFree.of_bodySF hpl hisR ?_
  intro p e s m args below meth c s₁ Bd hml hP hK
  obtain ⟨rfl, hZ, hh⟩ := hP
  have X0 : Stand p G.l e rm s m args below meth c s₁ [] 0 0 := Stand.of_body Bd
  obtain ⟨s₂, o, h1, h2, h3, h4⟩ := body (p, e, s, m, args, below, meth, c) ⟨Bd.exec, hZ, Bd.bytes, hml, findClass_of_methodNamed Bd.named, (name_of_methodNamed Bd.named Bd.method).1, Bd.returns, BodyLoose.notSynchronized Bd, hW⟩ s₁ [] X0 (by rw [← hh, Bd.state]; rfl) (Fr.nil _)
  exact ⟨s₂, o, castTop (he m) h1, h2, h3, h4⟩
theorem Con.mono {G : Gx} {y : MethodName} {bytes : ByteArray} {maxL : Nat} {ret : Option FieldType} {rm : Room} {as : Array Value} {h : Heap} {Q Q' : Option Value → Heap → Prop} (M : Con G y bytes maxL ret rm as h Q) (f : ∀ v h', Q v h' → Q' v h') : Con G y bytes maxL ret rm as h Q' := fun ws p e ha hc hk s m args below hf happ hP hK => by
  obtain ⟨n, o, h1, h2, h3, v, L, h4, ⟨h5, h6⟩, h7⟩ := M ws p e ha hc hk s m args below hf happ hP hK
  exact ⟨n, o, h1, h2, h3, v, L, h4, ⟨f _ _ h5, h6⟩, h7⟩
def cmpP : ClassFile.Cond → Int32 → Int32 → Prop
  | .eq, x, y => x = y
  | .ne, x, y => ¬ x = y
  | .lt, x, y => x.toInt < y.toInt
  | .ge, x, y => y.toInt ≤ x.toInt
  | .gt, x, y => y.toInt < x.toInt
  | .le, x, y => x.toInt ≤ y.toInt
def cmpN : ClassFile.Cond → Int32 → Int32 → Prop
  | .eq, x, y => ¬ x = y
  | .ne, x, y => x = y
  | .lt, x, y => y.toInt ≤ x.toInt
  | .ge, x, y => x.toInt < y.toInt
  | .gt, x, y => x.toInt ≤ y.toInt
  | .le, x, y => y.toInt < x.toInt
theorem cmp_or (cd : ClassFile.Cond) (x y : Int32) : (if_icmp.holds cd x y = true ∧ cmpP cd x y) ∨ (if_icmp.holds cd x y = false ∧ cmpN cd x y) := by
  have e1 := @Int32.lt_iff_toInt_lt x y
  have e2 := @Int32.lt_iff_toInt_lt y x
  by_cases h1 : x < y
  · obtain ⟨a1, a2, a3, a4⟩ := tlt h1
    have q := e1.mp h1
    have n : ¬ x = y := fun e => by subst e; omega
    obtain ⟨b1, b2⟩ := feq n
    have n' : ¬ y < x := fun z => by have := e2.mp z; omega
    obtain ⟨c1, c2, c3, c4⟩ := flt n'
    cases cd <;> simp only [cmpP, cmpN] <;> simp_all <;> omega
  · obtain ⟨a1, a2, a3, a4⟩ := flt h1
    have q : ¬ x.toInt < y.toInt := fun z => h1 (e1.mpr z)
    by_cases h2 : x = y
    · obtain ⟨b1, b2⟩ := teq h2
      subst h2
      obtain ⟨c1, c2, c3, c4⟩ := flt h1
      cases cd <;> simp only [cmpP, cmpN] <;> simp_all
    · obtain ⟨b1, b2⟩ := feq h2
      have q2 : ¬ x.toInt = y.toInt := fun z => h2 (Int32.toInt_inj.mp z)
      obtain ⟨c1, c2, c3, c4⟩ := tlt (e2.mpr (by omega : y.toInt < x.toInt))
      cases cd <;> simp only [cmpP, cmpN] <;> simp_all <;> omega
def cmpPL : ClassFile.Cond → Int64 → Int64 → Prop
  | .eq, x, y => x = y
  | .ne, x, y => ¬ x = y
  | .lt, x, y => x.toInt < y.toInt
  | .ge, x, y => y.toInt ≤ x.toInt
  | .gt, x, y => y.toInt < x.toInt
  | .le, x, y => x.toInt ≤ y.toInt
def cmpNL : ClassFile.Cond → Int64 → Int64 → Prop
  | .eq, x, y => ¬ x = y
  | .ne, x, y => x = y
  | .lt, x, y => y.toInt ≤ x.toInt
  | .ge, x, y => x.toInt < y.toInt
  | .gt, x, y => x.toInt ≤ y.toInt
  | .le, x, y => y.toInt < x.toInt
theorem cmp_orL (cd : ClassFile.Cond) (x y : Int64) : (ifCond.holds cd (lcmpW x y) = true ∧ cmpPL cd x y) ∨ (ifCond.holds cd (lcmpW x y) = false ∧ cmpNL cd x y) := by
  have hl : (lcmpW x y).toInt < (0 : Int32).toInt ↔ x.toInt < y.toInt := by rw [← Int32.lt_iff_toInt_lt, ← Int64.lt_iff_toInt_lt]; exact lw_lt x y
  have hg : (0 : Int32).toInt < (lcmpW x y).toInt ↔ y.toInt < x.toInt := by rw [← Int32.lt_iff_toInt_lt, ← Int64.lt_iff_toInt_lt]; exact lw_gt x y
  have he := lw_eq x y
  generalize lcmpW x y = z at *
  rw [if0]
  rcases cmp_or cd z 0 with ⟨h1, h2⟩ | ⟨h1, h2⟩
  · refine Or.inl ⟨h1, ?_⟩
    cases cd <;> simp only [cmpP, cmpPL] at h2 ⊢ <;> first | exact he.mp h2 | exact fun q => h2 (he.mpr q) | omega
  · refine Or.inr ⟨h1, ?_⟩
    cases cd <;> simp only [cmpN, cmpNL] at h2 ⊢ <;> first | exact he.mp h2 | exact fun q => h2 (he.mpr q) | omega
/-- the array at x, of that type, holds just these -/
def Av (Z : State) (h : Heap) (x : Addr) (ty : FieldType) (vs : List Value) : Prop := ∃ c : Cell, Arr Z h x c ty ∧ c.slots.toList = vs
theorem ix {j : Int32} {i : Nat} (h : j.toInt = (i : Int)) : ¬ j < 0 ∧ j.toNatClampNeg = i := by
  refine ⟨fun q => ?_, ?_⟩
  · have := Int32.lt_iff_toInt_lt.mp q
    have e0 : (0 : Int32).toInt = 0 := by decide
    omega
  · show j.toInt.toNat = i
    omega
theorem ixin {j : Int32} {i n : Nat} (h : j.toInt = (i : Int)) (hi : i < n) : ¬ (j < 0 ∨ n ≤ j.toNatClampNeg) := by
  obtain ⟨h1, h2⟩ := ix h
  rintro (q | q)
  · exact h1 q
  · omega
theorem eqI {x y : Int32} (h : x = y) : x.toInt = y.toInt := h ▸ rfl
theorem neI {x y : Int32} (h : ¬ x = y) : ¬ x.toInt = y.toInt := fun q => h (Int32.toInt_inj.mp q)
theorem eqL {x y : Int64} (h : x = y) : x.toInt = y.toInt := h ▸ rfl
theorem neL {x y : Int64} (h : ¬ x = y) : ¬ x.toInt = y.toInt := fun q => h (Int64.toInt_inj.mp q)
section Avs
variable {Z : State} {h h' : Heap} {x y : Addr} {ty : FieldType} {vs : List Value} {i : Nat} {v : Value} {sl : Nat} {ws : List Addr}
theorem Av.lt (A : Av Z h x ty vs) : x < h.size := by obtain ⟨c, A, -⟩ := A; exact A.lt
theorem Av.ext (A : Av Z h x ty vs) (E : Ext h h') : Av Z h' x ty vs := by obtain ⟨c, A, r⟩ := A; exact ⟨c, A.ext E, r⟩
theorem Av.other (A : Av Z h x ty vs) (W : Wr h h' y sl v) (q : x ≠ y) : Av Z h' x ty vs := by obtain ⟨c, A, r⟩ := A; exact ⟨c, A.other W q, r⟩
theorem Av.keep (A : Av Z h x ty vs) (K : Keep h h' ws) (q : x ∉ ws) : Av Z h' x ty vs := by obtain ⟨c, A, r⟩ := A; exact ⟨c, ⟨K.2.1 x c A.1 q, A.2⟩, r⟩
theorem Av.same (A : Av Z h x ty vs) (W : Wr h h' x i v) : Av Z h' x ty (vs.set i v) := by
  obtain ⟨c, A, rfl⟩ := A
  exact ⟨_, A.same W, by simp [Cell.setSlot]⟩
theorem Av.new {k : ClassId} {z : Int32} (A : Arr Z h x (newA k ty z) ty) : Av Z h x ty (List.replicate z.toNatClampNeg (defaultValue ty)) := ⟨_, A, by simp [newA]⟩
end Avs
section Rules
variable {G : Gx} {K : Kx} {rm : Room} {own nm : String} {bytes : ByteArray} {maxL : Nat} {ret : Option FieldType} {W : List Jvm.Cond} {Q Q' : Option Value → Heap → Prop} {h : Heap} {a b pc pc' : Nat} {ls ls' : Array Slot} {st st' : List Value}
theorem N.step (f : ∀ T, At T K.m K.c K.below → ∀ t, Steps K.p.tables K.e K.below (T.setTop (mkF K.m pc' ls' st')) t → Steps K.p.tables K.e K.below (T.setTop (mkF K.m pc ls st)) t) (k : N G K rm Q h a b pc' ls' st') : N G K rm Q h a b pc ls st := fun T locs X e F => by
  obtain ⟨s₂, o, hs, r⟩ := k T locs X e F
  exact ⟨s₂, o, f T X.here _ hs, r⟩
theorem N.stX (f : ∀ (T : State) (locs : List Loc), Stand K.p G.l K.e rm K.s K.m K.args K.below K.meth K.c T locs a b → T.heap = h → ∀ t, Steps K.p.tables K.e K.below (T.setTop (mkF K.m pc' ls' st')) t → Steps K.p.tables K.e K.below (T.setTop (mkF K.m pc ls st)) t) (k : N G K rm Q h a b pc' ls' st') : N G K rm Q h a b pc ls st := fun T locs X e F => by
  obtain ⟨s₂, o, hs, r⟩ := k T locs X e F
  exact ⟨s₂, o, f T locs X e _ hs, r⟩
theorem N.mono (k : N G K rm Q h a b pc ls st) (f : ∀ v h', Q v h' → Q' v h') : N G K rm Q' h a b pc ls st := fun T locs X e F => by
  obtain ⟨s₂, o, h1, h2, h3, v, L, h4, ⟨h5, h6⟩, h7⟩ := k T locs X e F
  exact ⟨s₂, o, h1, h2, h3, v, L, h4, ⟨f _ _ h5, h6⟩, h7⟩
theorem N.more {a' b' : Nat} (k : N G K rm Q h a' b' pc ls st) (ha : a ≤ a') (hb : b ≤ b') : N G K rm Q h a b pc ls st := fun T locs X e F => k T locs (X.more ha hb) e F

theorem N.iload (C : Cx G K own nm bytes maxL ret W) {k : Nat} {v : Int32} (hd : decode bytes pc = .ok (.iload k, 2)) (hl : ls[k]? = some (.val (.int v))) (hp : pc + 2 = pc') (k : N G K rm Q h a b pc' ls (.int v :: st)) : N G K rm Q h a b pc ls (st) := by
  subst hp; exact N.step (fun T A t ht => XS.iload A C.hx rfl (hb C.by hd) hl ht) k
theorem N.iloadN (C : Cx G K own nm bytes maxL ret W) {k : Fin 4} {v : Int32} (hd : decode bytes pc = .ok (.iload_n k, 1)) (hl : ls[k.val]? = some (.val (.int v))) (hp : pc + 1 = pc') (k : N G K rm Q h a b pc' ls (.int v :: st)) : N G K rm Q h a b pc ls (st) := by
  subst hp; exact N.step (fun T A t ht => XS.iloadN A C.hx rfl (hb C.by hd) hl ht) k
theorem N.istore (C : Cx G K own nm bytes maxL ret W) {k : Nat} {v : Int32} (hd : decode bytes pc = .ok (.istore k, 2)) (hl : storeLocals ls k (.int v) = some ls') (hp : pc + 2 = pc') (k : N G K rm Q h a b pc' ls' (st)) : N G K rm Q h a b pc ls (.int v :: st) := by
  subst hp; exact N.step (fun T A t ht => XS.istore A C.hx rfl (hb C.by hd) rfl hl ht) k
theorem N.istoreN (C : Cx G K own nm bytes maxL ret W) {k : Fin 4} {v : Int32} (hd : decode bytes pc = .ok (.istore_n k, 1)) (hl : storeLocals ls k.val (.int v) = some ls') (hp : pc + 1 = pc') (k : N G K rm Q h a b pc' ls' (st)) : N G K rm Q h a b pc ls (.int v :: st) := by
  subst hp; exact N.step (fun T A t ht => XS.istoreN A C.hx rfl (hb C.by hd) rfl hl ht) k
theorem N.iadd (C : Cx G K own nm bytes maxL ret W) {x y : Int32} (hd : decode bytes pc = .ok (.iadd, 1)) (hp : pc + 1 = pc') (k : N G K rm Q h a b pc' ls (.int (x + y) :: st)) : N G K rm Q h a b pc ls (.int y :: .int x :: st) := by
  subst hp; exact N.step (fun T A t ht => XS.iadd A C.hx rfl (hb C.by hd) rfl ht) k
theorem N.isub (C : Cx G K own nm bytes maxL ret W) {x y : Int32} (hd : decode bytes pc = .ok (.isub, 1)) (hp : pc + 1 = pc') (k : N G K rm Q h a b pc' ls (.int (x - y) :: st)) : N G K rm Q h a b pc ls (.int y :: .int x :: st) := by
  subst hp; exact N.step (fun T A t ht => XS.isub A C.hx rfl (hb C.by hd) rfl ht) k
theorem N.imul (C : Cx G K own nm bytes maxL ret W) {x y : Int32} (hd : decode bytes pc = .ok (.imul, 1)) (hp : pc + 1 = pc') (k : N G K rm Q h a b pc' ls (.int (x * y) :: st)) : N G K rm Q h a b pc ls (.int y :: .int x :: st) := by
  subst hp; exact N.step (fun T A t ht => XS.imul A C.hx rfl (hb C.by hd) rfl ht) k
theorem N.iand (C : Cx G K own nm bytes maxL ret W) {x y : Int32} (hd : decode bytes pc = .ok (.iand, 1)) (hp : pc + 1 = pc') (k : N G K rm Q h a b pc' ls (.int (x &&& y) :: st)) : N G K rm Q h a b pc ls (.int y :: .int x :: st) := by
  subst hp; exact N.step (fun T A t ht => XS.iand A C.hx rfl (hb C.by hd) rfl ht) k
theorem N.ior (C : Cx G K own nm bytes maxL ret W) {x y : Int32} (hd : decode bytes pc = .ok (.ior, 1)) (hp : pc + 1 = pc') (k : N G K rm Q h a b pc' ls (.int (x ||| y) :: st)) : N G K rm Q h a b pc ls (.int y :: .int x :: st) := by
  subst hp; exact N.step (fun T A t ht => XS.ior A C.hx rfl (hb C.by hd) rfl ht) k
theorem N.ixor (C : Cx G K own nm bytes maxL ret W) {x y : Int32} (hd : decode bytes pc = .ok (.ixor, 1)) (hp : pc + 1 = pc') (k : N G K rm Q h a b pc' ls (.int (x ^^^ y) :: st)) : N G K rm Q h a b pc ls (.int y :: .int x :: st) := by
  subst hp; exact N.step (fun T A t ht => XS.ixor A C.hx rfl (hb C.by hd) rfl ht) k
theorem N.idiv (C : Cx G K own nm bytes maxL ret W) {x y : Int32} (hd : decode bytes pc = .ok (.idiv, 1)) (hy : y ≠ 0) (hp : pc + 1 = pc') (k : N G K rm Q h a b pc' ls (.int (x / y) :: st)) : N G K rm Q h a b pc ls (.int y :: .int x :: st) := by
  subst hp; exact N.step (fun T A t ht => XS.idiv A C.hx rfl (hb C.by hd) rfl hy ht) k
theorem N.ineg (C : Cx G K own nm bytes maxL ret W) {x : Int32} (hd : decode bytes pc = .ok (.ineg, 1)) (hp : pc + 1 = pc') (k : N G K rm Q h a b pc' ls (.int (-x) :: st)) : N G K rm Q h a b pc ls (.int x :: st) := by
  subst hp; exact N.step (fun T A t ht => XS.ineg A C.hx rfl (hb C.by hd) rfl ht) k
theorem N.lload (C : Cx G K own nm bytes maxL ret W) {k : Nat} {v : Int64} (hd : decode bytes pc = .ok (.lload k, 2)) (hl : ls[k]? = some (.val (.long v))) (hp : pc + 2 = pc') (k : N G K rm Q h a b pc' ls (.long v :: st)) : N G K rm Q h a b pc ls (st) := by
  subst hp; exact N.step (fun T A t ht => XS.lload A C.hx rfl (hb C.by hd) hl ht) k
theorem N.lloadN (C : Cx G K own nm bytes maxL ret W) {k : Fin 4} {v : Int64} (hd : decode bytes pc = .ok (.lload_n k, 1)) (hl : ls[k.val]? = some (.val (.long v))) (hp : pc + 1 = pc') (k : N G K rm Q h a b pc' ls (.long v :: st)) : N G K rm Q h a b pc ls (st) := by
  subst hp; exact N.step (fun T A t ht => XS.lloadN A C.hx rfl (hb C.by hd) hl ht) k
theorem N.lstore (C : Cx G K own nm bytes maxL ret W) {k : Nat} {v : Int64} (hd : decode bytes pc = .ok (.lstore k, 2)) (hl : storeLocals ls k (.long v) = some ls') (hp : pc + 2 = pc') (k : N G K rm Q h a b pc' ls' (st)) : N G K rm Q h a b pc ls (.long v :: st) := by
  subst hp; exact N.step (fun T A t ht => XS.lstore A C.hx rfl (hb C.by hd) rfl hl ht) k
theorem N.lstoreN (C : Cx G K own nm bytes maxL ret W) {k : Fin 4} {v : Int64} (hd : decode bytes pc = .ok (.lstore_n k, 1)) (hl : storeLocals ls k.val (.long v) = some ls') (hp : pc + 1 = pc') (k : N G K rm Q h a b pc' ls' (st)) : N G K rm Q h a b pc ls (.long v :: st) := by
  subst hp; exact N.step (fun T A t ht => XS.lstoreN A C.hx rfl (hb C.by hd) rfl hl ht) k
theorem N.ladd (C : Cx G K own nm bytes maxL ret W) {x y : Int64} (hd : decode bytes pc = .ok (.ladd, 1)) (hp : pc + 1 = pc') (k : N G K rm Q h a b pc' ls (.long (x + y) :: st)) : N G K rm Q h a b pc ls (.long y :: .long x :: st) := by
  subst hp; exact N.step (fun T A t ht => XS.ladd A C.hx rfl (hb C.by hd) rfl ht) k
theorem N.lsub (C : Cx G K own nm bytes maxL ret W) {x y : Int64} (hd : decode bytes pc = .ok (.lsub, 1)) (hp : pc + 1 = pc') (k : N G K rm Q h a b pc' ls (.long (x - y) :: st)) : N G K rm Q h a b pc ls (.long y :: .long x :: st) := by
  subst hp; exact N.step (fun T A t ht => XS.lsub A C.hx rfl (hb C.by hd) rfl ht) k
theorem N.lmul (C : Cx G K own nm bytes maxL ret W) {x y : Int64} (hd : decode bytes pc = .ok (.lmul, 1)) (hp : pc + 1 = pc') (k : N G K rm Q h a b pc' ls (.long (x * y) :: st)) : N G K rm Q h a b pc ls (.long y :: .long x :: st) := by
  subst hp; exact N.step (fun T A t ht => XS.lmul A C.hx rfl (hb C.by hd) rfl ht) k
theorem N.land (C : Cx G K own nm bytes maxL ret W) {x y : Int64} (hd : decode bytes pc = .ok (.land, 1)) (hp : pc + 1 = pc') (k : N G K rm Q h a b pc' ls (.long (x &&& y) :: st)) : N G K rm Q h a b pc ls (.long y :: .long x :: st) := by
  subst hp; exact N.step (fun T A t ht => XS.land A C.hx rfl (hb C.by hd) rfl ht) k
theorem N.lor (C : Cx G K own nm bytes maxL ret W) {x y : Int64} (hd : decode bytes pc = .ok (.lor, 1)) (hp : pc + 1 = pc') (k : N G K rm Q h a b pc' ls (.long (x ||| y) :: st)) : N G K rm Q h a b pc ls (.long y :: .long x :: st) := by
  subst hp; exact N.step (fun T A t ht => XS.lor A C.hx rfl (hb C.by hd) rfl ht) k
theorem N.lxor (C : Cx G K own nm bytes maxL ret W) {x y : Int64} (hd : decode bytes pc = .ok (.lxor, 1)) (hp : pc + 1 = pc') (k : N G K rm Q h a b pc' ls (.long (x ^^^ y) :: st)) : N G K rm Q h a b pc ls (.long y :: .long x :: st) := by
  subst hp; exact N.step (fun T A t ht => XS.lxor A C.hx rfl (hb C.by hd) rfl ht) k
theorem N.ldiv (C : Cx G K own nm bytes maxL ret W) {x y : Int64} (hd : decode bytes pc = .ok (.ldiv, 1)) (hy : y ≠ 0) (hp : pc + 1 = pc') (k : N G K rm Q h a b pc' ls (.long (x / y) :: st)) : N G K rm Q h a b pc ls (.long y :: .long x :: st) := by
  subst hp; exact N.step (fun T A t ht => XS.ldiv A C.hx rfl (hb C.by hd) rfl hy ht) k
theorem N.lneg (C : Cx G K own nm bytes maxL ret W) {x : Int64} (hd : decode bytes pc = .ok (.lneg, 1)) (hp : pc + 1 = pc') (k : N G K rm Q h a b pc' ls (.long (-x) :: st)) : N G K rm Q h a b pc ls (.long x :: st) := by
  subst hp; exact N.step (fun T A t ht => XS.lneg A C.hx rfl (hb C.by hd) rfl ht) k
theorem N.irem (C : Cx G K own nm bytes maxL ret W) {x y : Int32} (hd : decode bytes pc = .ok (.irem, 1)) (hy : y ≠ 0) (hp : pc + 1 = pc') (k : N G K rm Q h a b pc' ls (.int (x % y) :: st)) : N G K rm Q h a b pc ls (.int y :: .int x :: st) := by
  subst hp; exact N.step (fun T A t ht => XS.irem A C.hx rfl (hb C.by hd) rfl hy (by rw [irem_eq_mod]; exact ht)) k
theorem N.lrem (C : Cx G K own nm bytes maxL ret W) {x y : Int64} (hd : decode bytes pc = .ok (.lrem, 1)) (hy : y ≠ 0) (hp : pc + 1 = pc') (k : N G K rm Q h a b pc' ls (.long (x % y) :: st)) : N G K rm Q h a b pc ls (.long y :: .long x :: st) := by
  subst hp; exact N.step (fun T A t ht => XS.lrem A C.hx rfl (hb C.by hd) rfl hy (by rw [lrem_mod]; exact ht)) k
theorem N.aload (C : Cx G K own nm bytes maxL ret W) {k : Nat} {v : Value} (hd : decode bytes pc = .ok (.aload k, 2)) (hl : ls[k]? = some (.val v)) (hv : v.isRef = true) (hp : pc + 2 = pc') (k : N G K rm Q h a b pc' ls (v :: st)) : N G K rm Q h a b pc ls (st) := by
  subst hp; exact N.step (fun T A t ht => XS.aload A C.hx rfl (hb C.by hd) hl hv ht) k
theorem N.aloadN (C : Cx G K own nm bytes maxL ret W) {k : Fin 4} {v : Value} (hd : decode bytes pc = .ok (.aload_n k, 1)) (hl : ls[k.val]? = some (.val v)) (hv : v.isRef = true) (hp : pc + 1 = pc') (k : N G K rm Q h a b pc' ls (v :: st)) : N G K rm Q h a b pc ls (st) := by
  subst hp; exact N.step (fun T A t ht => XS.aloadN A C.hx rfl (hb C.by hd) hl hv ht) k
theorem N.astore (C : Cx G K own nm bytes maxL ret W) {k : Nat} {v : Value} (hd : decode bytes pc = .ok (.astore k, 2)) (hv : v.isRef = true) (hl : storeLocals ls k v = some ls') (hp : pc + 2 = pc') (k : N G K rm Q h a b pc' ls' (st)) : N G K rm Q h a b pc ls (v :: st) := by
  subst hp; exact N.step (fun T A t ht => XS.astore A C.hx rfl (hb C.by hd) rfl hv hl ht) k
theorem N.astoreN (C : Cx G K own nm bytes maxL ret W) {k : Fin 4} {v : Value} (hd : decode bytes pc = .ok (.astore_n k, 1)) (hv : v.isRef = true) (hl : storeLocals ls k.val v = some ls') (hp : pc + 1 = pc') (k : N G K rm Q h a b pc' ls' (st)) : N G K rm Q h a b pc ls (v :: st) := by
  subst hp; exact N.step (fun T A t ht => XS.astoreN A C.hx rfl (hb C.by hd) rfl hv hl ht) k
theorem N.iconst (C : Cx G K own nm bytes maxL ret W) {i : Int} {z : Int32} (hd : decode bytes pc = .ok (.iconst i, 1)) (hz : Int32.ofInt i = z) (hp : pc + 1 = pc') (k : N G K rm Q h a b pc' ls (.int z :: st)) : N G K rm Q h a b pc ls st := by
  subst hp hz; exact N.step (fun T A t ht => XS.iconst A C.hx rfl (hb C.by hd) ht) k
theorem N.bipush (C : Cx G K own nm bytes maxL ret W) {i : Int} {z : Int32} (hd : decode bytes pc = .ok (.bipush i, 2)) (hz : (Int8.ofInt i).toInt32 = z) (hp : pc + 2 = pc') (k : N G K rm Q h a b pc' ls (.int z :: st)) : N G K rm Q h a b pc ls st := by
  subst hp hz; exact N.step (fun T A t ht => XS.bipush A C.hx rfl (hb C.by hd) ht) k
theorem N.sipush (C : Cx G K own nm bytes maxL ret W) {i : Int} {z : Int32} (hd : decode bytes pc = .ok (.sipush i, 3)) (hz : (Int16.ofInt i).toInt32 = z) (hp : pc + 3 = pc') (k : N G K rm Q h a b pc' ls (.int z :: st)) : N G K rm Q h a b pc ls st := by
  subst hp hz; exact N.step (fun T A t ht => XS.sipush A C.hx rfl (hb C.by hd) ht) k
theorem N.lconst (C : Cx G K own nm bytes maxL ret W) {k : Fin 2} {z : Int64} (hd : decode bytes pc = .ok (.lconst k, 1)) (hz : Int64.ofNat k = z) (hp : pc + 1 = pc') (k : N G K rm Q h a b pc' ls (.long z :: st)) : N G K rm Q h a b pc ls st := by
  subst hp hz; exact N.step (fun T A t ht => XS.lconst A C.hx rfl (hb C.by hd) ht) k
theorem N.aconst_null (C : Cx G K own nm bytes maxL ret W)  (hd : decode bytes pc = .ok (.aconst_null, 1)) (hp : pc + 1 = pc') (k : N G K rm Q h a b pc' ls (.null :: st)) : N G K rm Q h a b pc ls (st) := by
  subst hp; exact N.step (fun T A t ht => XS.aconstNull A C.hx rfl (hb C.by hd)  ht) k
theorem N.dup (C : Cx G K own nm bytes maxL ret W) {v : Value} (hd : decode bytes pc = .ok (.dup, 1)) (hc : v.category = 1) (hp : pc + 1 = pc') (k : N G K rm Q h a b pc' ls (v :: v :: st)) : N G K rm Q h a b pc ls (v :: st) := by
  subst hp; exact N.step (fun T A t ht => XS.dup A C.hx rfl (hb C.by hd) rfl hc ht) k
theorem N.pop (C : Cx G K own nm bytes maxL ret W) {v : Value} (hd : decode bytes pc = .ok (.pop, 1)) (hc : v.category = 1) (hp : pc + 1 = pc') (k : N G K rm Q h a b pc' ls (st)) : N G K rm Q h a b pc ls (v :: st) := by
  subst hp; exact N.step (fun T A t ht => XS.pop A C.hx rfl (hb C.by hd) rfl hc ht) k
theorem N.dup_x1 (C : Cx G K own nm bytes maxL ret W) {v w : Value} (hd : decode bytes pc = .ok (.dup_x1, 1)) (hc : v.category = 1) (hc' : w.category = 1) (hp : pc + 1 = pc') (k : N G K rm Q h a b pc' ls (v :: w :: v :: st)) : N G K rm Q h a b pc ls (v :: w :: st) := by
  subst hp; exact N.step (fun T A t ht => XS.dupX1 A C.hx rfl (hb C.by hd) rfl hc hc' ht) k
theorem N.dup2 (C : Cx G K own nm bytes maxL ret W) {v w : Value} (hd : decode bytes pc = .ok (.dup2, 1)) (hc : v.category = 1) (hc' : w.category = 1) (hp : pc + 1 = pc') (k : N G K rm Q h a b pc' ls (v :: w :: v :: w :: st)) : N G K rm Q h a b pc ls (v :: w :: st) := by
  subst hp; exact N.step (fun T A t ht => XT.dup2 A C.hx rfl (hb C.by hd) rfl hc hc' ht) k
theorem N.dup2L (C : Cx G K own nm bytes maxL ret W) {x : Int64} (hd : decode bytes pc = .ok (.dup2, 1)) (hp : pc + 1 = pc') (k : N G K rm Q h a b pc' ls (.long x :: .long x :: st)) : N G K rm Q h a b pc ls (.long x :: st) := by
  subst hp; exact N.step (fun T A t ht => XT.dup2L A C.hx rfl (hb C.by hd) rfl ht) k
theorem N.i2l (C : Cx G K own nm bytes maxL ret W) {x : Int32} (hd : decode bytes pc = .ok (.i2l, 1)) (hp : pc + 1 = pc') (k : N G K rm Q h a b pc' ls (.long (x.toInt64) :: st)) : N G K rm Q h a b pc ls (.int x :: st) := by
  subst hp; exact N.step (fun T A t ht => XS.i2l A C.hx rfl (hb C.by hd) rfl ht) k
theorem N.l2i (C : Cx G K own nm bytes maxL ret W) {x : Int64} (hd : decode bytes pc = .ok (.l2i, 1)) (hp : pc + 1 = pc') (k : N G K rm Q h a b pc' ls (.int (x.toInt32) :: st)) : N G K rm Q h a b pc ls (.long x :: st) := by
  subst hp; exact N.step (fun T A t ht => XS.l2i A C.hx rfl (hb C.by hd) rfl ht) k
theorem N.i2b (C : Cx G K own nm bytes maxL ret W) {x : Int32} (hd : decode bytes pc = .ok (.i2b, 1)) (hp : pc + 1 = pc') (k : N G K rm Q h a b pc' ls (.int (x.toInt8.toInt32) :: st)) : N G K rm Q h a b pc ls (.int x :: st) := by
  subst hp; exact N.step (fun T A t ht => XS.i2b A C.hx rfl (hb C.by hd) rfl ht) k
theorem N.i2s (C : Cx G K own nm bytes maxL ret W) {x : Int32} (hd : decode bytes pc = .ok (.i2s, 1)) (hp : pc + 1 = pc') (k : N G K rm Q h a b pc' ls (.int (x.toInt16.toInt32) :: st)) : N G K rm Q h a b pc ls (.int x :: st) := by
  subst hp; exact N.step (fun T A t ht => XS.i2s A C.hx rfl (hb C.by hd) rfl ht) k
theorem N.i2c (C : Cx G K own nm bytes maxL ret W) {x : Int32} (hd : decode bytes pc = .ok (.i2c, 1)) (hp : pc + 1 = pc') (k : N G K rm Q h a b pc' ls (.int (x.toUInt32.toUInt16.toUInt32.toInt32) :: st)) : N G K rm Q h a b pc ls (.int x :: st) := by
  subst hp; exact N.step (fun T A t ht => XS.i2c A C.hx rfl (hb C.by hd) rfl ht) k
theorem N.ishl (C : Cx G K own nm bytes maxL ret W) {x y : Int32} (hd : decode bytes pc = .ok (.ishl, 1)) (hp : pc + 1 = pc') (k : N G K rm Q h a b pc' ls (.int (x <<< (y &&& 31)) :: st)) : N G K rm Q h a b pc ls (.int y :: .int x :: st) := by
  subst hp; exact N.step (fun T A t ht => XS.ishl A C.hx rfl (hb C.by hd) rfl ht) k
theorem N.ishr (C : Cx G K own nm bytes maxL ret W) {x y : Int32} (hd : decode bytes pc = .ok (.ishr, 1)) (hp : pc + 1 = pc') (k : N G K rm Q h a b pc' ls (.int (x >>> (y &&& 31)) :: st)) : N G K rm Q h a b pc ls (.int y :: .int x :: st) := by
  subst hp; exact N.step (fun T A t ht => XS.ishr A C.hx rfl (hb C.by hd) rfl ht) k
theorem N.iushr (C : Cx G K own nm bytes maxL ret W) {x y : Int32} (hd : decode bytes pc = .ok (.iushr, 1)) (hp : pc + 1 = pc') (k : N G K rm Q h a b pc' ls (.int ((x.toUInt32 >>> (y &&& 31).toUInt32).toInt32) :: st)) : N G K rm Q h a b pc ls (.int y :: .int x :: st) := by
  subst hp; exact N.step (fun T A t ht => XS.iushr A C.hx rfl (hb C.by hd) rfl ht) k
theorem N.lshl (C : Cx G K own nm bytes maxL ret W) {x : Int64} {y : Int32} (hd : decode bytes pc = .ok (.lshl, 1)) (hp : pc + 1 = pc') (k : N G K rm Q h a b pc' ls (.long (x <<< (y &&& 0x3f).toInt64) :: st)) : N G K rm Q h a b pc ls (.int y :: .long x :: st) := by
  subst hp; exact N.step (fun T A t ht => XS.lshl A C.hx rfl (hb C.by hd) rfl ht) k
theorem N.lshr (C : Cx G K own nm bytes maxL ret W) {x : Int64} {y : Int32} (hd : decode bytes pc = .ok (.lshr, 1)) (hp : pc + 1 = pc') (k : N G K rm Q h a b pc' ls (.long (x >>> (y &&& 0x3f).toInt64) :: st)) : N G K rm Q h a b pc ls (.int y :: .long x :: st) := by
  subst hp; exact N.step (fun T A t ht => XS.lshr A C.hx rfl (hb C.by hd) rfl ht) k
theorem N.lushr (C : Cx G K own nm bytes maxL ret W) {x : Int64} {y : Int32} (hd : decode bytes pc = .ok (.lushr, 1)) (hp : pc + 1 = pc') (k : N G K rm Q h a b pc' ls (.long ((x.toUInt64 >>> (y &&& 0x3f).toInt64.toUInt64).toInt64) :: st)) : N G K rm Q h a b pc ls (.int y :: .long x :: st) := by
  subst hp; exact N.step (fun T A t ht => XS.lushr A C.hx rfl (hb C.by hd) rfl ht) k
theorem N.lcmp (C : Cx G K own nm bytes maxL ret W) {x y : Int64} (hd : decode bytes pc = .ok (.lcmp, 1)) (hp : pc + 1 = pc') (k : N G K rm Q h a b pc' ls (.int (lcmpW x y) :: st)) : N G K rm Q h a b pc ls (.long y :: .long x :: st) := by
  subst hp; exact N.step (fun T A t ht => XS.lcmp A C.hx rfl (hb C.by hd) rfl ht) k
theorem N.iinc (C : Cx G K own nm bytes maxL ret W) {k : Nat} {cst : Int} {x z : Int32} (hd : decode bytes pc = .ok (.iinc k cst, 3)) (hl : ls[k]? = some (.val (.int x))) (hz : Int32.ofInt cst = z) (hl' : storeLocals ls k (.int (x + z)) = some ls') (hp : pc + 3 = pc') (k : N G K rm Q h a b pc' ls' st) : N G K rm Q h a b pc ls st := by
  subst hp hz; exact N.step (fun T A t ht => XS.iinc A C.hx rfl (hb C.by hd) hl hl' ht) k
theorem N.goto (C : Cx G K own nm bytes maxL ret W) {o : Int} (hd : decode bytes pc = .ok (.goto o, 3)) (hp : (pc : Int) + o = (pc' : Nat)) (k : N G K rm Q h a b pc' ls st) : N G K rm Q h a b pc ls st :=
  N.step (fun T A t ht => XS.goto A C.hx rfl (pc0 := pc) rfl (hb C.by hd) (by omega) (by omega) ht) k
theorem N.icmp (C : Cx G K own nm bytes maxL ret W) {cd : ClassFile.Cond} {o : Int} {x y : Int32} {pt pf : Nat} (hd : decode bytes pc = .ok (.if_icmp cd o, 3)) (ht : (pc : Int) + o = (pt : Nat)) (hf : pc + 3 = pf) (kt : cmpP cd x y → N G K rm Q h a b pt ls st) (kf : cmpN cd x y → N G K rm Q h a b pf ls st) : N G K rm Q h a b pc ls (.int y :: .int x :: st) := by
  subst hf
  rcases cmp_or cd x y with ⟨h1, h2⟩ | ⟨h1, h2⟩
  · exact N.step (fun T A t k => XS.icmpYes A C.hx rfl (pc0 := pc) rfl (hb C.by hd) rfl h1 (by omega) (by omega) k) (kt h2)
  · exact N.step (fun T A t k => XS.icmpNo A C.hx rfl (hb C.by hd) rfl h1 k) (kf h2)
theorem N.ifc (C : Cx G K own nm bytes maxL ret W) {cd : ClassFile.Cond} {o : Int} {x : Int32} {pt pf : Nat} (hd : decode bytes pc = .ok (.ifCond cd o, 3)) (ht : (pc : Int) + o = (pt : Nat)) (hf : pc + 3 = pf) (kt : cmpP cd x 0 → N G K rm Q h a b pt ls st) (kf : cmpN cd x 0 → N G K rm Q h a b pf ls st) : N G K rm Q h a b pc ls (.int x :: st) := by
  subst hf
  rcases cmp_or cd x 0 with ⟨h1, h2⟩ | ⟨h1, h2⟩
  · exact N.step (fun T A t k => XS.ifYes A C.hx rfl (pc0 := pc) rfl (hb C.by hd) rfl ((if0 _ _).trans h1) (by omega) (by omega) k) (kt h2)
  · exact N.step (fun T A t k => XS.ifNo A C.hx rfl (hb C.by hd) rfl ((if0 _ _).trans h1) k) (kf h2)
/-- behind lcmp -/
theorem N.lif (C : Cx G K own nm bytes maxL ret W) {cd : ClassFile.Cond} {o : Int} {x y : Int64} {pt pf : Nat} (hd : decode bytes pc = .ok (.ifCond cd o, 3)) (ht : (pc : Int) + o = (pt : Nat)) (hf : pc + 3 = pf) (kt : cmpPL cd x y → N G K rm Q h a b pt ls st) (kf : cmpNL cd x y → N G K rm Q h a b pf ls st) : N G K rm Q h a b pc ls (.int (lcmpW x y) :: st) := by
  subst hf
  rcases cmp_orL cd x y with ⟨h1, h2⟩ | ⟨h1, h2⟩
  · exact N.step (fun T A t k => XS.ifYes A C.hx rfl (pc0 := pc) rfl (hb C.by hd) rfl h1 (by omega) (by omega) k) (kt h2)
  · exact N.step (fun T A t k => XS.ifNo A C.hx rfl (hb C.by hd) rfl h1 k) (kf h2)
theorem N.ifnull0 (C : Cx G K own nm bytes maxL ret W) {o : Int} (hd : decode bytes pc = .ok (.ifnull o, 3)) (ht : (pc : Int) + o = (pc' : Nat)) (k : N G K rm Q h a b pc' ls st) : N G K rm Q h a b pc ls (.null :: st) :=
  N.step (fun T A t k => XS.ifnullYes A C.hx rfl (pc0 := pc) rfl (hb C.by hd) rfl (by omega) (by omega) k) k
theorem N.ifnull1 (C : Cx G K own nm bytes maxL ret W) {o : Int} {x : Addr} (hd : decode bytes pc = .ok (.ifnull o, 3)) (hp : pc + 3 = pc') (k : N G K rm Q h a b pc' ls st) : N G K rm Q h a b pc ls (.ref x :: st) := by
  subst hp; exact N.step (fun T A t k => XS.ifnullNo A C.hx rfl (hb C.by hd) rfl k) k
theorem N.ifnonnull1 (C : Cx G K own nm bytes maxL ret W) {o : Int} {x : Addr} (hd : decode bytes pc = .ok (.ifnonnull o, 3)) (ht : (pc : Int) + o = (pc' : Nat)) (k : N G K rm Q h a b pc' ls st) : N G K rm Q h a b pc ls (.ref x :: st) :=
  N.step (fun T A t k => XS.ifnonnullYes A C.hx rfl (pc0 := pc) rfl (hb C.by hd) rfl (by omega) (by omega) k) k
theorem N.ifnonnull0 (C : Cx G K own nm bytes maxL ret W) {o : Int} (hd : decode bytes pc = .ok (.ifnonnull o, 3)) (hp : pc + 3 = pc') (k : N G K rm Q h a b pc' ls st) : N G K rm Q h a b pc ls (.null :: st) := by
  subst hp; exact N.step (fun T A t k => XS.ifnonnullNo A C.hx rfl (hb C.by hd) rfl k) k
theorem N.acmp (C : Cx G K own nm bytes maxL ret W) {cd : ACond} {o : Int} {v w : Value} (same : Bool) (hd : decode bytes pc = .ok (.if_acmp cd o, 3)) (h1 : v.isRef = true) (h2 : w.isRef = true) (hq : decide (v = w) = same) (ho : 0 ≤ (pc : Int) + o) (hp : pc' = if acV cd same = true then ((pc : Int) + o).toNat else pc + 3) (k : N G K rm Q h a b pc' ls st) : N G K rm Q h a b pc ls (w :: v :: st) :=
  N.stX (fun T locs X e t ht => Jvm.RoadKit.acmp (g := mkF K.m pc ls (w :: v :: st)) X C.hx rfl h1 h2 rfl (hb C.by hd) rfl hq ho hp ht) k
theorem N.ldcI (C : Cx G K own nm bytes maxL ret W) {i : Nat} {v : Int32} (hd : decode bytes pc = .ok (.ldc i, 2)) (w : (Jvm.Cond.constant own i v).before G.a0 G.Z = true) (hp : pc + 2 = pc') (k : N G K rm Q h a b pc' ls (.int v :: st)) : N G K rm Q h a b pc ls st := by
  subst hp; exact N.stX (fun T locs X e t ht => X.ldcInt C.hx C.ow (mvT C.hZ w) (g := mkF K.m pc ls st) rfl (hb C.by hd) t ht) k
theorem N.ldcwI (C : Cx G K own nm bytes maxL ret W) {i : Nat} {v : Int32} (hd : decode bytes pc = .ok (.ldc_w i, 3)) (w : (Jvm.Cond.constant own i v).before G.a0 G.Z = true) (hp : pc + 3 = pc') (k : N G K rm Q h a b pc' ls (.int v :: st)) : N G K rm Q h a b pc ls st := by
  subst hp; exact N.stX (fun T locs X e t ht => X.ldcwInt C.hx C.ow (mvT C.hZ w) (g := mkF K.m pc ls st) rfl (hb C.by hd) t ht) k
theorem N.ldcL (C : Cx G K own nm bytes maxL ret W) {i : Nat} {v : Int64} (hd : decode bytes pc = .ok (.ldc2_w i, 3)) (w : (Jvm.Cond.constantLong own i v).before G.a0 G.Z = true) (hp : pc + 3 = pc') (k : N G K rm Q h a b pc' ls (.long v :: st)) : N G K rm Q h a b pc ls st := by
  subst hp; exact N.stX (fun T locs X e t ht => X.ldc2Long C.hx C.ow (mvT C.hZ w) (g := mkF K.m pc ls st) rfl (hb C.by hd) t ht) k
theorem N.getF (C : Cx G K own nm bytes maxL ret W) {O n d : String} {i : Nat} {x : Addr} {v : Value} (hd : decode bytes pc = .ok (.getfield i, 3)) (w : (Jvm.Cond.fieldLink own i O n d).before G.a0 G.Z = true) (F : Fld G.Z h x O n d v) (hp : pc + 3 = pc') (k : N G K rm Q h a b pc' ls (v :: st)) : N G K rm Q h a b pc ls (.ref x :: st) := fun T locs X e N0 => by
  subst hp
  obtain ⟨T', X', e', s'⟩ := Jvm.RoadKit.getF X C.hx C.hZ C.ow (host := "") (Or.inl w) Via.refl e F (g := mkF K.m pc ls (.ref x :: st)) rfl rfl (hb C.by hd)
  obtain ⟨s₂, o, hs, r⟩ := k T' locs X' e' N0
  exact ⟨s₂, o, s' _ hs, r⟩
theorem N.getFN (C : Cx G K own nm bytes maxL ret W) {O n d host : String} {i : Nat} {x : Addr} {v : Value} (hd : decode bytes pc = .ok (.getfield i, 3)) (w : (Jvm.Cond.fieldLinkNest own i O n d host).before G.a0 G.Z = true) (F : Fld G.Z h x O n d v) (hp : pc + 3 = pc') (k : N G K rm Q h a b pc' ls (v :: st)) : N G K rm Q h a b pc ls (.ref x :: st) := fun T locs X e N0 => by
  subst hp
  obtain ⟨T', X', e', s'⟩ := Jvm.RoadKit.getF X C.hx C.hZ C.ow (Or.inr w) Via.refl e F (g := mkF K.m pc ls (.ref x :: st)) rfl rfl (hb C.by hd)
  obtain ⟨s₂, o, hs, r⟩ := k T' locs X' e' N0
  exact ⟨s₂, o, s' _ hs, r⟩
theorem N.putF (C : Cx G K own nm bytes maxL ret W) {O n d Cn : String} {i kk : Nat} {ty : FieldType} {x : Addr} {v old : Value} (hd : decode bytes pc = .ok (.putfield i, 3)) (w : (Jvm.Cond.fieldLink own i O n d).before G.a0 G.Z = true) (F : Fld G.Z h x O n d old) (E : Exa G.Z h x Cn)
    (L : (Jvm.Cond.lays Cn O n d).before G.a0 G.Z = true ∨ ((Jvm.Cond.laysFinal Cn O n d).before G.a0 G.Z = true ∧ own = O ∧ nm = "<init>")) (wi : (Jvm.Cond.instantiable Cn kk).before G.a0 G.Z = true) (hty : parseFieldDescriptor d = some ty) (hn : narrow ty v = v) (hf : fits ty v = true) (hx : G.n0 ≤ x) (hp : pc + 3 = pc')
    (k : ∀ h', Wr h h' x (Jvm.RoadKit.slotOf G.Z O n d) v → N G K rm Q h' a b pc' ls st) : N G K rm Q h a b pc ls (v :: .ref x :: st) := fun T locs X e N0 => by
  subst hp
  obtain ⟨T', h', X', e', W', s'⟩ := Jvm.RoadKit.putF X C.hx C.hZ C.ow (host := "") (Or.inl w) Via.refl e F E (L.imp id fun q => ⟨q.1, q.2.1, C.name.trans q.2.2⟩) wi hty hn hf (g := mkF K.m pc ls (v :: .ref x :: st)) rfl rfl (hb C.by hd)
  obtain ⟨s₂, o, hs, r⟩ := k h' W' T' _ X' e' (Fr.snoc X' N0 hx)
  exact ⟨s₂, o, s' _ hs, r⟩
theorem N.putFN (C : Cx G K own nm bytes maxL ret W) {O n d Cn : String} {i kk : Nat} {ty : FieldType} {x : Addr} {v v' old : Value} (hd : decode bytes pc = .ok (.putfield i, 3)) (w : (Jvm.Cond.fieldLink own i O n d).before G.a0 G.Z = true) (F : Fld G.Z h x O n d old) (E : Exa G.Z h x Cn)
    (L : (Jvm.Cond.lays Cn O n d).before G.a0 G.Z = true ∨ ((Jvm.Cond.laysFinal Cn O n d).before G.a0 G.Z = true ∧ own = O ∧ nm = "<init>")) (wi : (Jvm.Cond.instantiable Cn kk).before G.a0 G.Z = true) (hty : parseFieldDescriptor d = some ty) (hn : narrow ty v = v') (hf : fits ty v' = true) (hx : G.n0 ≤ x) (hp : pc + 3 = pc')
    (k : ∀ h', Wr h h' x (Jvm.RoadKit.slotOf G.Z O n d) v' → N G K rm Q h' a b pc' ls st) : N G K rm Q h a b pc ls (v :: .ref x :: st) := fun T locs X e N0 => by
  subst hp
  obtain ⟨T', h', X', e', W', s'⟩ := Jvm.RoadKit.putFN X C.hx C.hZ C.ow w Via.refl e F E (L.imp id fun q => ⟨q.1, q.2.1, C.name.trans q.2.2⟩) wi hty hn hf (g := mkF K.m pc ls (v :: .ref x :: st)) rfl rfl (hb C.by hd)
  obtain ⟨s₂, o, hs, r⟩ := k h' W' T' _ X' e' (Fr.snoc X' N0 hx)
  exact ⟨s₂, o, s' _ hs, r⟩
theorem N.getS (C : Cx G K own nm bytes maxL ret W) {O n d : String} {i : Nat} {v : Value} (hd : decode bytes pc = .ok (.getstatic i, 3)) (w : (Jvm.Cond.fieldLink own i O n d).before G.a0 G.Z = true) (F : Sta G.Z h O n d v) (hp : pc + 3 = pc') (k : N G K rm Q h a b pc' ls (v :: st)) : N G K rm Q h a b pc ls st := fun T locs X e N0 => by
  subst hp
  obtain ⟨T', X', e', s'⟩ := Jvm.RoadKit.getS X C.hx C.hZ (host := "") C.ow w Via.refl e F (g := mkF K.m pc ls st) rfl (hb C.by hd)
  obtain ⟨s₂, o, hs, r⟩ := k T' locs X' e' N0
  exact ⟨s₂, o, s' _ hs, r⟩
theorem N.newO (C : Cx G K own nm bytes maxL ret W) {Cn : String} {i n : Nat} (hd : decode bytes pc = .ok (.new i, 3)) (w : (Jvm.Cond.classLink own i Cn).before G.a0 G.Z = true) (wi : (Jvm.Cond.instantiable Cn n).before G.a0 G.Z = true) (wz : (Jvm.Cond.initialized Cn).before G.a0 G.Z = true) (hc : a + 1 ≤ rm.cells) (hl : b + n ≤ rm.slots) (hp : pc + 3 = pc')
    (k : ∀ (h' : Heap) (x : Addr), x = h.size → Ext h h' → Exa G.Z h' x Cn → (∀ {O f d : String} {ty : FieldType}, Laid G.Z G.a0 Cn O f d → parseFieldDescriptor d = some ty → Fld G.Z h' x O f d (defaultValue ty)) → N G K rm Q h' (a + 1) (b + n) pc' ls (.ref x :: st)) : N G K rm Q h a b pc ls st := fun T locs X e N0 => by
  subst hp
  obtain ⟨T', h', X', e', E', A', D', -, s'⟩ := Jvm.RoadKit.newO X C.hx C.hZ C.ow w wi wz e (g := mkF K.m pc ls st) rfl (hb C.by hd) hc hl
  obtain ⟨s₂, o, hs, r⟩ := k h' _ rfl E' A' D' T' locs X' e' N0
  exact ⟨s₂, o, s' _ hs, r⟩
theorem N.newP (C : Cx G K own nm bytes maxL ret W) {aty : ArrayType} {n : Int32} (cap : Nat) (hd : decode bytes pc = .ok (.newarray aty, 2)) (w : (Jvm.Cond.arrayClass (newarray.typeOf aty)).before G.a0 G.Z = true) (hn : 0 ≤ n.toInt) (hcap : n.toInt ≤ (cap : Int)) (hb8 : cap * 8 ≤ 536870912) (hc : a + 1 ≤ rm.cells) (hl : b + cap ≤ rm.slots) (hp : pc + 2 = pc')
    (k : ∀ (h' : Heap) (x : Addr), x = h.size → Ext h h' → Av G.Z h' x (newarray.typeOf aty) (List.replicate n.toInt.toNat (defaultValue (newarray.typeOf aty))) → N G K rm Q h' (a + 1) (b + cap) pc' ls (.ref x :: st)) : N G K rm Q h a b pc ls (.int n :: st) := fun T locs X e N0 => by
  subst hp
  have hneg : ¬ n < 0 := fun q => by
    have := Int32.lt_iff_toInt_lt.mp q
    have e0 : (0 : Int32).toInt = 0 := by decide
    omega
  obtain ⟨T', h', cA, X', e', E', A', s'⟩ := Jvm.RoadKit.newP X C.hx C.hZ w e (g := mkF K.m pc ls (.int n :: st)) rfl (hb C.by hd) rfl hneg (cap := cap) (by show n.toInt.toNat ≤ cap; omega) hb8 hc hl
  obtain ⟨s₂, o, hs, r⟩ := k h' _ rfl E' (Av.new A') T' locs X' e' N0
  exact ⟨s₂, o, s' _ hs, r⟩
theorem N.initO (C : Cx G K own nm bytes maxL ret W) {i : Nat} {x : Addr} (hd : decode bytes pc = .ok (.invokespecial i, 3)) (w1 : (Jvm.Cond.methodLink own i Lib.objectInit).before G.a0 G.Z = true) (w2 : (Jvm.Cond.instanceMethod Lib.objectInit).before G.a0 G.Z = true) (w3 : (Jvm.Cond.code Lib.objectInit ⟨#[0xb1]⟩ 1 none).before G.a0 G.Z = true) (hsz : ls.size = maxL) (hf : 1 ≤ rm.frames) (hl : (st.map fun v => v.category).sum + 12 ≤ rm.locals) (hp : pc + 3 = pc')
    (k : N G K rm Q h a b pc' ls st) : N G K rm Q h a b pc ls (.ref x :: st) := fun T locs X e N0 => by
  subst hp
  obtain ⟨T', X', e', s'⟩ := Jvm.RoadKit.initO X C.hx C.hZ C.ow w1 w2 w3 e (g := mkF K.m pc ls (.ref x :: st)) rfl (by rw [C.ml]; exact hsz) rfl (hb C.by hd) hf (W := (st.map fun v => v.category).sum) (by show 2 * 0 + _ ≤ _; omega) hl
  obtain ⟨s₂, o, hs, r⟩ := k T' locs X' e' N0
  exact ⟨s₂, o, s' _ hs, r⟩
theorem N.alen (C : Cx G K own nm bytes maxL ret W) {x : Addr} {ty : FieldType} {vs : List Value} {n : Int32} (hd : decode bytes pc = .ok (.arraylength, 1)) (A : Av G.Z h x ty vs) (hn : n.toInt = (vs.length : Nat)) (hp : pc + 1 = pc') (k : N G K rm Q h a b pc' ls (.int n :: st)) : N G K rm Q h a b pc ls (.ref x :: st) := by
  subst hp
  obtain ⟨c, A, rfl⟩ := A
  have hz : c.slots.size.toInt32 = n := by
    have h1 := n.toInt_lt
    apply Int32.toInt_inj.mp
    rw [hn]
    simp only [Array.length_toList] at hn ⊢
    show (Int32.ofNat c.slots.size).toInt = _
    rw [Int32.toInt_ofNat']
    have e32 : (Int32.size : Int) = 4294967296 := rfl
    exact Int.bmod_eq_of_le (by omega) (by omega)
  exact N.stX (fun T locs X e t ht => X.arraylength C.hx (by rw [e]; exact A.1) (State.isArrayOf_alike C.hZ.alike A.2.1) (g := mkF K.m pc ls (.ref x :: st)) rfl rfl (hb C.by hd) t (by rw [hz]; exact ht)) k

theorem N.iaload (C : Cx G K own nm bytes maxL ret W) {x : Addr} {vs : List Value} {j : Int32} {i : Nat} {v : Value} (hd : decode bytes pc = .ok (.iaload, 1)) (A : Av G.Z h x .int vs) (hj : j.toInt = (i : Nat)) (hv : vs[i]? = some v) (hp : pc + 1 = pc') (k : N G K rm Q h a b pc' ls (v :: st)) : N G K rm Q h a b pc ls (.int j :: .ref x :: st) := by
  subst hp
  obtain ⟨c, A, rfl⟩ := A
  have hi : i < c.slots.size := by have := (List.getElem?_eq_some_iff.mp hv).1; simpa using this
  have hv' : c.slots[j.toNatClampNeg]? = some v := by rw [(ix hj).2, ← Array.getElem?_toList]; exact hv
  exact N.stX (fun T locs X e t ht => X.iaload C.hx (by rw [e]; exact A.1) (State.isArrayOf_alike C.hZ.alike A.2.1) A.2.2 (ixin hj hi) hv' (g := mkF K.m pc ls (.int j :: .ref x :: st)) rfl rfl (hb C.by hd) t ht) k
theorem N.laload (C : Cx G K own nm bytes maxL ret W) {x : Addr} {vs : List Value} {j : Int32} {i : Nat} {v : Value} (hd : decode bytes pc = .ok (.laload, 1)) (A : Av G.Z h x .long vs) (hj : j.toInt = (i : Nat)) (hv : vs[i]? = some v) (hp : pc + 1 = pc') (k : N G K rm Q h a b pc' ls (v :: st)) : N G K rm Q h a b pc ls (.int j :: .ref x :: st) := by
  subst hp
  obtain ⟨c, A, rfl⟩ := A
  have hi : i < c.slots.size := by have := (List.getElem?_eq_some_iff.mp hv).1; simpa using this
  have hv' : c.slots[j.toNatClampNeg]? = some v := by rw [(ix hj).2, ← Array.getElem?_toList]; exact hv
  exact N.stX (fun T locs X e t ht => X.laload C.hx (by rw [e]; exact A.1) (State.isArrayOf_alike C.hZ.alike A.2.1) A.2.2 (ixin hj hi) hv' (g := mkF K.m pc ls (.int j :: .ref x :: st)) rfl rfl (hb C.by hd) t ht) k
theorem N.caload (C : Cx G K own nm bytes maxL ret W) {x : Addr} {vs : List Value} {j : Int32} {i : Nat} {v : Value} (hd : decode bytes pc = .ok (.caload, 1)) (A : Av G.Z h x .char vs) (hj : j.toInt = (i : Nat)) (hv : vs[i]? = some v) (hp : pc + 1 = pc') (k : N G K rm Q h a b pc' ls (v :: st)) : N G K rm Q h a b pc ls (.int j :: .ref x :: st) := by
  subst hp
  obtain ⟨c, A, rfl⟩ := A
  have hi : i < c.slots.size := by have := (List.getElem?_eq_some_iff.mp hv).1; simpa using this
  have hv' : c.slots[j.toNatClampNeg]? = some v := by rw [(ix hj).2, ← Array.getElem?_toList]; exact hv
  exact N.stX (fun T locs X e t ht => X.caload C.hx (by rw [e]; exact A.1) (State.isArrayOf_alike C.hZ.alike A.2.1) A.2.2 (ixin hj hi) hv' (g := mkF K.m pc ls (.int j :: .ref x :: st)) rfl rfl (hb C.by hd) t ht) k
theorem N.baload (C : Cx G K own nm bytes maxL ret W) {x : Addr} {vs : List Value} {j : Int32} {i : Nat} {v : Value} (hd : decode bytes pc = .ok (.baload, 1)) (A : Av G.Z h x .byte vs) (hj : j.toInt = (i : Nat)) (hv : vs[i]? = some v) (hp : pc + 1 = pc') (k : N G K rm Q h a b pc' ls (v :: st)) : N G K rm Q h a b pc ls (.int j :: .ref x :: st) := by
  subst hp
  obtain ⟨c, A, rfl⟩ := A
  have hi : i < c.slots.size := by have := (List.getElem?_eq_some_iff.mp hv).1; simpa using this
  have hv' : c.slots[j.toNatClampNeg]? = some v := by rw [(ix hj).2, ← Array.getElem?_toList]; exact hv
  exact N.stX (fun T locs X e t ht => X.baloadBytes C.hx (by rw [e]; exact A.1) (State.isArrayOf_alike C.hZ.alike A.2.1) A.2.2 (ixin hj hi) hv' (g := mkF K.m pc ls (.int j :: .ref x :: st)) rfl rfl (hb C.by hd) t ht) k
theorem N.zaload (C : Cx G K own nm bytes maxL ret W) {x : Addr} {vs : List Value} {j : Int32} {i : Nat} {v : Value} (hd : decode bytes pc = .ok (.baload, 1)) (A : Av G.Z h x .boolean vs) (hj : j.toInt = (i : Nat)) (hv : vs[i]? = some v) (hp : pc + 1 = pc') (k : N G K rm Q h a b pc' ls (v :: st)) : N G K rm Q h a b pc ls (.int j :: .ref x :: st) := by
  subst hp
  obtain ⟨c, A, rfl⟩ := A
  have hi : i < c.slots.size := by have := (List.getElem?_eq_some_iff.mp hv).1; simpa using this
  have hv' : c.slots[j.toNatClampNeg]? = some v := by rw [(ix hj).2, ← Array.getElem?_toList]; exact hv
  exact N.stX (fun T locs X e t ht => X.baloadBooleans C.hx (by rw [e]; exact A.1) (State.isArrayOf_alike C.hZ.alike A.2.1) A.2.2 (ixin hj hi) hv' (g := mkF K.m pc ls (.int j :: .ref x :: st)) rfl rfl (hb C.by hd) t ht) k
theorem N.iastore (C : Cx G K own nm bytes maxL ret W) {x : Addr} {vs : List Value} {j : Int32} {i : Nat} {v : Int32} (hd : decode bytes pc = .ok (.iastore, 1)) (A : Av G.Z h x .int vs) (hj : j.toInt = (i : Nat)) (hi : i < vs.length) (hx : G.n0 ≤ x) (hp : pc + 1 = pc') (k : ∀ h', Wr h h' x i (.int v) → Av G.Z h' x .int (vs.set i (.int v)) → N G K rm Q h' a b pc' ls st) : N G K rm Q h a b pc ls (.int v :: .int j :: .ref x :: st) := fun T locs X e N0 => by
  subst hp
  have A0 := A
  obtain ⟨c, A, rfl⟩ := A
  obtain ⟨T', h', X', e', W', s'⟩ := Jvm.RoadKit.stI X C.hx C.hZ e A (j := j) (ixin hj (by simpa using hi)) (g := mkF K.m pc ls (.int v :: .int j :: .ref x :: st)) rfl rfl (hb C.by hd)
  have F' := Fr.snoc X' N0 hx
  rw [(ix hj).2] at W'
  obtain ⟨s₂, o, hs, r⟩ := k h' W' (A0.same W') T' _ X' e' F'
  exact ⟨s₂, o, s' _ hs, r⟩
theorem N.lastore (C : Cx G K own nm bytes maxL ret W) {x : Addr} {vs : List Value} {j : Int32} {i : Nat} {v : Int64} (hd : decode bytes pc = .ok (.lastore, 1)) (A : Av G.Z h x .long vs) (hj : j.toInt = (i : Nat)) (hi : i < vs.length) (hx : G.n0 ≤ x) (hp : pc + 1 = pc') (k : ∀ h', Wr h h' x i (.long v) → Av G.Z h' x .long (vs.set i (.long v)) → N G K rm Q h' a b pc' ls st) : N G K rm Q h a b pc ls (.long v :: .int j :: .ref x :: st) := fun T locs X e N0 => by
  subst hp
  have A0 := A
  obtain ⟨c, A, rfl⟩ := A
  obtain ⟨T', h', X', e', W', s'⟩ := Jvm.RoadKit.stJ X C.hx C.hZ e A (j := j) (ixin hj (by simpa using hi)) (g := mkF K.m pc ls (.long v :: .int j :: .ref x :: st)) rfl rfl (hb C.by hd)
  have F' := Fr.snoc X' N0 hx
  rw [(ix hj).2] at W'
  obtain ⟨s₂, o, hs, r⟩ := k h' W' (A0.same W') T' _ X' e' F'
  exact ⟨s₂, o, s' _ hs, r⟩
theorem N.castore (C : Cx G K own nm bytes maxL ret W) {x : Addr} {vs : List Value} {j : Int32} {i : Nat} {v : Int32} (hd : decode bytes pc = .ok (.castore, 1)) (A : Av G.Z h x .char vs) (hj : j.toInt = (i : Nat)) (hi : i < vs.length) (hx : G.n0 ≤ x) (hp : pc + 1 = pc') (k : ∀ h', Wr h h' x i (.int (nar .char v)) → Av G.Z h' x .char (vs.set i (.int (nar .char v))) → N G K rm Q h' a b pc' ls st) : N G K rm Q h a b pc ls (.int v :: .int j :: .ref x :: st) := fun T locs X e N0 => by
  subst hp
  have A0 := A
  obtain ⟨c, A, rfl⟩ := A
  obtain ⟨T', h', X', e', W', s'⟩ := Jvm.RoadKit.stC X C.hx C.hZ e A (j := j) (ixin hj (by simpa using hi)) (g := mkF K.m pc ls (.int v :: .int j :: .ref x :: st)) rfl rfl (hb C.by hd)
  have F' := Fr.snoc X' N0 hx
  rw [(ix hj).2] at W'
  obtain ⟨s₂, o, hs, r⟩ := k h' W' (A0.same W') T' _ X' e' F'
  exact ⟨s₂, o, s' _ hs, r⟩
theorem N.bastore (C : Cx G K own nm bytes maxL ret W) {x : Addr} {vs : List Value} {j : Int32} {i : Nat} {v : Int32} (hd : decode bytes pc = .ok (.bastore, 1)) (A : Av G.Z h x .byte vs) (hj : j.toInt = (i : Nat)) (hi : i < vs.length) (hx : G.n0 ≤ x) (hp : pc + 1 = pc') (k : ∀ h', Wr h h' x i (.int (nar .byte v)) → Av G.Z h' x .byte (vs.set i (.int (nar .byte v))) → N G K rm Q h' a b pc' ls st) : N G K rm Q h a b pc ls (.int v :: .int j :: .ref x :: st) := fun T locs X e N0 => by
  subst hp
  have A0 := A
  obtain ⟨c, A, rfl⟩ := A
  obtain ⟨T', h', X', e', W', s'⟩ := Jvm.RoadKit.stB X C.hx C.hZ e A (j := j) (ixin hj (by simpa using hi)) (g := mkF K.m pc ls (.int v :: .int j :: .ref x :: st)) rfl rfl (hb C.by hd)
  have F' := Fr.snoc X' N0 hx
  rw [(ix hj).2] at W'
  obtain ⟨s₂, o, hs, r⟩ := k h' W' (A0.same W') T' _ X' e' F'
  exact ⟨s₂, o, s' _ hs, r⟩
theorem N.zastore (C : Cx G K own nm bytes maxL ret W) {x : Addr} {vs : List Value} {j : Int32} {i : Nat} {v : Int32} (hd : decode bytes pc = .ok (.bastore, 1)) (A : Av G.Z h x .boolean vs) (hj : j.toInt = (i : Nat)) (hi : i < vs.length) (hx : G.n0 ≤ x) (hp : pc + 1 = pc') (k : ∀ h', Wr h h' x i (.int (nar .boolean v)) → Av G.Z h' x .boolean (vs.set i (.int (nar .boolean v))) → N G K rm Q h' a b pc' ls st) : N G K rm Q h a b pc ls (.int v :: .int j :: .ref x :: st) := fun T locs X e N0 => by
  subst hp
  have A0 := A
  obtain ⟨c, A, rfl⟩ := A
  obtain ⟨T', h', X', e', W', s'⟩ := Jvm.RoadKit.stZ X C.hx C.hZ e A (j := j) (ixin hj (by simpa using hi)) (g := mkF K.m pc ls (.int v :: .int j :: .ref x :: st)) rfl rfl (hb C.by hd)
  have F' := Fr.snoc X' N0 hx
  rw [(ix hj).2] at W'
  obtain ⟨s₂, o, hs, r⟩ := k h' W' (A0.same W') T' _ X' e' F'
  exact ⟨s₂, o, s' _ hs, r⟩

/-! returns -/
theorem N.ret0 (C : Cx G K own nm bytes maxL ret W) (hr : ret = none) (hd : decode bytes pc = .ok (.return_, 1)) (ha : a ≤ rm.cells) (hb' : b ≤ rm.slots) (hq : Q none h) : N G K rm Q h a b pc ls [] := fun T locs X e N0 => by
  obtain ⟨fs, hr', hrun, hended, hW, hsame⟩ := X.leave (v := none) (fun _ => rfl) (hlocks := C.lk)
  exact ⟨_, _, X.returnOut C.hx (C.rt.trans hr) (hb C.by hd) hr', hrun, hended, _, _, rfl, ⟨by show Q none T.heap; rw [e]; exact hq, N0⟩, ⟨_, rfl⟩, hW, hsame.mono ha hb'⟩
theorem N.retV (C : Cx G K own nm bytes maxL ret W) {w : Value} {t : FieldType} {i : Instr} (hr : ret = some t) (hn : narrow t w = w)
    (hi : (i = .ireturn ∧ (t = .int ∨ t = .boolean ∨ t = .byte ∨ t = .char ∨ t = .short) ∧ ∃ z, w = .int z) ∨ (i = .lreturn ∧ t = .long ∧ ∃ z, w = .long z) ∨ (i = .dreturn ∧ t = .double ∧ ∃ z, w = .double z) ∨ (i = .freturn ∧ t = .float ∧ ∃ z, w = .float z) ∨ (i = .areturn ∧ t.isReference = true ∧ w.isRef = true))
    (hd : decode bytes pc = .ok (i, 1)) (ha : a ≤ rm.cells) (hb' : b ≤ rm.slots) (hq : Q (some w) h) : N G K rm Q h a b pc ls (w :: st) := fun T locs X e N0 => by
  obtain ⟨fs, hr', hrun, hended, hW, hsame⟩ := X.leave (v := some w) (fun q => by rw [C.rt, hr] at q; cases q) (hlocks := C.lk)
  exact ⟨_, _, retOut X C.hx (C.rt.trans hr) hn hi (hb C.by hd) hr', hrun, hended, _, _, rfl, ⟨by show Q (some w) T.heap; rw [e]; exact hq, N0⟩, ⟨_, rfl⟩, hW, hsame.mono ha hb'⟩
theorem N.retI (C : Cx G K own nm bytes maxL (some .int) W) {z : Int32} (hd : decode bytes pc = .ok (.ireturn, 1)) (ha : a ≤ rm.cells) (hb' : b ≤ rm.slots) (hq : Q (some (.int z)) h) : N G K rm Q h a b pc ls (.int z :: st) :=
  N.retV C rfl rfl (Or.inl ⟨rfl, Or.inl rfl, z, rfl⟩) hd ha hb' hq
theorem N.retL (C : Cx G K own nm bytes maxL (some .long) W) {z : Int64} (hd : decode bytes pc = .ok (.lreturn, 1)) (ha : a ≤ rm.cells) (hb' : b ≤ rm.slots) (hq : Q (some (.long z)) h) : N G K rm Q h a b pc ls (.long z :: st) :=
  N.retV C rfl rfl (Or.inr (Or.inl ⟨rfl, rfl, z, rfl⟩)) hd ha hb' hq
theorem N.retA (C : Cx G K own nm bytes maxL (some t) W) {w : Value} (ht : t.isReference = true) (hw : w.isRef = true) (hd : decode bytes pc = .ok (.areturn, 1)) (ha : a ≤ rm.cells) (hb' : b ≤ rm.slots) (hq : Q (some w) h) : N G K rm Q h a b pc ls (w :: st) :=
  N.retV C rfl (by rcases ref_cases hw with rfl | ⟨z, rfl⟩ <;> cases t <;> first | rfl | (cases ht)) (Or.inr (Or.inr (Or.inr (Or.inr ⟨rfl, ht, hw⟩)))) hd ha hb' hq
theorem N.retN (C : Cx G K own nm bytes maxL (some t) W) {z z' : Int32} (ht : t = .boolean ∨ t = .byte ∨ t = .char ∨ t = .short) (hz : nar t z = z') (hd : decode bytes pc = .ok (.ireturn, 1)) (ha : a ≤ rm.cells) (hb' : b ≤ rm.slots) (hq : Q (some (.int z')) h) : N G K rm Q h a b pc ls (.int z :: st) := fun T locs X e N0 => by
  subst hz
  obtain ⟨fs, hr', hrun, hended, hW, hsame⟩ := X.leave (v := some (.int (nar t z))) (fun q => by rw [C.rt] at q; cases q) (hlocks := C.lk)
  exact ⟨_, _, Jvm.RoadKit.retN X C.hx C.rt ht (hb C.by hd) hr', hrun, hended, _, _, rfl, ⟨by show Q (some (.int (nar t z))) T.heap; rw [e]; exact hq, N0⟩, ⟨_, rfl⟩, hW, hsame.mono ha hb'⟩
/-! calls by the callee's contract -/
section Calls
variable {y : MethodName} {bytes' : ByteArray} {maxL' : Nat} {ret' : Option FieldType} {rm' : Room} {as : Array Value} {R' : Option Value → Heap → Prop} {stk rest : List Value}
theorem N.callS (C : Cx G K own nm bytes maxL ret W) {i : Nat} (argsL : List Value) (hd : decode bytes pc = .ok (.invokestatic i, 3)) (w1 : (Jvm.Cond.methodLink own i y).before G.a0 G.Z = true) (w2 : (Jvm.Cond.static y).before G.a0 G.Z = true) (w3 : (Jvm.Cond.initialized y.cls).before G.a0 G.Z = true) (w4 : (Jvm.Cond.code y bytes' maxL' ret').before G.a0 G.Z = true)
    (hy : y.cls ≠ "java/lang/invoke/MethodHandle" ∧ y.cls ≠ "java/lang/invoke/VarHandle") (M : Con G y bytes' maxL' ret' rm' argsL.toArray h R') (hlen : ∀ sig, parseMethodDescriptor y.desc = some sig → argsL.length = sig.parameters.length) (hsz : ls.size = maxL)
    (hf : rm'.frames + 1 ≤ rm.frames) (hl : (rest.map fun v => v.category).sum + (maxL' + 11) + rm'.locals ≤ rm.locals) (hc : a + rm'.cells ≤ rm.cells) (hs : b + rm'.slots ≤ rm.slots) (hst : stk = argsL.reverse ++ rest) (hp : pc + 3 = pc')
    (k : ∀ v h', R' v h' → N G K rm Q h' (a + rm'.cells) (b + rm'.slots) pc' ls (v.toList ++ rest)) : N G K rm Q h a b pc ls stk := fun T locs X e N0 => by
  subst hp
  obtain ⟨v, _, ⟨T', L', k', n'⟩, -, X', ⟨Lc, ⟨hQ, N1⟩, l', y', z'⟩, s'⟩ := Jvm.LawKit.callS X C.hx (y := y) C.ow (mvT C.hZ w1) (mvT C.hZ w2) (mvT C.hZ w3) (mvT C.hZ w4) hy (backOf (W := (rest.map fun v => v.category).sum) (Q := fun v h L => R' v h ∧ Fr G.n0 L) (M []) C.hZ w4 w3 hf hl) (g := mkF K.m pc ls stk) rfl (by rw [C.ml]; exact hsz) (argsL := argsL) (rest := rest) hlen hst (by show 2 * 0 + _ ≤ _; omega) (hb C.by hd) (fun _ _ => ⟨rfl, e, hc, hs⟩)
  dsimp only [Pt.U, Pt.locs, Pt.cells, Pt.slots] at X' l' y' z' s' hQ
  subst l' y' z'
  obtain ⟨s₂, o, hs', r⟩ := k v T'.heap hQ T' _ X' rfl (N0.app N1)
  exact ⟨s₂, o, s' _ hs', r⟩
theorem N.callI (C : Cx G K own nm bytes maxL ret W) {i : Nat} (x : Addr) (argsL : List Value) (hd : decode bytes pc = .ok (.invokespecial i, 3)) (hy1 : y.name = "<init>") (w1 : (Jvm.Cond.methodLink own i y).before G.a0 G.Z = true) (w2 : (Jvm.Cond.instanceMethod y).before G.a0 G.Z = true) (w3 : (Jvm.Cond.initialized y.cls).before G.a0 G.Z = true) (w4 : (Jvm.Cond.code y bytes' maxL' none).before G.a0 G.Z = true)
    (hy : y.cls ≠ "java/lang/invoke/MethodHandle" ∧ y.cls ≠ "java/lang/invoke/VarHandle") (M : Con G y bytes' maxL' none rm' (.ref x :: argsL).toArray h R') (hlen : ∀ sig, parseMethodDescriptor y.desc = some sig → argsL.length = sig.parameters.length) (hsz : ls.size = maxL)
    (hf : rm'.frames + 1 ≤ rm.frames) (hl : (rest.map fun v => v.category).sum + (maxL' + 11) + rm'.locals ≤ rm.locals) (hc : a + rm'.cells ≤ rm.cells) (hs : b + rm'.slots ≤ rm.slots) (hst : stk = argsL.reverse ++ .ref x :: rest) (hp : pc + 3 = pc')
    (k : ∀ v h', R' v h' → N G K rm Q h' (a + rm'.cells) (b + rm'.slots) pc' ls (v.toList ++ rest)) : N G K rm Q h a b pc ls stk := fun T locs X e N0 => by
  subst hp
  obtain ⟨v, _, ⟨T', L', k', n'⟩, -, X', ⟨Lc, ⟨hQ, N1⟩, l', y', z'⟩, s'⟩ := X.specialBack C.hx (y := y) hy1 C.ow (mvT C.hZ w1) (mvT C.hZ w2) (mvT C.hZ w4) hy (backOf (W := (rest.map fun v => v.category).sum) (Q := fun v h L => R' v h ∧ Fr G.n0 L) (M []) C.hZ w4 w3 hf hl) (g := mkF K.m pc ls stk) rfl (by rw [C.ml]; exact hsz) (Steps.refl _) (a := x) (argsL := argsL) (rest := rest) hlen hst (by show 2 * 0 + _ ≤ _; omega) (hb C.by hd) (fun _ _ => ⟨rfl, e, hc, hs⟩)
  dsimp only [Pt.U, Pt.locs, Pt.cells, Pt.slots] at X' l' y' z' s' hQ
  subst l' y' z'
  obtain ⟨s₂, o, hs', r⟩ := k v T'.heap hQ T' _ X' rfl (N0.app N1)
  exact ⟨s₂, o, s'.trans hs', r⟩
/-- an instance method of a class that selects itself -/
theorem N.callV (C : Cx G K own nm bytes maxL ret W) {i : Nat} (x : Addr) (argsL : List Value) (hd : decode bytes pc = .ok (.invokevirtual i, 3)) (w1 : (Jvm.Cond.methodLink own i y).before G.a0 G.Z = true) (wd : (Jvm.Cond.declares y).before G.a0 G.Z = true) (ws : (Jvm.Cond.selects y.cls y y).before G.a0 G.Z = true) (w2 : (Jvm.Cond.instanceMethod y).before G.a0 G.Z = true) (w3 : (Jvm.Cond.initialized y.cls).before G.a0 G.Z = true) (w4 : (Jvm.Cond.code y bytes' maxL' ret').before G.a0 G.Z = true)
    (hy : y.cls ≠ "java/lang/invoke/MethodHandle" ∧ y.cls ≠ "java/lang/invoke/VarHandle") (E : Exa G.Z h x y.cls) (M : Con G y bytes' maxL' ret' rm' (.ref x :: argsL).toArray h R') (hlen : ∀ sig, parseMethodDescriptor y.desc = some sig → argsL.length = sig.parameters.length) (hsz : ls.size = maxL)
    (hf : rm'.frames + 1 ≤ rm.frames) (hl : (rest.map fun v => v.category).sum + (maxL' + 11) + rm'.locals ≤ rm.locals) (hc : a + rm'.cells ≤ rm.cells) (hs : b + rm'.slots ≤ rm.slots) (hst : stk = argsL.reverse ++ .ref x :: rest) (hp : pc + 3 = pc')
    (k : ∀ v h', R' v h' → N G K rm Q h' (a + rm'.cells) (b + rm'.slots) pc' ls (v.toList ++ rest)) : N G K rm Q h a b pc ls stk := fun T locs X e N0 => by
  subst hp
  obtain ⟨cq, kq, qa, qb, qc⟩ := isOf C.hZ e E
  obtain ⟨v, _, ⟨T', L', k', n'⟩, -, X', ⟨Lc, ⟨hQ, N1⟩, l', y', z'⟩, s'⟩ := X.virtualBack C.hx (y := y) (z := y) C.ow (mvT C.hZ w1) (mvT C.hZ wd) (notFace_of_selects (args := #[]) (mvT C.hZ ws)) (mvT C.hZ ws) (mvT C.hZ w2) hy (backOf (W := (rest.map fun v => v.category).sum) (Q := fun v h L => R' v h ∧ Fr G.n0 L) (M []) C.hZ w4 w3 hf hl) qa qc (g := mkF K.m pc ls stk) rfl (by rw [C.ml]; exact hsz) (Steps.refl _) (argsL := argsL) (rest := rest) hlen hst (by show 2 * 0 + _ ≤ _; omega) (hb C.by hd) (fun _ _ => ⟨rfl, e, hc, hs⟩)
  dsimp only [Pt.U, Pt.locs, Pt.cells, Pt.slots] at X' l' y' z' s' hQ
  subst l' y' z'
  obtain ⟨s₂, o, hs', r⟩ := k v T'.heap hQ T' _ X' rfl (N0.app N1)
  exact ⟨s₂, o, s'.trans hs', r⟩
/-- a private method -/
theorem N.callP (C : Cx G K own nm bytes maxL ret W) {i : Nat} (x : Addr) (argsL : List Value) (hd : decode bytes pc = .ok (.invokevirtual i, 3)) (w1 : (Jvm.Cond.methodLink own i y).before G.a0 G.Z = true) (wp : (Jvm.Cond.privateMethod y).before G.a0 G.Z = true) (ws : (Jvm.Cond.selects y.cls y y).before G.a0 G.Z = true) (w2 : (Jvm.Cond.instanceMethod y).before G.a0 G.Z = true) (w3 : (Jvm.Cond.initialized y.cls).before G.a0 G.Z = true) (w4 : (Jvm.Cond.code y bytes' maxL' ret').before G.a0 G.Z = true)
    (hy : y.cls ≠ "java/lang/invoke/MethodHandle" ∧ y.cls ≠ "java/lang/invoke/VarHandle") (E : Exa G.Z h x y.cls) (M : Con G y bytes' maxL' ret' rm' (.ref x :: argsL).toArray h R') (hlen : ∀ sig, parseMethodDescriptor y.desc = some sig → argsL.length = sig.parameters.length) (hsz : ls.size = maxL)
    (hf : rm'.frames + 1 ≤ rm.frames) (hl : (rest.map fun v => v.category).sum + (maxL' + 11) + rm'.locals ≤ rm.locals) (hc : a + rm'.cells ≤ rm.cells) (hs : b + rm'.slots ≤ rm.slots) (hst : stk = argsL.reverse ++ .ref x :: rest) (hp : pc + 3 = pc')
    (k : ∀ v h', R' v h' → N G K rm Q h' (a + rm'.cells) (b + rm'.slots) pc' ls (v.toList ++ rest)) : N G K rm Q h a b pc ls stk := fun T locs X e N0 => by
  subst hp
  obtain ⟨cq, qa, qb⟩ := E.cell
  obtain ⟨v, _, ⟨T', L', k', n'⟩, -, X', ⟨Lc, ⟨hQ, N1⟩, l', y', z'⟩, s'⟩ := X.privateBack C.hx (y := y) C.ow (mvT C.hZ w1) (mvT C.hZ w2) (mvT C.hZ ws) (Cond.privateMethod_at (mvP C.hZ wp (args := #[]))) (mvT C.hZ w4) hy (backOf (W := (rest.map fun v => v.category).sum) (Q := fun v h L => R' v h ∧ Fr G.n0 L) (M []) C.hZ w4 w3 hf hl) (g := mkF K.m pc ls stk) rfl (by rw [C.ml]; exact hsz) (Steps.refl _) (a := x) (by rw [e]; exact qa) qb (argsL := argsL) (rest := rest) hlen hst (by show 2 * 0 + _ ≤ _; omega) (hb C.by hd) (fun _ _ => ⟨rfl, e, hc, hs⟩)
  dsimp only [Pt.U, Pt.locs, Pt.cells, Pt.slots] at X' l' y' z' s' hQ
  subst l' y' z'
  obtain ⟨s₂, o, hs', r⟩ := k v T'.heap hQ T' _ X' rfl (N0.app N1)
  exact ⟨s₂, o, s'.trans hs', r⟩
end Calls
end Rules
end Jvm.OwnKit

namespace Jvm.Pilot.@@N@@
open Jvm Jvm.ClassFile Sem Op Lib Jvm.Free Jvm.Stand Jvm.LawKit Jvm.RoadKit Bundle Jvm.OwnKit Jvm.Pilot.@@N@@.Jvm.D
def own_B (ns : List Int32) (c : Int32) (a b : Nat) : Prop := a ≤ b ∧ b ≤ ns.length ∧ (∀ (i : Nat) (y : Int32), ns[i]? = some y → i < a → y.toInt < c.toInt) ∧ (∀ (i : Nat) (y : Int32), ns[i]? = some y → b ≤ i → c.toInt ≤ y.toInt)
def own_srt (ns : List Int32) : Prop := ∀ (i j : Nat) (x y : Int32), ns[i]? = some x → ns[j]? = some y → i ≤ j → x.toInt ≤ y.toInt
theorem own_mid {a b : Nat} {lo hi : Int32} (h1 : lo.toInt = (a : Nat)) (h2 : hi.toInt = (b : Nat)) (hb : b ≤ 6) (hab : a < b) : ((lo + hi).toUInt32 >>> ((1 : Int32) &&& 31).toUInt32).toInt32.toInt = (((a + b) / 2 : Nat) : Int) := by
  rw [c_iushr (lo + hi) 1 1 (by decide) (by decide)]
  have h3 := c_iadd lo hi
  have h4 := rng32 (lo + hi)
  have : (lo + hi).toInt = (a : Int) + b := by omega
  rw [this]
  omega
theorem own_get {ns : List Int32} {i : Nat} (h : i < ns.length) : ∃ y, ns[i]? = some y ∧ (ns.map Value.int)[i]? = some (.int y) := ⟨ns[i], List.getElem?_eq_getElem h, by rw [List.getElem?_map, List.getElem?_eq_getElem h]; rfl⟩
theorem own_up {ns : List Int32} {c y : Int32} {a b m : Nat} (hs : own_srt ns) (h : own_B ns c a b) (hm : ns[m]? = some y) (ha : a ≤ m) (hb : m < b) (hy : y.toInt < c.toInt) : own_B ns c (m + 1) b := by
  obtain ⟨h1, h2, h3, h4⟩ := h
  refine ⟨by omega, h2, fun i z hz hi => ?_, h4⟩
  have := hs i m z y hz hm (by omega)
  omega
theorem own_dn {ns : List Int32} {c y : Int32} {a b m : Nat} (hs : own_srt ns) (h : own_B ns c a b) (hm : ns[m]? = some y) (ha : a ≤ m) (hb : m < b) (hy : c.toInt ≤ y.toInt) : own_B ns c a m := by
  obtain ⟨h1, h2, h3, h4⟩ := h
  refine ⟨ha, by omega, h3, fun i z hz hi => ?_⟩
  have := hs m i y z hm hz (by omega)
  omega
theorem own_inc {m : Int32} {k : Nat} (h : m.toInt = (k : Nat)) (hk : k ≤ 6) : (m + (1 : Int32)).toInt = ((k + 1 : Nat) : Int) := by
  have h1 := c_iadd m 1
  have h3 := rng32 (m + 1)
  have e1 : (1 : Int32).toInt = 1 := by decide
  omega
theorem own_B0 (ns : List Int32) (c : Int32) : own_B ns c 0 ns.length := ⟨Nat.zero_le _, Nat.le_refl _, fun i y _ h => absurd h (Nat.not_lt_zero _), fun i y hy h => absurd (List.getElem?_eq_some_iff.mp hy).1 (Nat.not_lt.mpr h)⟩
theorem own_odd (lo : Int32) : (lo &&& (1 : Int32)).toInt = lo.toInt % 2 := by
  have := c_mask lo 1 1 (by decide) (by decide)
  simpa using this
theorem own_n3 (m : Int32) : (m &&& (3 : Int32)) = 0 ∨ (m &&& (3 : Int32)) = 1 ∨ (m &&& (3 : Int32)) = 2 ∨ (m &&& (3 : Int32)) = 3 := by
  have h := c_mask m 3 2 (by decide) (by decide)
  rcases (by omega : (m &&& (3 : Int32)).toInt = 0 ∨ (m &&& (3 : Int32)).toInt = 1 ∨ (m &&& (3 : Int32)).toInt = 2 ∨ (m &&& (3 : Int32)).toInt = 3) with q | q | q | q
  · exact Or.inl (Int32.toInt_inj.mp q)
  · exact Or.inr (Or.inl (Int32.toInt_inj.mp q))
  · exact Or.inr (Or.inr (Or.inl (Int32.toInt_inj.mp q)))
  · exact Or.inr (Or.inr (Or.inr (Int32.toInt_inj.mp q)))
theorem own_and {x m : Int32} {k : Int} (hk : m.toInt = k) (h0 : 0 ≤ k) : 0 ≤ (x &&& m).toInt64.toInt ∧ (x &&& m).toInt64.toInt ≤ k := by
  rw [c_i2l]
  have := c_and x m (by omega)
  omega
theorem own_w (x : Int64) : 0 ≤ (x &&& (2147483647 : Int64)).toInt ∧ (x &&& (2147483647 : Int64)).toInt ≤ 2147483647 := by
  have := c_maskL x 2147483647 31 (by decide) (by decide)
  omega
theorem own_addL {a b : Int64} (h1 : -1000000000000 ≤ a.toInt) (h2 : a.toInt ≤ 1000000000000) (h3 : 0 ≤ b.toInt) (h4 : b.toInt ≤ 1000000000000) : (a + b).toInt = a.toInt + b.toInt := by
  have := c_ladd a b
  have := rng64 (a + b)
  omega
theorem own_l2i {a : Int64} (h1 : -2147483648 ≤ a.toInt) (h2 : a.toInt ≤ 2147483647) : a.toInt32.toInt = a.toInt := by
  have := c_l2i a
  have := rng32 a.toInt32
  omega
theorem own_two : (2 : Int64).toInt = 2 := by decide
theorem own_zz {z : Int32} {ev : Int32} {P R : Prop} (h1 : (z = 1 ∧ P) ∨ (z = 0 ∧ R)) (h2 : ev = (1 : Int32) ∨ ev = (0 : Int32)) (a : ev = 1 → R → False) (b : ev = 0 → P → False) : z = ev := by
  rcases h1 with ⟨rfl, p⟩ | ⟨rfl, r⟩ <;> rcases h2 with rfl | rfl
  · rfl
  · exact (b rfl p).elim
  · exact (a rfl r).elim
  · rfl
theorem pn0 : plainName "quadrille/SpanContainsPinLaw" = true := by first | (simp [plainName, overriddenIn]; done) | decide +kernel
theorem pn2 : plainName "java/lang/Record" = true := by first | (simp [plainName, overriddenIn]; done) | decide +kernel
theorem pn1 : plainName "quadrille/CharacterClass$Span" = true := by first | (simp [plainName, overriddenIn]; done) | decide +kernel
theorem pn4 : plainName "quadrille/CharacterClass$Span" = true := by first | (simp [plainName, overriddenIn]; done) | decide +kernel
theorem pd___I_V : parseMethodDescriptor "([I)V" = some ⟨[(.array .int)], none⟩ := by decide +kernel
theorem pd__I_Z : parseMethodDescriptor "(I)Z" = some ⟨[.int], some .boolean⟩ := by decide +kernel
theorem pd___V : parseMethodDescriptor "()V" = some ⟨[], none⟩ := by decide +kernel

theorem d2_0 : decode jdk_30_method_1_code 0 = .ok (.aload_n 0, 1) := by decide +kernel
theorem d2_1 : decode jdk_30_method_1_code 1 = .ok (.invokespecial 1, 3) := by decide +kernel
theorem d2_4 : decode jdk_30_method_1_code 4 = .ok (.return_, 1) := by decide +kernel
theorem d1_0 : decode prog_23_method_1_code 0 = .ok (.aload_n 0, 1) := by decide +kernel
theorem d1_1 : decode prog_23_method_1_code 1 = .ok (.invokespecial 1, 3) := by decide +kernel
theorem d1_4 : decode prog_23_method_1_code 4 = .ok (.aload_n 0, 1) := by decide +kernel
theorem d1_5 : decode prog_23_method_1_code 5 = .ok (.aload_n 1, 1) := by decide +kernel
theorem d1_6 : decode prog_23_method_1_code 6 = .ok (.putfield 7, 3) := by decide +kernel
theorem d1_9 : decode prog_23_method_1_code 9 = .ok (.return_, 1) := by decide +kernel
theorem d4_0 : decode prog_23_method_3_code 0 = .ok (.iconst 0, 1) := by decide +kernel
theorem d4_1 : decode prog_23_method_3_code 1 = .ok (.istore_n 2, 1) := by decide +kernel
theorem d4_2 : decode prog_23_method_3_code 2 = .ok (.aload_n 0, 1) := by decide +kernel
theorem d4_3 : decode prog_23_method_3_code 3 = .ok (.getfield 7, 3) := by decide +kernel
theorem d4_6 : decode prog_23_method_3_code 6 = .ok (.arraylength, 1) := by decide +kernel
theorem d4_7 : decode prog_23_method_3_code 7 = .ok (.istore_n 3, 1) := by decide +kernel
theorem d4_8 : decode prog_23_method_3_code 8 = .ok (.iload_n 2, 1) := by decide +kernel
theorem d4_9 : decode prog_23_method_3_code 9 = .ok (.iload_n 3, 1) := by decide +kernel
theorem d4_10 : decode prog_23_method_3_code 10 = .ok (.if_icmp .ge 35, 3) := by decide +kernel
theorem d4_13 : decode prog_23_method_3_code 13 = .ok (.iload_n 2, 1) := by decide +kernel
theorem d4_14 : decode prog_23_method_3_code 14 = .ok (.iload_n 3, 1) := by decide +kernel
theorem d4_15 : decode prog_23_method_3_code 15 = .ok (.iadd, 1) := by decide +kernel
theorem d4_16 : decode prog_23_method_3_code 16 = .ok (.iconst 1, 1) := by decide +kernel
theorem d4_17 : decode prog_23_method_3_code 17 = .ok (.iushr, 1) := by decide +kernel
theorem d4_18 : decode prog_23_method_3_code 18 = .ok (.istore 4, 2) := by decide +kernel
theorem d4_20 : decode prog_23_method_3_code 20 = .ok (.aload_n 0, 1) := by decide +kernel
theorem d4_21 : decode prog_23_method_3_code 21 = .ok (.getfield 7, 3) := by decide +kernel
theorem d4_24 : decode prog_23_method_3_code 24 = .ok (.iload 4, 2) := by decide +kernel
theorem d4_26 : decode prog_23_method_3_code 26 = .ok (.iaload, 1) := by decide +kernel
theorem d4_27 : decode prog_23_method_3_code 27 = .ok (.iload_n 1, 1) := by decide +kernel
theorem d4_28 : decode prog_23_method_3_code 28 = .ok (.if_icmp .ge 11, 3) := by decide +kernel
theorem d4_31 : decode prog_23_method_3_code 31 = .ok (.iload 4, 2) := by decide +kernel
theorem d4_33 : decode prog_23_method_3_code 33 = .ok (.iconst 1, 1) := by decide +kernel
theorem d4_34 : decode prog_23_method_3_code 34 = .ok (.iadd, 1) := by decide +kernel
theorem d4_35 : decode prog_23_method_3_code 35 = .ok (.istore_n 2, 1) := by decide +kernel
theorem d4_36 : decode prog_23_method_3_code 36 = .ok (.goto 6, 3) := by decide +kernel
theorem d4_39 : decode prog_23_method_3_code 39 = .ok (.iload 4, 2) := by decide +kernel
theorem d4_41 : decode prog_23_method_3_code 41 = .ok (.istore_n 3, 1) := by decide +kernel
theorem d4_42 : decode prog_23_method_3_code 42 = .ok (.goto (-34), 3) := by decide +kernel
theorem d4_45 : decode prog_23_method_3_code 45 = .ok (.iload_n 2, 1) := by decide +kernel
theorem d4_46 : decode prog_23_method_3_code 46 = .ok (.aload_n 0, 1) := by decide +kernel
theorem d4_47 : decode prog_23_method_3_code 47 = .ok (.getfield 7, 3) := by decide +kernel
theorem d4_50 : decode prog_23_method_3_code 50 = .ok (.arraylength, 1) := by decide +kernel
theorem d4_51 : decode prog_23_method_3_code 51 = .ok (.if_icmp .ge 24, 3) := by decide +kernel
theorem d4_54 : decode prog_23_method_3_code 54 = .ok (.iload_n 2, 1) := by decide +kernel
theorem d4_55 : decode prog_23_method_3_code 55 = .ok (.iconst 1, 1) := by decide +kernel
theorem d4_56 : decode prog_23_method_3_code 56 = .ok (.iand, 1) := by decide +kernel
theorem d4_57 : decode prog_23_method_3_code 57 = .ok (.iconst 1, 1) := by decide +kernel
theorem d4_58 : decode prog_23_method_3_code 58 = .ok (.if_icmp .eq 13, 3) := by decide +kernel
theorem d4_61 : decode prog_23_method_3_code 61 = .ok (.aload_n 0, 1) := by decide +kernel
theorem d4_62 : decode prog_23_method_3_code 62 = .ok (.getfield 7, 3) := by decide +kernel
theorem d4_65 : decode prog_23_method_3_code 65 = .ok (.iload_n 2, 1) := by decide +kernel
theorem d4_66 : decode prog_23_method_3_code 66 = .ok (.iaload, 1) := by decide +kernel
theorem d4_67 : decode prog_23_method_3_code 67 = .ok (.iload_n 1, 1) := by decide +kernel
theorem d4_68 : decode prog_23_method_3_code 68 = .ok (.if_icmp .ne 7, 3) := by decide +kernel
theorem d4_71 : decode prog_23_method_3_code 71 = .ok (.iconst 1, 1) := by decide +kernel
theorem d4_72 : decode prog_23_method_3_code 72 = .ok (.goto 4, 3) := by decide +kernel
theorem d4_75 : decode prog_23_method_3_code 75 = .ok (.iconst 0, 1) := by decide +kernel
theorem d4_76 : decode prog_23_method_3_code 76 = .ok (.ireturn, 1) := by decide +kernel
theorem ef2 (m : MethodId) (x0 : Addr) : entryFrame m #[(.ref x0)] 1 = mkF m 0 #[.val (.ref x0)] [] := by first | (simp [entryFrame, mkF, argsToLocals, Value.category]; done) | rfl
theorem ef1 (m : MethodId) (x0 : Addr) (x1 : Addr) : entryFrame m #[(.ref x0), (.ref x1)] 2 = mkF m 0 #[.val (.ref x0), .val (.ref x1)] [] := by first | (simp [entryFrame, mkF, argsToLocals, Value.category]; done) | rfl
theorem ef4 (m : MethodId) (x0 : Addr) (x1 : Int32) : entryFrame m #[(.ref x0), (.int x1)] 5 = mkF m 0 #[.val (.ref x0), .val (.int x1), .unset, .unset, .unset] [] := by first | (simp [entryFrame, mkF, argsToLocals, Value.category]; done) | rfl
theorem ef0 (m : MethodId) (x0 : Int32) (x1 : Int32) (x2 : Int32) (x3 : Int32) (x4 : Int32) : entryFrame m #[(.int x0), (.int x1), (.int x2), (.int x3), (.int x4)] maxLocals = mkF m 0 #[.val (.int x0), .val (.int x1), .val (.int x2), .val (.int x3), .val (.int x4), .unset, .unset, .unset, .unset, .unset, .unset, .unset, .unset, .unset, .unset, .unset, .unset, .unset, .unset, .unset, .unset, .unset, .unset, .unset, .unset, .unset, .unset, .unset, .unset, .unset, .unset, .unset, .unset, .unset, .unset, .unset, .unset, .unset, .unset, .unset] [] := by first | (simp [entryFrame, mkF, argsToLocals, Value.category, maxLocals]; done) | rfl
def rm2 : Room := { frames := 1, cells := 0, slots := 0, locals := 12 }
def rm1 : Room := { frames := 2, cells := 0, slots := 0, locals := 24 }
def rm4 : Room := { frames := 0, cells := 0, slots := 0, locals := 0 }
set_option maxRecDepth 65536 in
set_option maxHeartbeats 40000000 in
theorem con2 (G : Gx) (hw : ∀ d ∈ tables_1, d.before G.a0 G.Z = true) (x : Addr) (h : Heap) :
    Con G (⟨"java/lang/Record", "<init>", "()V"⟩ : MethodName) jdk_30_method_1_code 1 none rm2 #[(.ref x)] h (fun v h' => v = none ∧ h = h') := by
  refine Con.of (W := tables_1) (plainFor_of_name pn2) hw (fun mm => ef2 mm x) (fun K C => ?_)
  have C : Cx G K "java/lang/Record" "<init>" jdk_30_method_1_code 1 none tables_1 := C
  generalize hQ : (fun v h' => v = none ∧ h = h' : Option Value → Heap → Prop) = Q
  refine N.aloadN C (pc' := 1) d2_0 rfl rfl rfl ?_
  refine N.initO C (pc' := 4) d2_1 (C.w (i := 14) rfl) (C.w (i := 15) rfl) (C.w (i := 16) rfl) rfl (by decide) (show 0 + 12 ≤ _ from by decide) rfl ?_
  exact N.ret0 C rfl d2_4 (by decide) (by decide) (by subst hQ; exact ⟨rfl, rfl⟩)
set_option maxRecDepth 65536 in
set_option maxHeartbeats 40000000 in
theorem con1 (G : Gx) (hw : ∀ d ∈ tables_1, d.before G.a0 G.Z = true) (x r : Addr) (h : Heap) (Z0 : G.n0 ≤ h.size) (g_x : G.n0 ≤ x) (E_x : Exa G.Z h x "quadrille/CharacterClass$Span") (F_x_ranges : Fld G.Z h x "quadrille/CharacterClass$Span" "ranges" "[I" .null) :
    Con G (⟨"quadrille/CharacterClass$Span", "<init>", "([I)V"⟩ : MethodName) prog_23_method_1_code 2 none rm1 #[(.ref x), (.ref r)] h (fun v h' => v = none ∧ Keep h h' [x] ∧ Fld G.Z h' x "quadrille/CharacterClass$Span" "ranges" "[I" (.ref r)) := by
  refine Con.of (W := tables_1) (plainFor_of_name pn1) hw (fun mm => ef1 mm x r) (fun K C => ?_)
  have C : Cx G K "quadrille/CharacterClass$Span" "<init>" prog_23_method_1_code 2 none tables_1 := C
  generalize hQ : (fun v h' => v = none ∧ Keep h h' [x] ∧ Fld G.Z h' x "quadrille/CharacterClass$Span" "ranges" "[I" (.ref r) : Option Value → Heap → Prop) = Q
  have K0 : Keep h h [x] := Keep.refl _ _
  refine N.aloadN C (pc' := 1) d1_0 rfl rfl rfl ?_
  refine N.callI C (pc' := 4) x [] d1_1 rfl (C.w (i := 9) rfl) (C.w (i := 10) rfl) (C.w (i := 12) rfl) (C.w (i := 13) rfl) (by decide) (con2 G hw x h) (lenOf pd___V rfl) rfl (by decide) (show 0 + (1 + 11) + _ ≤ _ from by decide) (by decide) (by decide) (rest := []) rfl rfl ?_
  rintro _ h1_1 ⟨rfl, rfl⟩
  show N G K rm1 Q h 0 0 4 #[.val (.ref x), .val (.ref r)] []
  refine N.aloadN C (pc' := 5) d1_4 rfl rfl rfl ?_
  refine N.aloadN C (pc' := 6) d1_5 rfl rfl rfl ?_
  refine N.putF C (pc' := 9) d1_6 (C.w (i := 17) rfl) F_x_ranges E_x (Or.inr ⟨(C.w (i := 18) rfl), rfl, rfl⟩) (C.w (i := 4) rfl) (ty := (.array .int)) (by decide) rfl rfl g_x rfl (fun h6_2 W6 => ?_)
  have Z0 : G.n0 ≤ _ := (Wr.size W6).symm ▸ Z0
  have F_x_ranges := F_x_ranges.same W6
  have E_x := E_x.wr W6
  have K0 := K0.wr W6 (Or.inl (List.mem_of_getElem? (i := 0) rfl))
  exact N.ret0 C rfl d1_9 (by decide) (by decide) (by subst hQ; exact ⟨rfl, K0, F_x_ranges⟩)
set_option maxRecDepth 65536 in
set_option maxHeartbeats 40000000 in
theorem con4 (G : Gx) (hw : ∀ d ∈ tables_1, d.before G.a0 G.Z = true) (x r : Addr) (c len : Int32) (ns : List Int32) (h : Heap) (hlen : len.toInt = (ns.length : Nat)) (h6 : ns.length ≤ 6) (hs : own_srt ns) (F_x_ranges : Fld G.Z h x "quadrille/CharacterClass$Span" "ranges" "[I" (.ref r)) (A_r : Av G.Z h r .int (ns.map .int)) :
    Con G (⟨"quadrille/CharacterClass$Span", "contains", "(I)Z"⟩ : MethodName) prog_23_method_3_code 5 (some .boolean) rm4 #[(.ref x), (.int c)] h (fun v h' => ∃ (z : Int32) (lo : Nat) (y : Int), v = some (.int z) ∧ h = h' ∧ own_B ns c lo lo ∧ (∀ (i : Nat) (u : Int32), ns[i]? = some u → lo = i → y = u.toInt) ∧ ((z = 1 ∧ lo < ns.length ∧ (lo % 2 = 1 ∨ y = c.toInt)) ∨ (z = 0 ∧ (ns.length ≤ lo ∨ (lo % 2 = 0 ∧ y ≠ c.toInt))))) := by
  refine Con.of (W := tables_1) (plainFor_of_name pn4) hw (fun mm => ef4 mm x c) (fun K C => ?_)
  have C : Cx G K "quadrille/CharacterClass$Span" "contains" prog_23_method_3_code 5 (some .boolean) tables_1 := C
  generalize hQ : (fun v h' => ∃ (z : Int32) (lo : Nat) (y : Int), v = some (.int z) ∧ h = h' ∧ own_B ns c lo lo ∧ (∀ (i : Nat) (u : Int32), ns[i]? = some u → lo = i → y = u.toInt) ∧ ((z = 1 ∧ lo < ns.length ∧ (lo % 2 = 1 ∨ y = c.toInt)) ∨ (z = 0 ∧ (ns.length ≤ lo ∨ (lo % 2 = 0 ∧ y ≠ c.toInt)))) : Option Value → Heap → Prop) = Q
  have len_r : len.toInt = (((ns.map Value.int).length : Nat) : Int) := by simpa using hlen
  refine N.iconst C (pc' := 1) (z := 0) d4_0 rfl rfl ?_
  refine N.istoreN C (pc' := 2) (ls' := #[.val (.ref x), .val (.int c), .val (.int (0 : Int32)), .unset, .unset]) d4_1 rfl rfl ?_
  refine N.aloadN C (pc' := 3) d4_2 rfl rfl rfl ?_
  refine N.getF C (pc' := 6) d4_3 (C.w (i := 17) rfl) F_x_ranges rfl ?_
  refine N.alen C (pc' := 7) (n := len) d4_6 A_r len_r rfl ?_
  refine N.istoreN C (pc' := 8) (ls' := #[.val (.ref x), .val (.int c), .val (.int (0 : Int32)), .val (.int len), .unset]) d4_7 rfl rfl ?_
  have loop : ∀ (k : Nat) (lo hi md : Int32) (a b : Nat), lo.toInt = (a : Nat) → hi.toInt = (b : Nat) → own_B ns c a b → b - a ≤ k → N G K rm4 Q h 0 0 8 #[.val (.ref x), .val (.int c), .val (.int lo), .val (.int hi), .val (.int md)] [] := by
    intro k
    induction k using Nat.strongRecOn with
    | _ k ih =>
    intro lo hi md a b hlo hhi hB hk
    refine N.iloadN C (pc' := 9) d4_8 rfl rfl ?_
    refine N.iloadN C (pc' := 10) d4_9 rfl rfl ?_
    refine N.icmp C (pt := 45) (pf := 13) d4_10 rfl rfl (fun (hc10 : hi.toInt ≤ lo.toInt) => ?_) (fun (hc10 : lo.toInt < hi.toInt) => ?_)
    · have hab : a = b := by have := hB.1; omega
      subst hab
      have hpar := own_odd lo
      refine N.iloadN C (pc' := 46) d4_45 rfl rfl ?_
      refine N.aloadN C (pc' := 47) d4_46 rfl rfl rfl ?_
      refine N.getF C (pc' := 50) d4_47 (C.w (i := 17) rfl) F_x_ranges rfl ?_
      refine N.alen C (pc' := 51) (n := len) d4_50 A_r len_r rfl ?_
      refine N.icmp C (pt := 75) (pf := 54) d4_51 rfl rfl (fun (hc51 : len.toInt ≤ lo.toInt) => ?_) (fun (hc51 : lo.toInt < len.toInt) => ?_)
      · refine N.iconst C (pc' := 76) (z := 0) d4_75 rfl rfl ?_
        exact N.retN C (by simp) (z' := (0 : Int32)) rfl d4_76 (by decide) (by decide) (by subst hQ; exact ⟨0, a, 0, rfl, rfl, hB, fun i u hu e => by have := (List.getElem?_eq_some_iff.mp hu).1; omega, Or.inr ⟨rfl, Or.inl (by omega)⟩⟩)
      · refine N.iloadN C (pc' := 55) d4_54 rfl rfl ?_
        refine N.iconst C (pc' := 56) (z := 1) d4_55 rfl rfl ?_
        refine N.iand C (pc' := 57) d4_56 rfl ?_
        refine N.iconst C (pc' := 58) (z := 1) d4_57 rfl rfl ?_
        refine N.icmp C (pt := 71) (pf := 61) d4_58 rfl rfl (fun (hc58 : (lo &&& (1 : Int32)) = (1 : Int32)) => ?_) (fun (hc58 : ¬ (lo &&& (1 : Int32)) = (1 : Int32)) => ?_)
        · have hi58 : (lo &&& (1 : Int32)).toInt = 1 := eqI hc58
          refine N.iconst C (pc' := 72) (z := 1) d4_71 rfl rfl ?_
          refine N.goto C (pc' := 76) d4_72 rfl ?_
          exact N.retN C (by simp) (z' := (1 : Int32)) rfl d4_76 (by decide) (by decide) (by subst hQ; obtain ⟨u, hu1, hu2⟩ := own_get (ns := ns) (i := a) (by omega); exact ⟨1, a, u.toInt, rfl, rfl, hB, fun i u' hu e => by subst e; rw [hu1] at hu; cases hu; rfl, Or.inl ⟨rfl, by omega, Or.inl (by have e1 : (1 : Int32).toInt = 1 := (by decide); omega)⟩⟩)
        · have hi58 : ¬ (lo &&& (1 : Int32)).toInt = 1 := neI hc58
          refine N.aloadN C (pc' := 62) d4_61 rfl rfl rfl ?_
          refine N.getF C (pc' := 65) d4_62 (C.w (i := 17) rfl) F_x_ranges rfl ?_
          refine N.iloadN C (pc' := 66) d4_65 rfl rfl ?_
          obtain ⟨u, hu1, hu2⟩ := own_get (ns := ns) (i := a) (by omega)
          refine N.iaload C (pc' := 67) (i := a) (v := (.int u)) d4_66 A_r hlo hu2 rfl ?_
          refine N.iloadN C (pc' := 68) d4_67 rfl rfl ?_
          refine N.icmp C (pt := 75) (pf := 71) d4_68 rfl rfl (fun (hc68 : ¬ u = c) => ?_) (fun (hc68 : u = c) => ?_)
          · have hi68 : ¬ u.toInt = c.toInt := neI hc68
            refine N.iconst C (pc' := 76) (z := 0) d4_75 rfl rfl ?_
            exact N.retN C (by simp) (z' := (0 : Int32)) rfl d4_76 (by decide) (by decide) (by subst hQ; exact ⟨0, a, u.toInt, rfl, rfl, hB, fun i u' hu e => by subst e; rw [hu1] at hu; cases hu; rfl, Or.inr ⟨rfl, Or.inr ⟨by have e1 : (1 : Int32).toInt = 1 := (by decide); omega, hi68⟩⟩⟩)
          · have hi68 : u.toInt = c.toInt := eqI hc68
            refine N.iconst C (pc' := 72) (z := 1) d4_71 rfl rfl ?_
            refine N.goto C (pc' := 76) d4_72 rfl ?_
            exact N.retN C (by simp) (z' := (1 : Int32)) rfl d4_76 (by decide) (by decide) (by subst hQ; exact ⟨1, a, u.toInt, rfl, rfl, hB, fun i u' hu e => by subst e; rw [hu1] at hu; cases hu; rfl, Or.inl ⟨rfl, by omega, Or.inr hi68⟩⟩)
    · refine N.iloadN C (pc' := 14) d4_13 rfl rfl ?_
      refine N.iloadN C (pc' := 15) d4_14 rfl rfl ?_
      refine N.iadd C (pc' := 16) d4_15 rfl ?_
      refine N.iconst C (pc' := 17) (z := 1) d4_16 rfl rfl ?_
      refine N.iushr C (pc' := 18) d4_17 rfl ?_
      have hm := own_mid hlo hhi (by have := hB.2.1; omega) (by omega : a < b)
      obtain ⟨y, hy1, hy2⟩ := own_get (ns := ns) (i := (a + b) / 2) (by have := hB.2.1; omega)
      generalize hd_m : (((lo + hi).toUInt32 >>> ((1 : Int32) &&& 31).toUInt32).toInt32) = m at *
      refine N.istore C (pc' := 20) (ls' := #[.val (.ref x), .val (.int c), .val (.int lo), .val (.int hi), .val (.int m)]) d4_18 rfl rfl ?_
      refine N.aloadN C (pc' := 21) d4_20 rfl rfl rfl ?_
      refine N.getF C (pc' := 24) d4_21 (C.w (i := 17) rfl) F_x_ranges rfl ?_
      refine N.iload C (pc' := 26) d4_24 rfl rfl ?_
      refine N.iaload C (pc' := 27) (i := ((a + b) / 2)) (v := (.int y)) d4_26 A_r hm hy2 rfl ?_
      refine N.iloadN C (pc' := 28) d4_27 rfl rfl ?_
      refine N.icmp C (pt := 39) (pf := 31) d4_28 rfl rfl (fun (hc28 : c.toInt ≤ y.toInt) => ?_) (fun (hc28 : y.toInt < c.toInt) => ?_)
      · refine N.iload C (pc' := 41) d4_39 rfl rfl ?_
        refine N.istoreN C (pc' := 42) (ls' := #[.val (.ref x), .val (.int c), .val (.int lo), .val (.int m), .val (.int m)]) d4_41 rfl rfl ?_
        refine N.goto C (pc' := 8) d4_42 rfl ?_
        exact ih _ (by omega) _ _ _ _ _ hlo hm (own_dn hs hB hy1 (by omega) (by omega) hc28) (Nat.le_refl _)
      · refine N.iload C (pc' := 33) d4_31 rfl rfl ?_
        refine N.iconst C (pc' := 34) (z := 1) d4_33 rfl rfl ?_
        refine N.iadd C (pc' := 35) d4_34 rfl ?_
        refine N.istoreN C (pc' := 36) (ls' := #[.val (.ref x), .val (.int c), .val (.int (m + (1 : Int32))), .val (.int hi), .val (.int m)]) d4_35 rfl rfl ?_
        refine N.goto C (pc' := 42) d4_36 rfl ?_
        refine N.goto C (pc' := 8) d4_42 rfl ?_
        exact ih _ (by omega) _ _ _ _ _ (own_inc hm (by have := hB.2.1; omega)) hhi (own_up hs hB hy1 (by omega) (by omega) hc28) (Nat.le_refl _)
  have e0z : (0 : Int32).toInt = 0 := by decide
  obtain ⟨a, hlo⟩ : ∃ a : Nat, (0 : Int32).toInt = (a : Nat) := ⟨0, by decide⟩
  obtain ⟨b, hhi⟩ : ∃ b : Nat, len.toInt = (b : Nat) := ⟨_, len_r⟩
  have hB : own_B ns c a b := by
    have e1 : a = 0 := by have e0 : (0 : Int32).toInt = 0 := (by decide); omega
    have e2 : b = ns.length := by simp at len_r; omega
    rw [e1, e2]; exact own_B0 ns c
  refine N.iloadN C (pc' := 9) d4_8 rfl rfl ?_
  refine N.iloadN C (pc' := 10) d4_9 rfl rfl ?_
  refine N.icmp C (pt := 45) (pf := 13) d4_10 rfl rfl (fun (hc10 : len.toInt ≤ 0) => ?_) (fun (hc10 : 0 < len.toInt) => ?_)
  · have hab : a = b := by have := hB.1; omega
    subst hab
    have hpar := own_odd (0 : Int32)
    refine N.iloadN C (pc' := 46) d4_45 rfl rfl ?_
    refine N.aloadN C (pc' := 47) d4_46 rfl rfl rfl ?_
    refine N.getF C (pc' := 50) d4_47 (C.w (i := 17) rfl) F_x_ranges rfl ?_
    refine N.alen C (pc' := 51) (n := len) d4_50 A_r len_r rfl ?_
    refine N.icmp C (pt := 75) (pf := 54) d4_51 rfl rfl (fun (hc51 : len.toInt ≤ 0) => ?_) (fun (hc51 : 0 < len.toInt) => ?_)
    · refine N.iconst C (pc' := 76) (z := 0) d4_75 rfl rfl ?_
      exact N.retN C (by simp) (z' := (0 : Int32)) rfl d4_76 (by decide) (by decide) (by subst hQ; exact ⟨0, a, 0, rfl, rfl, hB, fun i u hu e => by have := (List.getElem?_eq_some_iff.mp hu).1; omega, Or.inr ⟨rfl, Or.inl (by omega)⟩⟩)
    · refine N.iloadN C (pc' := 55) d4_54 rfl rfl ?_
      refine N.iconst C (pc' := 56) (z := 1) d4_55 rfl rfl ?_
      refine N.iand C (pc' := 57) d4_56 rfl ?_
      show N G K rm4 Q h 0 0 57 #[.val (.ref x), .val (.int c), .val (.int (0 : Int32)), .val (.int len), .unset] [(.int (0 : Int32))]
      refine N.iconst C (pc' := 58) (z := 1) d4_57 rfl rfl ?_
      refine N.icmp C (pt := 71) (pf := 61) d4_58 rfl rfl (fun (q : (0 : Int32) = (1 : Int32)) => absurd q (by decide)) (fun _ => ?_)
      refine N.aloadN C (pc' := 62) d4_61 rfl rfl rfl ?_
      refine N.getF C (pc' := 65) d4_62 (C.w (i := 17) rfl) F_x_ranges rfl ?_
      refine N.iloadN C (pc' := 66) d4_65 rfl rfl ?_
      obtain ⟨u, hu1, hu2⟩ := own_get (ns := ns) (i := a) (by omega)
      refine N.iaload C (pc' := 67) (i := a) (v := (.int u)) d4_66 A_r hlo hu2 rfl ?_
      refine N.iloadN C (pc' := 68) d4_67 rfl rfl ?_
      refine N.icmp C (pt := 75) (pf := 71) d4_68 rfl rfl (fun (hc68 : ¬ u = c) => ?_) (fun (hc68 : u = c) => ?_)
      · have hi68 : ¬ u.toInt = c.toInt := neI hc68
        refine N.iconst C (pc' := 76) (z := 0) d4_75 rfl rfl ?_
        exact N.retN C (by simp) (z' := (0 : Int32)) rfl d4_76 (by decide) (by decide) (by subst hQ; exact ⟨0, a, u.toInt, rfl, rfl, hB, fun i u' hu e => by subst e; rw [hu1] at hu; cases hu; rfl, Or.inr ⟨rfl, Or.inr ⟨by have e1 : (1 : Int32).toInt = 1 := (by decide); omega, hi68⟩⟩⟩)
      · have hi68 : u.toInt = c.toInt := eqI hc68
        refine N.iconst C (pc' := 72) (z := 1) d4_71 rfl rfl ?_
        refine N.goto C (pc' := 76) d4_72 rfl ?_
        exact N.retN C (by simp) (z' := (1 : Int32)) rfl d4_76 (by decide) (by decide) (by subst hQ; exact ⟨1, a, u.toInt, rfl, rfl, hB, fun i u' hu e => by subst e; rw [hu1] at hu; cases hu; rfl, Or.inl ⟨rfl, by omega, Or.inr hi68⟩⟩)
  · refine N.iloadN C (pc' := 14) d4_13 rfl rfl ?_
    refine N.iloadN C (pc' := 15) d4_14 rfl rfl ?_
    refine N.iadd C (pc' := 16) d4_15 rfl ?_
    refine N.iconst C (pc' := 17) (z := 1) d4_16 rfl rfl ?_
    refine N.iushr C (pc' := 18) d4_17 rfl ?_
    have hm := own_mid hlo hhi (by have := hB.2.1; omega) (by omega : a < b)
    obtain ⟨y, hy1, hy2⟩ := own_get (ns := ns) (i := (a + b) / 2) (by have := hB.2.1; omega)
    generalize hd_m : ((((0 : Int32) + len).toUInt32 >>> ((1 : Int32) &&& 31).toUInt32).toInt32) = m at *
    refine N.istore C (pc' := 20) (ls' := #[.val (.ref x), .val (.int c), .val (.int (0 : Int32)), .val (.int len), .val (.int m)]) d4_18 rfl rfl ?_
    refine N.aloadN C (pc' := 21) d4_20 rfl rfl rfl ?_
    refine N.getF C (pc' := 24) d4_21 (C.w (i := 17) rfl) F_x_ranges rfl ?_
    refine N.iload C (pc' := 26) d4_24 rfl rfl ?_
    refine N.iaload C (pc' := 27) (i := ((a + b) / 2)) (v := (.int y)) d4_26 A_r hm hy2 rfl ?_
    refine N.iloadN C (pc' := 28) d4_27 rfl rfl ?_
    refine N.icmp C (pt := 39) (pf := 31) d4_28 rfl rfl (fun (hc28 : c.toInt ≤ y.toInt) => ?_) (fun (hc28 : y.toInt < c.toInt) => ?_)
    · refine N.iload C (pc' := 41) d4_39 rfl rfl ?_
      refine N.istoreN C (pc' := 42) (ls' := #[.val (.ref x), .val (.int c), .val (.int (0 : Int32)), .val (.int m), .val (.int m)]) d4_41 rfl rfl ?_
      refine N.goto C (pc' := 8) d4_42 rfl ?_
      exact loop _ _ _ _ _ _ hlo hm (own_dn hs hB hy1 (by omega) (by omega) hc28) (Nat.le_refl _)
    · refine N.iload C (pc' := 33) d4_31 rfl rfl ?_
      refine N.iconst C (pc' := 34) (z := 1) d4_33 rfl rfl ?_
      refine N.iadd C (pc' := 35) d4_34 rfl ?_
      refine N.istoreN C (pc' := 36) (ls' := #[.val (.ref x), .val (.int c), .val (.int (m + (1 : Int32))), .val (.int len), .val (.int m)]) d4_35 rfl rfl ?_
      refine N.goto C (pc' := 42) d4_36 rfl ?_
      refine N.goto C (pc' := 8) d4_42 rfl ?_
      exact loop _ _ _ _ _ _ (own_inc hm (by have := hB.2.1; omega)) hhi (own_up hs hB hy1 (by omega) (by omega) hc28) (Nat.le_refl _)
set_option maxRecDepth 65536 in
set_option maxHeartbeats 40000000 in
theorem con0 (G : Gx) (hw : ∀ d ∈ tables_1, d.before G.a0 G.Z = true) (start len gap craw mode : Int32) (h : Heap) (Z0 : G.n0 ≤ h.size) :
    Con G x code maxLocals ret room_1 #[(.int start), (.int len), (.int gap), (.int craw), (.int mode)] h (fun v _ => v = some (.int 1)) := by
  refine Con.of (W := tables_1) (plainFor_of_name pn0) hw (fun mm => ef0 mm start len gap craw mode) (fun K C => ?_)
  have C : Cx G K "quadrille/SpanContainsPinLaw" "law" code maxLocals ret tables_1 := C
  generalize hQ : (fun v _ => v = some (.int 1) : Option Value → Heap → Prop) = Q
  refine N.iload C (pc' := 2) at_0 rfl rfl ?_
  refine N.iconst C (pc' := 3) (z := 3) at_2 rfl rfl ?_
  refine N.iand C (pc' := 4) at_3 rfl ?_
  rcases own_n3 mode with e | e | e | e
  · rw [e]
    refine N.istore C (pc' := 6) (ls' := #[.val (.int start), .val (.int len), .val (.int gap), .val (.int craw), .val (.int mode), .val (.int (0 : Int32)), .unset, .unset, .unset, .unset, .unset, .unset, .unset, .unset, .unset, .unset, .unset, .unset, .unset, .unset, .unset, .unset, .unset, .unset, .unset, .unset, .unset, .unset, .unset, .unset, .unset, .unset, .unset, .unset, .unset, .unset, .unset, .unset, .unset, .unset]) at_4 rfl rfl ?_
    suffices j42 : ∀ (wv : Int32) (l0 : Int64), 0 ≤ l0.toInt ∧ l0.toInt ≤ 2147483647 → N G K room_1 Q h 0 0 42 #[.val (.int start), .val (.int len), .val (.int gap), .val (.int craw), .val (.int mode), .val (.int (0 : Int32)), .val (.int wv), .val (.long l0), .second, .unset, .unset, .unset, .unset, .unset, .unset, .unset, .unset, .unset, .unset, .unset, .unset, .unset, .unset, .unset, .unset, .unset, .unset, .unset, .unset, .unset, .unset, .unset, .unset, .unset, .unset, .unset, .unset, .unset, .unset, .unset] [] by
      refine N.iload C (pc' := 8) at_6 rfl rfl ?_
      refine N.iconst C (pc' := 9) (z := 4) at_8 rfl rfl ?_
      refine N.iand C (pc' := 10) at_9 rfl ?_
      refine N.ifc C (pt := 17) (pf := 13) at_10 rfl rfl (fun (hc10 : (mode &&& (4 : Int32)) = (0 : Int32)) => ?_) (fun (hc10 : ¬ (mode &&& (4 : Int32)) = (0 : Int32)) => ?_)
      · have hi10 : (mode &&& (4 : Int32)).toInt = 0 := eqI hc10
        refine N.iconst C (pc' := 18) (z := 0) at_17 rfl rfl ?_
        refine N.istore C (pc' := 20) (ls' := #[.val (.int start), .val (.int len), .val (.int gap), .val (.int craw), .val (.int mode), .val (.int (0 : Int32)), .val (.int (0 : Int32)), .unset, .unset, .unset, .unset, .unset, .unset, .unset, .unset, .unset, .unset, .unset, .unset, .unset, .unset, .unset, .unset, .unset, .unset, .unset, .unset, .unset, .unset, .unset, .unset, .unset, .unset, .unset, .unset, .unset, .unset, .unset, .unset, .unset]) at_18 rfl rfl ?_
        refine N.iload C (pc' := 22) at_20 rfl rfl ?_
        refine N.ifc C (pt := 34) (pf := 25) at_22 rfl rfl (fun _ => ?_) (fun (q : ¬ (0 : Int32) = (0 : Int32)) => absurd q (by decide))
        refine N.iloadN C (pc' := 35) at_34 rfl rfl ?_
        refine N.sipush C (pc' := 38) (z := 1023) at_35 rfl rfl ?_
        refine N.iand C (pc' := 39) at_38 rfl ?_
        refine N.i2l C (pc' := 40) at_39 rfl ?_
        refine N.lstore C (pc' := 42) (ls' := #[.val (.int start), .val (.int len), .val (.int gap), .val (.int craw), .val (.int mode), .val (.int (0 : Int32)), .val (.int (0 : Int32)), .val (.long ((len &&& (1023 : Int32)).toInt64)), .second, .unset, .unset, .unset, .unset, .unset, .unset, .unset, .unset, .unset, .unset, .unset, .unset, .unset, .unset, .unset, .unset, .unset, .unset, .unset, .unset, .unset, .unset, .unset, .unset, .unset, .unset, .unset, .unset, .unset, .unset, .unset]) at_40 rfl rfl ?_
        exact j42 _ _ (by have := own_and (x := len) (m := 1023) (k := 1023) (by decide) (by decide); omega)
      · have hi10 : ¬ (mode &&& (4 : Int32)).toInt = 0 := neI hc10
        refine N.iconst C (pc' := 14) (z := 1) at_13 rfl rfl ?_
        refine N.goto C (pc' := 18) at_14 rfl ?_
        refine N.istore C (pc' := 20) (ls' := #[.val (.int start), .val (.int len), .val (.int gap), .val (.int craw), .val (.int mode), .val (.int (0 : Int32)), .val (.int (1 : Int32)), .unset, .unset, .unset, .unset, .unset, .unset, .unset, .unset, .unset, .unset, .unset, .unset, .unset, .unset, .unset, .unset, .unset, .unset, .unset, .unset, .unset, .unset, .unset, .unset, .unset, .unset, .unset, .unset, .unset, .unset, .unset, .unset, .unset]) at_18 rfl rfl ?_
        refine N.iload C (pc' := 22) at_20 rfl rfl ?_
        refine N.ifc C (pt := 34) (pf := 25) at_22 rfl rfl (fun (q : (1 : Int32) = (0 : Int32)) => absurd q (by decide)) (fun _ => ?_)
        refine N.iloadN C (pc' := 26) at_25 rfl rfl ?_
        refine N.i2l C (pc' := 27) at_26 rfl ?_
        refine N.ldcL C (pc' := 30) (v := 2147483647) at_27 (C.w (i := 24) rfl) rfl ?_
        refine N.land C (pc' := 31) at_30 rfl ?_
        refine N.goto C (pc' := 40) at_31 rfl ?_
        refine N.lstore C (pc' := 42) (ls' := #[.val (.int start), .val (.int len), .val (.int gap), .val (.int craw), .val (.int mode), .val (.int (0 : Int32)), .val (.int (1 : Int32)), .val (.long ((len.toInt64) &&& (2147483647 : Int64))), .second, .unset, .unset, .unset, .unset, .unset, .unset, .unset, .unset, .unset, .unset, .unset, .unset, .unset, .unset, .unset, .unset, .unset, .unset, .unset, .unset, .unset, .unset, .unset, .unset, .unset, .unset, .unset, .unset, .unset, .unset, .unset]) at_40 rfl rfl ?_
        exact j42 _ _ (own_w _)
    intro wv l0 h_l0
    refine N.iloadN C (pc' := 43) at_42 rfl rfl ?_
    refine N.bipush C (pc' := 45) (z := 10) at_43 rfl rfl ?_
    refine N.iushr C (pc' := 46) at_45 rfl ?_
    refine N.sipush C (pc' := 49) (z := 1023) at_46 rfl rfl ?_
    refine N.iand C (pc' := 50) at_49 rfl ?_
    refine N.i2l C (pc' := 51) at_50 rfl ?_
    have h_l1 : 0 ≤ ((((len.toUInt32 >>> ((10 : Int32) &&& 31).toUInt32).toInt32) &&& (1023 : Int32)).toInt64).toInt ∧ ((((len.toUInt32 >>> ((10 : Int32) &&& 31).toUInt32).toInt32) &&& (1023 : Int32)).toInt64).toInt ≤ 1023 := own_and (by decide) (by decide)
    generalize hd_l1 : ((((len.toUInt32 >>> ((10 : Int32) &&& 31).toUInt32).toInt32) &&& (1023 : Int32)).toInt64) = l1 at *
    refine N.lstore C (pc' := 53) (ls' := #[.val (.int start), .val (.int len), .val (.int gap), .val (.int craw), .val (.int mode), .val (.int (0 : Int32)), .val (.int wv), .val (.long l0), .second, .val (.long l1), .second, .unset, .unset, .unset, .unset, .unset, .unset, .unset, .unset, .unset, .unset, .unset, .unset, .unset, .unset, .unset, .unset, .unset, .unset, .unset, .unset, .unset, .unset, .unset, .unset, .unset, .unset, .unset, .unset, .unset]) at_51 rfl rfl ?_
    refine N.iloadN C (pc' := 54) at_53 rfl rfl ?_
    refine N.bipush C (pc' := 56) (z := 20) at_54 rfl rfl ?_
    refine N.iushr C (pc' := 57) at_56 rfl ?_
    refine N.sipush C (pc' := 60) (z := 1023) at_57 rfl rfl ?_
    refine N.iand C (pc' := 61) at_60 rfl ?_
    refine N.i2l C (pc' := 62) at_61 rfl ?_
    have h_l2 : 0 ≤ ((((len.toUInt32 >>> ((20 : Int32) &&& 31).toUInt32).toInt32) &&& (1023 : Int32)).toInt64).toInt ∧ ((((len.toUInt32 >>> ((20 : Int32) &&& 31).toUInt32).toInt32) &&& (1023 : Int32)).toInt64).toInt ≤ 1023 := own_and (by decide) (by decide)
    generalize hd_l2 : ((((len.toUInt32 >>> ((20 : Int32) &&& 31).toUInt32).toInt32) &&& (1023 : Int32)).toInt64) = l2 at *
    refine N.lstore C (pc' := 64) (ls' := #[.val (.int start), .val (.int len), .val (.int gap), .val (.int craw), .val (.int mode), .val (.int (0 : Int32)), .val (.int wv), .val (.long l0), .second, .val (.long l1), .second, .val (.long l2), .second, .unset, .unset, .unset, .unset, .unset, .unset, .unset, .unset, .unset, .unset, .unset, .unset, .unset, .unset, .unset, .unset, .unset, .unset, .unset, .unset, .unset, .unset, .unset, .unset, .unset, .unset, .unset]) at_62 rfl rfl ?_
    refine N.iloadN C (pc' := 65) at_64 rfl rfl ?_
    refine N.ldcI C (pc' := 67) (v := 65535) at_65 (C.w (i := 0) rfl) rfl ?_
    refine N.iand C (pc' := 68) at_67 rfl ?_
    refine N.i2l C (pc' := 69) at_68 rfl ?_
    have h_g1 : 0 ≤ ((gap &&& (65535 : Int32)).toInt64).toInt ∧ ((gap &&& (65535 : Int32)).toInt64).toInt ≤ 65535 := own_and (by decide) (by decide)
    generalize hd_g1 : ((gap &&& (65535 : Int32)).toInt64) = g1 at *
    refine N.lstore C (pc' := 71) (ls' := #[.val (.int start), .val (.int len), .val (.int gap), .val (.int craw), .val (.int mode), .val (.int (0 : Int32)), .val (.int wv), .val (.long l0), .second, .val (.long l1), .second, .val (.long l2), .second, .val (.long g1), .second, .unset, .unset, .unset, .unset, .unset, .unset, .unset, .unset, .unset, .unset, .unset, .unset, .unset, .unset, .unset, .unset, .unset, .unset, .unset, .unset, .unset, .unset, .unset, .unset, .unset]) at_69 rfl rfl ?_
    refine N.iloadN C (pc' := 72) at_71 rfl rfl ?_
    refine N.bipush C (pc' := 74) (z := 16) at_72 rfl rfl ?_
    refine N.iushr C (pc' := 75) at_74 rfl ?_
    refine N.ldcI C (pc' := 77) (v := 65535) at_75 (C.w (i := 0) rfl) rfl ?_
    refine N.iand C (pc' := 78) at_77 rfl ?_
    refine N.i2l C (pc' := 79) at_78 rfl ?_
    have h_g2 : 0 ≤ ((((gap.toUInt32 >>> ((16 : Int32) &&& 31).toUInt32).toInt32) &&& (65535 : Int32)).toInt64).toInt ∧ ((((gap.toUInt32 >>> ((16 : Int32) &&& 31).toUInt32).toInt32) &&& (65535 : Int32)).toInt64).toInt ≤ 65535 := own_and (by decide) (by decide)
    generalize hd_g2 : ((((gap.toUInt32 >>> ((16 : Int32) &&& 31).toUInt32).toInt32) &&& (65535 : Int32)).toInt64) = g2 at *
    refine N.lstore C (pc' := 81) (ls' := #[.val (.int start), .val (.int len), .val (.int gap), .val (.int craw), .val (.int mode), .val (.int (0 : Int32)), .val (.int wv), .val (.long l0), .second, .val (.long l1), .second, .val (.long l2), .second, .val (.long g1), .second, .val (.long g2), .second, .unset, .unset, .unset, .unset, .unset, .unset, .unset, .unset, .unset, .unset, .unset, .unset, .unset, .unset, .unset, .unset, .unset, .unset, .unset, .unset, .unset, .unset, .unset]) at_79 rfl rfl ?_
    refine N.iloadN C (pc' := 82) at_81 rfl rfl ?_
    refine N.i2l C (pc' := 83) at_82 rfl ?_
    have h_a0 : start.toInt64.toInt = start.toInt := c_i2l start
    have r_a0 := rng32 start
    generalize hd_a0 : (start.toInt64) = a0 at *
    refine N.lstore C (pc' := 85) (ls' := #[.val (.int start), .val (.int len), .val (.int gap), .val (.int craw), .val (.int mode), .val (.int (0 : Int32)), .val (.int wv), .val (.long l0), .second, .val (.long l1), .second, .val (.long l2), .second, .val (.long g1), .second, .val (.long g2), .second, .val (.long a0), .second, .unset, .unset, .unset, .unset, .unset, .unset, .unset, .unset, .unset, .unset, .unset, .unset, .unset, .unset, .unset, .unset, .unset, .unset, .unset, .unset, .unset]) at_83 rfl rfl ?_
    refine N.lload C (pc' := 87) at_85 rfl rfl ?_
    refine N.lload C (pc' := 89) at_87 rfl rfl ?_
    refine N.ladd C (pc' := 90) at_89 rfl ?_
    have o2 := own_two
    have h_b0 : (a0 + l0).toInt = a0.toInt + l0.toInt := by
      rw [own_addL (by first | omega | (rw [own_addL (by omega) (by omega) (by omega) (by omega)]; omega)) (by first | omega | (rw [own_addL (by omega) (by omega) (by omega) (by omega)]; omega)) (by first | omega | (rw [own_addL (by omega) (by omega) (by omega) (by omega)]; omega)) (by first | omega | (rw [own_addL (by omega) (by omega) (by omega) (by omega)]; omega))]
    generalize hd_b0 : (a0 + l0) = b0 at *
    refine N.lstore C (pc' := 92) (ls' := #[.val (.int start), .val (.int len), .val (.int gap), .val (.int craw), .val (.int mode), .val (.int (0 : Int32)), .val (.int wv), .val (.long l0), .second, .val (.long l1), .second, .val (.long l2), .second, .val (.long g1), .second, .val (.long g2), .second, .val (.long a0), .second, .val (.long b0), .second, .unset, .unset, .unset, .unset, .unset, .unset, .unset, .unset, .unset, .unset, .unset, .unset, .unset, .unset, .unset, .unset, .unset, .unset, .unset]) at_90 rfl rfl ?_
    refine N.lload C (pc' := 94) at_92 rfl rfl ?_
    refine N.ldcL C (pc' := 97) (v := 2) at_94 (C.w (i := 1) rfl) rfl ?_
    refine N.ladd C (pc' := 98) at_97 rfl ?_
    refine N.lload C (pc' := 100) at_98 rfl rfl ?_
    refine N.ladd C (pc' := 101) at_100 rfl ?_
    have o2 := own_two
    have h_a1 : ((b0 + (2 : Int64)) + g1).toInt = b0.toInt + (2 : Int64).toInt + g1.toInt := by
      rw [own_addL (by first | omega | (rw [own_addL (by omega) (by omega) (by omega) (by omega)]; omega)) (by first | omega | (rw [own_addL (by omega) (by omega) (by omega) (by omega)]; omega)) (by first | omega | (rw [own_addL (by omega) (by omega) (by omega) (by omega)]; omega)) (by first | omega | (rw [own_addL (by omega) (by omega) (by omega) (by omega)]; omega))]; rw [own_addL (by first | omega | (rw [own_addL (by omega) (by omega) (by omega) (by omega)]; omega)) (by first | omega | (rw [own_addL (by omega) (by omega) (by omega) (by omega)]; omega)) (by first | omega | (rw [own_addL (by omega) (by omega) (by omega) (by omega)]; omega)) (by first | omega | (rw [own_addL (by omega) (by omega) (by omega) (by omega)]; omega))]
    generalize hd_a1 : ((b0 + (2 : Int64)) + g1) = a1 at *
    refine N.lstore C (pc' := 103) (ls' := #[.val (.int start), .val (.int len), .val (.int gap), .val (.int craw), .val (.int mode), .val (.int (0 : Int32)), .val (.int wv), .val (.long l0), .second, .val (.long l1), .second, .val (.long l2), .second, .val (.long g1), .second, .val (.long g2), .second, .val (.long a0), .second, .val (.long b0), .second, .val (.long a1), .second, .unset, .unset, .unset, .unset, .unset, .unset, .unset, .unset, .unset, .unset, .unset, .unset, .unset, .unset, .unset, .unset, .unset]) at_101 rfl rfl ?_
    refine N.lload C (pc' := 105) at_103 rfl rfl ?_
    refine N.lload C (pc' := 107) at_105 rfl rfl ?_
    refine N.ladd C (pc' := 108) at_107 rfl ?_
    have o2 := own_two
    have h_b1 : (a1 + l1).toInt = a1.toInt + l1.toInt := by
      rw [own_addL (by first | omega | (rw [own_addL (by omega) (by omega) (by omega) (by omega)]; omega)) (by first | omega | (rw [own_addL (by omega) (by omega) (by omega) (by omega)]; omega)) (by first | omega | (rw [own_addL (by omega) (by omega) (by omega) (by omega)]; omega)) (by first | omega | (rw [own_addL (by omega) (by omega) (by omega) (by omega)]; omega))]
    generalize hd_b1 : (a1 + l1) = b1 at *
    refine N.lstore C (pc' := 110) (ls' := #[.val (.int start), .val (.int len), .val (.int gap), .val (.int craw), .val (.int mode), .val (.int (0 : Int32)), .val (.int wv), .val (.long l0), .second, .val (.long l1), .second, .val (.long l2), .second, .val (.long g1), .second, .val (.long g2), .second, .val (.long a0), .second, .val (.long b0), .second, .val (.long a1), .second, .val (.long b1), .second, .unset, .unset, .unset, .unset, .unset, .unset, .unset, .unset, .unset, .unset, .unset, .unset, .unset, .unset, .unset]) at_108 rfl rfl ?_
    refine N.lload C (pc' := 112) at_110 rfl rfl ?_
    refine N.ldcL C (pc' := 115) (v := 2) at_112 (C.w (i := 1) rfl) rfl ?_
    refine N.ladd C (pc' := 116) at_115 rfl ?_
    refine N.lload C (pc' := 118) at_116 rfl rfl ?_
    refine N.ladd C (pc' := 119) at_118 rfl ?_
    have o2 := own_two
    have h_a2 : ((b1 + (2 : Int64)) + g2).toInt = b1.toInt + (2 : Int64).toInt + g2.toInt := by
      rw [own_addL (by first | omega | (rw [own_addL (by omega) (by omega) (by omega) (by omega)]; omega)) (by first | omega | (rw [own_addL (by omega) (by omega) (by omega) (by omega)]; omega)) (by first | omega | (rw [own_addL (by omega) (by omega) (by omega) (by omega)]; omega)) (by first | omega | (rw [own_addL (by omega) (by omega) (by omega) (by omega)]; omega))]; rw [own_addL (by first | omega | (rw [own_addL (by omega) (by omega) (by omega) (by omega)]; omega)) (by first | omega | (rw [own_addL (by omega) (by omega) (by omega) (by omega)]; omega)) (by first | omega | (rw [own_addL (by omega) (by omega) (by omega) (by omega)]; omega)) (by first | omega | (rw [own_addL (by omega) (by omega) (by omega) (by omega)]; omega))]
    generalize hd_a2 : ((b1 + (2 : Int64)) + g2) = a2 at *
    refine N.lstore C (pc' := 121) (ls' := #[.val (.int start), .val (.int len), .val (.int gap), .val (.int craw), .val (.int mode), .val (.int (0 : Int32)), .val (.int wv), .val (.long l0), .second, .val (.long l1), .second, .val (.long l2), .second, .val (.long g1), .second, .val (.long g2), .second, .val (.long a0), .second, .val (.long b0), .second, .val (.long a1), .second, .val (.long b1), .second, .val (.long a2), .second, .unset, .unset, .unset, .unset, .unset, .unset, .unset, .unset, .unset, .unset, .unset, .unset, .unset]) at_119 rfl rfl ?_
    refine N.lload C (pc' := 123) at_121 rfl rfl ?_
    refine N.lload C (pc' := 125) at_123 rfl rfl ?_
    refine N.ladd C (pc' := 126) at_125 rfl ?_
    have o2 := own_two
    have h_b2 : (a2 + l2).toInt = a2.toInt + l2.toInt := by
      rw [own_addL (by first | omega | (rw [own_addL (by omega) (by omega) (by omega) (by omega)]; omega)) (by first | omega | (rw [own_addL (by omega) (by omega) (by omega) (by omega)]; omega)) (by first | omega | (rw [own_addL (by omega) (by omega) (by omega) (by omega)]; omega)) (by first | omega | (rw [own_addL (by omega) (by omega) (by omega) (by omega)]; omega))]
    generalize hd_b2 : (a2 + l2) = b2 at *
    refine N.lstore C (pc' := 128) (ls' := #[.val (.int start), .val (.int len), .val (.int gap), .val (.int craw), .val (.int mode), .val (.int (0 : Int32)), .val (.int wv), .val (.long l0), .second, .val (.long l1), .second, .val (.long l2), .second, .val (.long g1), .second, .val (.long g2), .second, .val (.long a0), .second, .val (.long b0), .second, .val (.long a1), .second, .val (.long b1), .second, .val (.long a2), .second, .val (.long b2), .second, .unset, .unset, .unset, .unset, .unset, .unset, .unset, .unset, .unset, .unset, .unset]) at_126 rfl rfl ?_
    refine N.iload C (pc' := 130) at_128 rfl rfl ?_
    refine N.iconst C (pc' := 131) (z := 1) at_130 rfl rfl ?_
    refine N.icmp C (pt := 139) (pf := 134) at_131 rfl rfl (fun _ => ?_) (fun (q : (0 : Int32) = (1 : Int32)) => absurd q (by decide))
    refine N.iload C (pc' := 141) at_139 rfl rfl ?_
    refine N.iconst C (pc' := 142) (z := 2) at_141 rfl rfl ?_
    refine N.icmp C (pt := 150) (pf := 145) at_142 rfl rfl (fun _ => ?_) (fun (q : (0 : Int32) = (2 : Int32)) => absurd q (by decide))
    refine N.lload C (pc' := 152) at_150 rfl rfl ?_
    refine N.lstore C (pc' := 154) (ls' := #[.val (.int start), .val (.int len), .val (.int gap), .val (.int craw), .val (.int mode), .val (.int (0 : Int32)), .val (.int wv), .val (.long l0), .second, .val (.long l1), .second, .val (.long l2), .second, .val (.long g1), .second, .val (.long g2), .second, .val (.long a0), .second, .val (.long b0), .second, .val (.long a1), .second, .val (.long b1), .second, .val (.long a2), .second, .val (.long b2), .second, .val (.long b2), .second, .unset, .unset, .unset, .unset, .unset, .unset, .unset, .unset, .unset]) at_152 rfl rfl ?_
    refine N.iload C (pc' := 156) at_154 rfl rfl ?_
    refine N.ifc C (pt := 170) (pf := 159) at_156 rfl rfl (fun _ => ?_) (fun (q : 0 < 0) => absurd q (by decide))
    refine N.iconst C (pc' := 171) (z := 2) at_170 rfl rfl ?_
    refine N.iload C (pc' := 173) at_171 rfl rfl ?_
    refine N.imul C (pc' := 174) at_173 rfl ?_
    show N G K room_1 Q h 0 0 174 #[.val (.int start), .val (.int len), .val (.int gap), .val (.int craw), .val (.int mode), .val (.int (0 : Int32)), .val (.int wv), .val (.long l0), .second, .val (.long l1), .second, .val (.long l2), .second, .val (.long g1), .second, .val (.long g2), .second, .val (.long a0), .second, .val (.long b0), .second, .val (.long a1), .second, .val (.long b1), .second, .val (.long a2), .second, .val (.long b2), .second, .val (.long b2), .second, .unset, .unset, .unset, .unset, .unset, .unset, .unset, .unset, .unset] [(.int (0 : Int32))]
    refine N.newP C (pc' := 176) (n := (0 : Int32)) 0 at_174 (C.w (i := 2) rfl) (by decide) (by decide) (by decide) (by decide) (by decide) rfl (fun h174_1 r hx_r Ex174 A'_r => ?_)
    have g_r : G.n0 ≤ r := by rw [hx_r]; exact Z0
    have Z0 := Nat.le_trans Z0 Ex174.1
    have A_r : Av G.Z h174_1 r .int [] := A'_r
    refine N.astore C (pc' := 178) (ls' := #[.val (.int start), .val (.int len), .val (.int gap), .val (.int craw), .val (.int mode), .val (.int (0 : Int32)), .val (.int wv), .val (.long l0), .second, .val (.long l1), .second, .val (.long l2), .second, .val (.long g1), .second, .val (.long g2), .second, .val (.long a0), .second, .val (.long b0), .second, .val (.long a1), .second, .val (.long b1), .second, .val (.long a2), .second, .val (.long b2), .second, .val (.long b2), .second, .val (.ref r), .unset, .unset, .unset, .unset, .unset, .unset, .unset, .unset]) at_176 rfl rfl rfl ?_
    refine N.iload C (pc' := 180) at_178 rfl rfl ?_
    refine N.iconst C (pc' := 181) (z := 1) at_180 rfl rfl ?_
    refine N.icmp C (pt := 198) (pf := 184) at_181 rfl rfl (fun _ => ?_) (fun (q : 1 ≤ 0) => absurd q (by decide))
    refine N.iload C (pc' := 200) at_198 rfl rfl ?_
    refine N.iconst C (pc' := 201) (z := 2) at_200 rfl rfl ?_
    refine N.icmp C (pt := 218) (pf := 204) at_201 rfl rfl (fun _ => ?_) (fun (q : 2 ≤ 0) => absurd q (by decide))
    refine N.iload C (pc' := 220) at_218 rfl rfl ?_
    refine N.iconst C (pc' := 221) (z := 3) at_220 rfl rfl ?_
    refine N.icmp C (pt := 238) (pf := 224) at_221 rfl rfl (fun _ => ?_) (fun (q : 3 ≤ 0) => absurd q (by decide))
    refine N.iload C (pc' := 240) at_238 rfl rfl ?_
    refine N.iconst C (pc' := 241) (z := 3) at_240 rfl rfl ?_
    refine N.iushr C (pc' := 242) at_241 rfl ?_
    refine N.bipush C (pc' := 244) (z := 7) at_242 rfl rfl ?_
    refine N.iand C (pc' := 245) at_244 rfl ?_
    refine N.istore C (pc' := 247) (ls' := #[.val (.int start), .val (.int len), .val (.int gap), .val (.int craw), .val (.int mode), .val (.int (0 : Int32)), .val (.int wv), .val (.long l0), .second, .val (.long l1), .second, .val (.long l2), .second, .val (.long g1), .second, .val (.long g2), .second, .val (.long a0), .second, .val (.long b0), .second, .val (.long a1), .second, .val (.long b1), .second, .val (.long a2), .second, .val (.long b2), .second, .val (.long b2), .second, .val (.ref r), .val (.int (((mode.toUInt32 >>> ((3 : Int32) &&& 31).toUInt32).toInt32) &&& (7 : Int32))), .unset, .unset, .unset, .unset, .unset, .unset, .unset]) at_245 rfl rfl ?_
    refine N.iload C (pc' := 249) at_247 rfl rfl ?_
    refine N.bipush C (pc' := 251) (z := 6) at_249 rfl rfl ?_
    refine N.iushr C (pc' := 252) at_251 rfl ?_
    refine N.iconst C (pc' := 253) (z := 3) at_252 rfl rfl ?_
    refine N.iand C (pc' := 254) at_253 rfl ?_
    refine N.iconst C (pc' := 255) (z := 1) at_254 rfl rfl ?_
    refine N.isub C (pc' := 256) at_255 rfl ?_
    refine N.i2l C (pc' := 257) at_256 rfl ?_
    refine N.lstore C (pc' := 259) (ls' := #[.val (.int start), .val (.int len), .val (.int gap), .val (.int craw), .val (.int mode), .val (.int (0 : Int32)), .val (.int wv), .val (.long l0), .second, .val (.long l1), .second, .val (.long l2), .second, .val (.long g1), .second, .val (.long g2), .second, .val (.long a0), .second, .val (.long b0), .second, .val (.long a1), .second, .val (.long b1), .second, .val (.long a2), .second, .val (.long b2), .second, .val (.long b2), .second, .val (.ref r), .val (.int (((mode.toUInt32 >>> ((3 : Int32) &&& 31).toUInt32).toInt32) &&& (7 : Int32))), .val (.long (((((mode.toUInt32 >>> ((6 : Int32) &&& 31).toUInt32).toInt32) &&& (3 : Int32)) - (1 : Int32)).toInt64)), .second, .unset, .unset, .unset, .unset, .unset]) at_257 rfl rfl ?_
    suffices j365 : ∀ (c : Int32), N G K room_1 Q h174_1 (0 + 1) 0 365 #[.val (.int start), .val (.int len), .val (.int gap), .val (.int craw), .val (.int mode), .val (.int (0 : Int32)), .val (.int wv), .val (.long l0), .second, .val (.long l1), .second, .val (.long l2), .second, .val (.long g1), .second, .val (.long g2), .second, .val (.long a0), .second, .val (.long b0), .second, .val (.long a1), .second, .val (.long b1), .second, .val (.long a2), .second, .val (.long b2), .second, .val (.long b2), .second, .val (.ref r), .val (.int (((mode.toUInt32 >>> ((3 : Int32) &&& 31).toUInt32).toInt32) &&& (7 : Int32))), .val (.long (((((mode.toUInt32 >>> ((6 : Int32) &&& 31).toUInt32).toInt32) &&& (3 : Int32)) - (1 : Int32)).toInt64)), .second, .val (.int c), .unset, .unset, .unset, .unset] [] by
      refine N.iload C (pc' := 261) at_259 rfl rfl ?_
      refine N.iconst C (pc' := 262) (z := 1) at_261 rfl rfl ?_
      refine N.icmp C (pt := 276) (pf := 265) at_262 rfl rfl (fun (hc262 : ¬ (((mode.toUInt32 >>> ((3 : Int32) &&& 31).toUInt32).toInt32) &&& (7 : Int32)) = (1 : Int32)) => ?_) (fun (hc262 : (((mode.toUInt32 >>> ((3 : Int32) &&& 31).toUInt32).toInt32) &&& (7 : Int32)) = (1 : Int32)) => ?_)
      · have hi262 : ¬ (((mode.toUInt32 >>> ((3 : Int32) &&& 31).toUInt32).toInt32) &&& (7 : Int32)).toInt = 1 := neI hc262
        refine N.iload C (pc' := 278) at_276 rfl rfl ?_
        refine N.iconst C (pc' := 279) (z := 2) at_278 rfl rfl ?_
        refine N.icmp C (pt := 293) (pf := 282) at_279 rfl rfl (fun (hc279 : ¬ (((mode.toUInt32 >>> ((3 : Int32) &&& 31).toUInt32).toInt32) &&& (7 : Int32)) = (2 : Int32)) => ?_) (fun (hc279 : (((mode.toUInt32 >>> ((3 : Int32) &&& 31).toUInt32).toInt32) &&& (7 : Int32)) = (2 : Int32)) => ?_)
        · have hi279 : ¬ (((mode.toUInt32 >>> ((3 : Int32) &&& 31).toUInt32).toInt32) &&& (7 : Int32)).toInt = 2 := neI hc279
          refine N.iload C (pc' := 295) at_293 rfl rfl ?_
          refine N.iconst C (pc' := 296) (z := 3) at_295 rfl rfl ?_
          refine N.icmp C (pt := 310) (pf := 299) at_296 rfl rfl (fun (hc296 : ¬ (((mode.toUInt32 >>> ((3 : Int32) &&& 31).toUInt32).toInt32) &&& (7 : Int32)) = (3 : Int32)) => ?_) (fun (hc296 : (((mode.toUInt32 >>> ((3 : Int32) &&& 31).toUInt32).toInt32) &&& (7 : Int32)) = (3 : Int32)) => ?_)
          · have hi296 : ¬ (((mode.toUInt32 >>> ((3 : Int32) &&& 31).toUInt32).toInt32) &&& (7 : Int32)).toInt = 3 := neI hc296
            refine N.iload C (pc' := 312) at_310 rfl rfl ?_
            refine N.iconst C (pc' := 313) (z := 4) at_312 rfl rfl ?_
            refine N.icmp C (pt := 327) (pf := 316) at_313 rfl rfl (fun (hc313 : ¬ (((mode.toUInt32 >>> ((3 : Int32) &&& 31).toUInt32).toInt32) &&& (7 : Int32)) = (4 : Int32)) => ?_) (fun (hc313 : (((mode.toUInt32 >>> ((3 : Int32) &&& 31).toUInt32).toInt32) &&& (7 : Int32)) = (4 : Int32)) => ?_)
            · have hi313 : ¬ (((mode.toUInt32 >>> ((3 : Int32) &&& 31).toUInt32).toInt32) &&& (7 : Int32)).toInt = 4 := neI hc313
              refine N.iload C (pc' := 329) at_327 rfl rfl ?_
              refine N.iconst C (pc' := 330) (z := 5) at_329 rfl rfl ?_
              refine N.icmp C (pt := 344) (pf := 333) at_330 rfl rfl (fun (hc330 : ¬ (((mode.toUInt32 >>> ((3 : Int32) &&& 31).toUInt32).toInt32) &&& (7 : Int32)) = (5 : Int32)) => ?_) (fun (hc330 : (((mode.toUInt32 >>> ((3 : Int32) &&& 31).toUInt32).toInt32) &&& (7 : Int32)) = (5 : Int32)) => ?_)
              · have hi330 : ¬ (((mode.toUInt32 >>> ((3 : Int32) &&& 31).toUInt32).toInt32) &&& (7 : Int32)).toInt = 5 := neI hc330
                refine N.iload C (pc' := 346) at_344 rfl rfl ?_
                refine N.bipush C (pc' := 348) (z := 6) at_346 rfl rfl ?_
                refine N.icmp C (pt := 362) (pf := 351) at_348 rfl rfl (fun (hc348 : ¬ (((mode.toUInt32 >>> ((3 : Int32) &&& 31).toUInt32).toInt32) &&& (7 : Int32)) = (6 : Int32)) => ?_) (fun (hc348 : (((mode.toUInt32 >>> ((3 : Int32) &&& 31).toUInt32).toInt32) &&& (7 : Int32)) = (6 : Int32)) => ?_)
                · have hi348 : ¬ (((mode.toUInt32 >>> ((3 : Int32) &&& 31).toUInt32).toInt32) &&& (7 : Int32)).toInt = 6 := neI hc348
                  refine N.iloadN C (pc' := 363) at_362 rfl rfl ?_
                  refine N.istore C (pc' := 365) (ls' := #[.val (.int start), .val (.int len), .val (.int gap), .val (.int craw), .val (.int mode), .val (.int (0 : Int32)), .val (.int wv), .val (.long l0), .second, .val (.long l1), .second, .val (.long l2), .second, .val (.long g1), .second, .val (.long g2), .second, .val (.long a0), .second, .val (.long b0), .second, .val (.long a1), .second, .val (.long b1), .second, .val (.long a2), .second, .val (.long b2), .second, .val (.long b2), .second, .val (.ref r), .val (.int (((mode.toUInt32 >>> ((3 : Int32) &&& 31).toUInt32).toInt32) &&& (7 : Int32))), .val (.long (((((mode.toUInt32 >>> ((6 : Int32) &&& 31).toUInt32).toInt32) &&& (3 : Int32)) - (1 : Int32)).toInt64)), .second, .val (.int craw), .unset, .unset, .unset, .unset]) at_363 rfl rfl ?_
                  exact j365 _
                · have hi348 : (((mode.toUInt32 >>> ((3 : Int32) &&& 31).toUInt32).toInt32) &&& (7 : Int32)).toInt = 6 := eqI hc348
                  refine N.lload C (pc' := 353) at_351 rfl rfl ?_
                  refine N.lload C (pc' := 355) at_353 rfl rfl ?_
                  refine N.ladd C (pc' := 356) at_355 rfl ?_
                  refine N.l2i C (pc' := 357) at_356 rfl ?_
                  refine N.istore C (pc' := 359) (ls' := #[.val (.int start), .val (.int len), .val (.int gap), .val (.int craw), .val (.int mode), .val (.int (0 : Int32)), .val (.int wv), .val (.long l0), .second, .val (.long l1), .second, .val (.long l2), .second, .val (.long g1), .second, .val (.long g2), .second, .val (.long a0), .second, .val (.long b0), .second, .val (.long a1), .second, .val (.long b1), .second, .val (.long a2), .second, .val (.long b2), .second, .val (.long b2), .second, .val (.ref r), .val (.int (((mode.toUInt32 >>> ((3 : Int32) &&& 31).toUInt32).toInt32) &&& (7 : Int32))), .val (.long (((((mode.toUInt32 >>> ((6 : Int32) &&& 31).toUInt32).toInt32) &&& (3 : Int32)) - (1 : Int32)).toInt64)), .second, .val (.int ((b2 + (((((mode.toUInt32 >>> ((6 : Int32) &&& 31).toUInt32).toInt32) &&& (3 : Int32)) - (1 : Int32)).toInt64)).toInt32)), .unset, .unset, .unset, .unset]) at_357 rfl rfl ?_
                  refine N.goto C (pc' := 365) at_359 rfl ?_
                  exact j365 _
              · have hi330 : (((mode.toUInt32 >>> ((3 : Int32) &&& 31).toUInt32).toInt32) &&& (7 : Int32)).toInt = 5 := eqI hc330
                refine N.lload C (pc' := 335) at_333 rfl rfl ?_
                refine N.lload C (pc' := 337) at_335 rfl rfl ?_
                refine N.ladd C (pc' := 338) at_337 rfl ?_
                refine N.l2i C (pc' := 339) at_338 rfl ?_
                refine N.istore C (pc' := 341) (ls' := #[.val (.int start), .val (.int len), .val (.int gap), .val (.int craw), .val (.int mode), .val (.int (0 : Int32)), .val (.int wv), .val (.long l0), .second, .val (.long l1), .second, .val (.long l2), .second, .val (.long g1), .second, .val (.long g2), .second, .val (.long a0), .second, .val (.long b0), .second, .val (.long a1), .second, .val (.long b1), .second, .val (.long a2), .second, .val (.long b2), .second, .val (.long b2), .second, .val (.ref r), .val (.int (((mode.toUInt32 >>> ((3 : Int32) &&& 31).toUInt32).toInt32) &&& (7 : Int32))), .val (.long (((((mode.toUInt32 >>> ((6 : Int32) &&& 31).toUInt32).toInt32) &&& (3 : Int32)) - (1 : Int32)).toInt64)), .second, .val (.int ((a2 + (((((mode.toUInt32 >>> ((6 : Int32) &&& 31).toUInt32).toInt32) &&& (3 : Int32)) - (1 : Int32)).toInt64)).toInt32)), .unset, .unset, .unset, .unset]) at_339 rfl rfl ?_
                refine N.goto C (pc' := 365) at_341 rfl ?_
                exact j365 _
            · have hi313 : (((mode.toUInt32 >>> ((3 : Int32) &&& 31).toUInt32).toInt32) &&& (7 : Int32)).toInt = 4 := eqI hc313
              refine N.lload C (pc' := 318) at_316 rfl rfl ?_
              refine N.lload C (pc' := 320) at_318 rfl rfl ?_
              refine N.ladd C (pc' := 321) at_320 rfl ?_
              refine N.l2i C (pc' := 322) at_321 rfl ?_
              refine N.istore C (pc' := 324) (ls' := #[.val (.int start), .val (.int len), .val (.int gap), .val (.int craw), .val (.int mode), .val (.int (0 : Int32)), .val (.int wv), .val (.long l0), .second, .val (.long l1), .second, .val (.long l2), .second, .val (.long g1), .second, .val (.long g2), .second, .val (.long a0), .second, .val (.long b0), .second, .val (.long a1), .second, .val (.long b1), .second, .val (.long a2), .second, .val (.long b2), .second, .val (.long b2), .second, .val (.ref r), .val (.int (((mode.toUInt32 >>> ((3 : Int32) &&& 31).toUInt32).toInt32) &&& (7 : Int32))), .val (.long (((((mode.toUInt32 >>> ((6 : Int32) &&& 31).toUInt32).toInt32) &&& (3 : Int32)) - (1 : Int32)).toInt64)), .second, .val (.int ((b1 + (((((mode.toUInt32 >>> ((6 : Int32) &&& 31).toUInt32).toInt32) &&& (3 : Int32)) - (1 : Int32)).toInt64)).toInt32)), .unset, .unset, .unset, .unset]) at_322 rfl rfl ?_
              refine N.goto C (pc' := 365) at_324 rfl ?_
              exact j365 _
          · have hi296 : (((mode.toUInt32 >>> ((3 : Int32) &&& 31).toUInt32).toInt32) &&& (7 : Int32)).toInt = 3 := eqI hc296
            refine N.lload C (pc' := 301) at_299 rfl rfl ?_
            refine N.lload C (pc' := 303) at_301 rfl rfl ?_
            refine N.ladd C (pc' := 304) at_303 rfl ?_
            refine N.l2i C (pc' := 305) at_304 rfl ?_
            refine N.istore C (pc' := 307) (ls' := #[.val (.int start), .val (.int len), .val (.int gap), .val (.int craw), .val (.int mode), .val (.int (0 : Int32)), .val (.int wv), .val (.long l0), .second, .val (.long l1), .second, .val (.long l2), .second, .val (.long g1), .second, .val (.long g2), .second, .val (.long a0), .second, .val (.long b0), .second, .val (.long a1), .second, .val (.long b1), .second, .val (.long a2), .second, .val (.long b2), .second, .val (.long b2), .second, .val (.ref r), .val (.int (((mode.toUInt32 >>> ((3 : Int32) &&& 31).toUInt32).toInt32) &&& (7 : Int32))), .val (.long (((((mode.toUInt32 >>> ((6 : Int32) &&& 31).toUInt32).toInt32) &&& (3 : Int32)) - (1 : Int32)).toInt64)), .second, .val (.int ((a1 + (((((mode.toUInt32 >>> ((6 : Int32) &&& 31).toUInt32).toInt32) &&& (3 : Int32)) - (1 : Int32)).toInt64)).toInt32)), .unset, .unset, .unset, .unset]) at_305 rfl rfl ?_
            refine N.goto C (pc' := 365) at_307 rfl ?_
            exact j365 _
        · have hi279 : (((mode.toUInt32 >>> ((3 : Int32) &&& 31).toUInt32).toInt32) &&& (7 : Int32)).toInt = 2 := eqI hc279
          refine N.lload C (pc' := 284) at_282 rfl rfl ?_
          refine N.lload C (pc' := 286) at_284 rfl rfl ?_
          refine N.ladd C (pc' := 287) at_286 rfl ?_
          refine N.l2i C (pc' := 288) at_287 rfl ?_
          refine N.istore C (pc' := 290) (ls' := #[.val (.int start), .val (.int len), .val (.int gap), .val (.int craw), .val (.int mode), .val (.int (0 : Int32)), .val (.int wv), .val (.long l0), .second, .val (.long l1), .second, .val (.long l2), .second, .val (.long g1), .second, .val (.long g2), .second, .val (.long a0), .second, .val (.long b0), .second, .val (.long a1), .second, .val (.long b1), .second, .val (.long a2), .second, .val (.long b2), .second, .val (.long b2), .second, .val (.ref r), .val (.int (((mode.toUInt32 >>> ((3 : Int32) &&& 31).toUInt32).toInt32) &&& (7 : Int32))), .val (.long (((((mode.toUInt32 >>> ((6 : Int32) &&& 31).toUInt32).toInt32) &&& (3 : Int32)) - (1 : Int32)).toInt64)), .second, .val (.int ((b0 + (((((mode.toUInt32 >>> ((6 : Int32) &&& 31).toUInt32).toInt32) &&& (3 : Int32)) - (1 : Int32)).toInt64)).toInt32)), .unset, .unset, .unset, .unset]) at_288 rfl rfl ?_
          refine N.goto C (pc' := 365) at_290 rfl ?_
          exact j365 _
      · have hi262 : (((mode.toUInt32 >>> ((3 : Int32) &&& 31).toUInt32).toInt32) &&& (7 : Int32)).toInt = 1 := eqI hc262
        refine N.lload C (pc' := 267) at_265 rfl rfl ?_
        refine N.lload C (pc' := 269) at_267 rfl rfl ?_
        refine N.ladd C (pc' := 270) at_269 rfl ?_
        refine N.l2i C (pc' := 271) at_270 rfl ?_
        refine N.istore C (pc' := 273) (ls' := #[.val (.int start), .val (.int len), .val (.int gap), .val (.int craw), .val (.int mode), .val (.int (0 : Int32)), .val (.int wv), .val (.long l0), .second, .val (.long l1), .second, .val (.long l2), .second, .val (.long g1), .second, .val (.long g2), .second, .val (.long a0), .second, .val (.long b0), .second, .val (.long a1), .second, .val (.long b1), .second, .val (.long a2), .second, .val (.long b2), .second, .val (.long b2), .second, .val (.ref r), .val (.int (((mode.toUInt32 >>> ((3 : Int32) &&& 31).toUInt32).toInt32) &&& (7 : Int32))), .val (.long (((((mode.toUInt32 >>> ((6 : Int32) &&& 31).toUInt32).toInt32) &&& (3 : Int32)) - (1 : Int32)).toInt64)), .second, .val (.int ((a0 + (((((mode.toUInt32 >>> ((6 : Int32) &&& 31).toUInt32).toInt32) &&& (3 : Int32)) - (1 : Int32)).toInt64)).toInt32)), .unset, .unset, .unset, .unset]) at_271 rfl rfl ?_
        refine N.goto C (pc' := 365) at_273 rfl ?_
        exact j365 _
    intro c
    have h_c : c.toInt64.toInt = c.toInt := c_i2l c
    refine N.iload C (pc' := 367) at_365 rfl rfl ?_
    refine N.i2l C (pc' := 368) at_367 rfl ?_
    refine N.lstore C (pc' := 370) (ls' := #[.val (.int start), .val (.int len), .val (.int gap), .val (.int craw), .val (.int mode), .val (.int (0 : Int32)), .val (.int wv), .val (.long l0), .second, .val (.long l1), .second, .val (.long l2), .second, .val (.long g1), .second, .val (.long g2), .second, .val (.long a0), .second, .val (.long b0), .second, .val (.long a1), .second, .val (.long b1), .second, .val (.long a2), .second, .val (.long b2), .second, .val (.long b2), .second, .val (.ref r), .val (.int (((mode.toUInt32 >>> ((3 : Int32) &&& 31).toUInt32).toInt32) &&& (7 : Int32))), .val (.long (((((mode.toUInt32 >>> ((6 : Int32) &&& 31).toUInt32).toInt32) &&& (3 : Int32)) - (1 : Int32)).toInt64)), .second, .val (.int c), .val (.long (c.toInt64)), .second, .unset, .unset]) at_368 rfl rfl ?_
    suffices j443 : ∀ (ev : Int32), (ev = (1 : Int32) ∧ ((1 : Int) ≤ 0)) ∨ (ev = (0 : Int32) ∧ ¬ ((1 : Int) ≤ 0)) → N G K room_1 Q h174_1 (0 + 1) 0 443 #[.val (.int start), .val (.int len), .val (.int gap), .val (.int craw), .val (.int mode), .val (.int (0 : Int32)), .val (.int wv), .val (.long l0), .second, .val (.long l1), .second, .val (.long l2), .second, .val (.long g1), .second, .val (.long g2), .second, .val (.long a0), .second, .val (.long b0), .second, .val (.long a1), .second, .val (.long b1), .second, .val (.long a2), .second, .val (.long b2), .second, .val (.long b2), .second, .val (.ref r), .val (.int (((mode.toUInt32 >>> ((3 : Int32) &&& 31).toUInt32).toInt32) &&& (7 : Int32))), .val (.long (((((mode.toUInt32 >>> ((6 : Int32) &&& 31).toUInt32).toInt32) &&& (3 : Int32)) - (1 : Int32)).toInt64)), .second, .val (.int c), .val (.long (c.toInt64)), .second, .val (.int ev), .unset] [] by
      refine N.iload C (pc' := 372) at_370 rfl rfl ?_
      refine N.iconst C (pc' := 373) (z := 1) at_372 rfl rfl ?_
      refine N.icmp C (pt := 392) (pf := 376) at_373 rfl rfl (fun _ => ?_) (fun (q : 1 ≤ 0) => absurd q (by decide))
      refine N.iload C (pc' := 394) at_392 rfl rfl ?_
      refine N.iconst C (pc' := 395) (z := 2) at_394 rfl rfl ?_
      refine N.icmp C (pt := 414) (pf := 398) at_395 rfl rfl (fun _ => ?_) (fun (q : 2 ≤ 0) => absurd q (by decide))
      refine N.iload C (pc' := 416) at_414 rfl rfl ?_
      refine N.iconst C (pc' := 417) (z := 3) at_416 rfl rfl ?_
      refine N.icmp C (pt := 440) (pf := 420) at_417 rfl rfl (fun _ => ?_) (fun (q : 3 ≤ 0) => absurd q (by decide))
      refine N.iconst C (pc' := 441) (z := 0) at_440 rfl rfl ?_
      refine N.istore C (pc' := 443) (ls' := #[.val (.int start), .val (.int len), .val (.int gap), .val (.int craw), .val (.int mode), .val (.int (0 : Int32)), .val (.int wv), .val (.long l0), .second, .val (.long l1), .second, .val (.long l2), .second, .val (.long g1), .second, .val (.long g2), .second, .val (.long a0), .second, .val (.long b0), .second, .val (.long a1), .second, .val (.long b1), .second, .val (.long a2), .second, .val (.long b2), .second, .val (.long b2), .second, .val (.ref r), .val (.int (((mode.toUInt32 >>> ((3 : Int32) &&& 31).toUInt32).toInt32) &&& (7 : Int32))), .val (.long (((((mode.toUInt32 >>> ((6 : Int32) &&& 31).toUInt32).toInt32) &&& (3 : Int32)) - (1 : Int32)).toInt64)), .second, .val (.int c), .val (.long (c.toInt64)), .second, .val (.int (0 : Int32)), .unset]) at_441 rfl rfl ?_
      exact j443 _ (Or.inr ⟨rfl, by omega⟩)
    intro ev hev
    show N G K room_1 Q h174_1 (0 + 1) 0 443 #[.val (.int start), .val (.int len), .val (.int gap), .val (.int craw), .val (.int mode), .val (.int (0 : Int32)), .val (.int wv), .val (.long l0), .second, .val (.long l1), .second, .val (.long l2), .second, .val (.long g1), .second, .val (.long g2), .second, .val (.long a0), .second, .val (.long b0), .second, .val (.long a1), .second, .val (.long b1), .second, .val (.long a2), .second, .val (.long b2), .second, .val (.long b2), .second, .val (.ref r), .val (.int (((mode.toUInt32 >>> ((3 : Int32) &&& 31).toUInt32).toInt32) &&& (7 : Int32))), .val (.long (((((mode.toUInt32 >>> ((6 : Int32) &&& 31).toUInt32).toInt32) &&& (3 : Int32)) - (1 : Int32)).toInt64)), .second, .val (.int c), .val (.long (c.toInt64)), .second, .val (.int ev), .unset] []
    refine N.newO C (pc' := 446) at_443 (C.w (i := 3) rfl) (C.w (i := 4) rfl) (C.w (i := 5) rfl) (by decide) (by decide) rfl (fun h443_2 x hx_x Ex443 E_x D_x => ?_)
    have ne_r_x : r ≠ x := by rw [hx_x]; exact Nat.ne_of_lt A_r.lt
    have ne_x_r := Ne.symm ne_r_x
    have g_x : G.n0 ≤ x := by rw [hx_x]; exact Z0
    have Z0 := Nat.le_trans Z0 Ex443.1
    have A_r := A_r.ext Ex443
    have F_x_ranges : Fld G.Z h443_2 x "quadrille/CharacterClass$Span" "ranges" "[I" .null := D_x (Or.inr (C.w (i := 18) rfl)) (ty := (.array .int)) (by decide)
    refine N.dup C (pc' := 447) at_446 rfl rfl ?_
    refine N.aload C (pc' := 449) at_447 rfl rfl rfl ?_
    refine N.callI C (pc' := 452) x [(.ref r)] at_449 rfl (C.w (i := 6) rfl) (C.w (i := 7) rfl) (C.w (i := 5) rfl) (C.w (i := 8) rfl) (by decide) (con1 G hw x r h443_2 Z0 g_x E_x F_x_ranges) (lenOf pd___I_V rfl) rfl (by decide) (show 1 + (2 + 11) + _ ≤ _ from by decide) (by decide) (by decide) (rest := [(.ref x)]) rfl rfl ?_
    rintro _ h449_3 ⟨rfl, KpI, F1I⟩
    have Z0 := Nat.le_trans Z0 KpI.1
    have E_x := E_x.keep KpI
    have A_r := A_r.keep KpI (ninS ne_r_x nin0)
    have F_x_ranges := F1I
    show N G K room_1 Q h449_3 ((0 + 1) + 1) (0 + 1) 452 #[.val (.int start), .val (.int len), .val (.int gap), .val (.int craw), .val (.int mode), .val (.int (0 : Int32)), .val (.int wv), .val (.long l0), .second, .val (.long l1), .second, .val (.long l2), .second, .val (.long g1), .second, .val (.long g2), .second, .val (.long a0), .second, .val (.long b0), .second, .val (.long a1), .second, .val (.long b1), .second, .val (.long a2), .second, .val (.long b2), .second, .val (.long b2), .second, .val (.ref r), .val (.int (((mode.toUInt32 >>> ((3 : Int32) &&& 31).toUInt32).toInt32) &&& (7 : Int32))), .val (.long (((((mode.toUInt32 >>> ((6 : Int32) &&& 31).toUInt32).toInt32) &&& (3 : Int32)) - (1 : Int32)).toInt64)), .second, .val (.int c), .val (.long (c.toInt64)), .second, .val (.int ev), .unset] [(.ref x)]
    refine N.iload C (pc' := 454) at_452 rfl rfl ?_
    have hsrt : own_srt ([] : List Int32) := (by
        intro i j x y hx hy hij
        have hi := (List.getElem?_eq_some_iff.mp hx).1
        have hj := (List.getElem?_eq_some_iff.mp hy).1
        simp only [List.length_cons, List.length_nil] at hi hj
        omega)
    refine N.callV C (pc' := 457) x [(.int c)] at_454 (C.w (i := 19) rfl) (C.w (i := 20) rfl) (C.w (i := 22) rfl) (C.w (i := 21) rfl) (C.w (i := 5) rfl) (C.w (i := 23) rfl) (by decide) E_x (con4 G hw x r c (0 : Int32) ([] : List Int32) h449_3 (show (0 : Int32).toInt = ((0 : Nat) : Int) from by decide) (show 0 ≤ 6 from by decide) hsrt F_x_ranges A_r) (lenOf pd__I_Z rfl) rfl (by decide) (show 0 + (5 + 11) + _ ≤ _ from by decide) (by decide) (by decide) (rest := []) rfl rfl ?_
    rintro _ h454_4 ⟨z, lo, y, rfl, rfl, hB, hy, hz⟩
    show N G K room_1 Q h449_3 ((0 + 1) + 1) (0 + 1) 457 #[.val (.int start), .val (.int len), .val (.int gap), .val (.int craw), .val (.int mode), .val (.int (0 : Int32)), .val (.int wv), .val (.long l0), .second, .val (.long l1), .second, .val (.long l2), .second, .val (.long g1), .second, .val (.long g2), .second, .val (.long a0), .second, .val (.long b0), .second, .val (.long a1), .second, .val (.long b1), .second, .val (.long a2), .second, .val (.long b2), .second, .val (.long b2), .second, .val (.ref r), .val (.int (((mode.toUInt32 >>> ((3 : Int32) &&& 31).toUInt32).toInt32) &&& (7 : Int32))), .val (.long (((((mode.toUInt32 >>> ((6 : Int32) &&& 31).toUInt32).toInt32) &&& (3 : Int32)) - (1 : Int32)).toInt64)), .second, .val (.int c), .val (.long (c.toInt64)), .second, .val (.int ev), .unset] [(.int z)]
    refine N.istore C (pc' := 459) (ls' := #[.val (.int start), .val (.int len), .val (.int gap), .val (.int craw), .val (.int mode), .val (.int (0 : Int32)), .val (.int wv), .val (.long l0), .second, .val (.long l1), .second, .val (.long l2), .second, .val (.long g1), .second, .val (.long g2), .second, .val (.long a0), .second, .val (.long b0), .second, .val (.long a1), .second, .val (.long b1), .second, .val (.long a2), .second, .val (.long b2), .second, .val (.long b2), .second, .val (.ref r), .val (.int (((mode.toUInt32 >>> ((3 : Int32) &&& 31).toUInt32).toInt32) &&& (7 : Int32))), .val (.long (((((mode.toUInt32 >>> ((6 : Int32) &&& 31).toUInt32).toInt32) &&& (3 : Int32)) - (1 : Int32)).toInt64)), .second, .val (.int c), .val (.long (c.toInt64)), .second, .val (.int ev), .val (.int z)]) at_457 rfl rfl ?_
    have hlo := hB.2.1
    simp only [List.length_cons, List.length_nil] at hlo hz
    have hev2 : ev = (1 : Int32) ∨ ev = (0 : Int32) := hev.imp (·.1) (·.1)
    have hzz : z = ev := own_zz hz hev2 (fun e R => by
      rcases hev with ⟨-, q⟩ | ⟨e', -⟩
      · omega
      · rw [e'] at e; exact absurd e (by decide)) (fun e R => by
      rcases hev with ⟨e', -⟩ | ⟨-, q⟩
      · rw [e'] at e; exact absurd e (by decide)
      · omega)
    refine N.iload C (pc' := 461) at_459 rfl rfl ?_
    refine N.iload C (pc' := 463) at_461 rfl rfl ?_
    refine N.icmp C (pt := 470) (pf := 466) at_463 rfl rfl (fun (hc463 : ¬ z = ev) => absurd (show False from by exact hc463 hzz) id) (fun (hc463 : z = ev) => ?_)
    refine N.iconst C (pc' := 467) (z := 1) at_466 rfl rfl ?_
    refine N.goto C (pc' := 471) at_467 rfl ?_
    exact N.retN C (by simp) (z' := (1 : Int32)) rfl at_471 (by decide) (by decide) (by subst hQ; exact rfl)
  · rw [e]
    refine N.istore C (pc' := 6) (ls' := #[.val (.int start), .val (.int len), .val (.int gap), .val (.int craw), .val (.int mode), .val (.int (1 : Int32)), .unset, .unset, .unset, .unset, .unset, .unset, .unset, .unset, .unset, .unset, .unset, .unset, .unset, .unset, .unset, .unset, .unset, .unset, .unset, .unset, .unset, .unset, .unset, .unset, .unset, .unset, .unset, .unset, .unset, .unset, .unset, .unset, .unset, .unset]) at_4 rfl rfl ?_
    suffices j42 : ∀ (wv : Int32) (l0 : Int64), 0 ≤ l0.toInt ∧ l0.toInt ≤ 2147483647 → N G K room_1 Q h 0 0 42 #[.val (.int start), .val (.int len), .val (.int gap), .val (.int craw), .val (.int mode), .val (.int (1 : Int32)), .val (.int wv), .val (.long l0), .second, .unset, .unset, .unset, .unset, .unset, .unset, .unset, .unset, .unset, .unset, .unset, .unset, .unset, .unset, .unset, .unset, .unset, .unset, .unset, .unset, .unset, .unset, .unset, .unset, .unset, .unset, .unset, .unset, .unset, .unset, .unset] [] by
      refine N.iload C (pc' := 8) at_6 rfl rfl ?_
      refine N.iconst C (pc' := 9) (z := 4) at_8 rfl rfl ?_
      refine N.iand C (pc' := 10) at_9 rfl ?_
      refine N.ifc C (pt := 17) (pf := 13) at_10 rfl rfl (fun (hc10 : (mode &&& (4 : Int32)) = (0 : Int32)) => ?_) (fun (hc10 : ¬ (mode &&& (4 : Int32)) = (0 : Int32)) => ?_)
      · have hi10 : (mode &&& (4 : Int32)).toInt = 0 := eqI hc10
        refine N.iconst C (pc' := 18) (z := 0) at_17 rfl rfl ?_
        refine N.istore C (pc' := 20) (ls' := #[.val (.int start), .val (.int len), .val (.int gap), .val (.int craw), .val (.int mode), .val (.int (1 : Int32)), .val (.int (0 : Int32)), .unset, .unset, .unset, .unset, .unset, .unset, .unset, .unset, .unset, .unset, .unset, .unset, .unset, .unset, .unset, .unset, .unset, .unset, .unset, .unset, .unset, .unset, .unset, .unset, .unset, .unset, .unset, .unset, .unset, .unset, .unset, .unset, .unset]) at_18 rfl rfl ?_
        refine N.iload C (pc' := 22) at_20 rfl rfl ?_
        refine N.ifc C (pt := 34) (pf := 25) at_22 rfl rfl (fun _ => ?_) (fun (q : ¬ (0 : Int32) = (0 : Int32)) => absurd q (by decide))
        refine N.iloadN C (pc' := 35) at_34 rfl rfl ?_
        refine N.sipush C (pc' := 38) (z := 1023) at_35 rfl rfl ?_
        refine N.iand C (pc' := 39) at_38 rfl ?_
        refine N.i2l C (pc' := 40) at_39 rfl ?_
        refine N.lstore C (pc' := 42) (ls' := #[.val (.int start), .val (.int len), .val (.int gap), .val (.int craw), .val (.int mode), .val (.int (1 : Int32)), .val (.int (0 : Int32)), .val (.long ((len &&& (1023 : Int32)).toInt64)), .second, .unset, .unset, .unset, .unset, .unset, .unset, .unset, .unset, .unset, .unset, .unset, .unset, .unset, .unset, .unset, .unset, .unset, .unset, .unset, .unset, .unset, .unset, .unset, .unset, .unset, .unset, .unset, .unset, .unset, .unset, .unset]) at_40 rfl rfl ?_
        exact j42 _ _ (by have := own_and (x := len) (m := 1023) (k := 1023) (by decide) (by decide); omega)
      · have hi10 : ¬ (mode &&& (4 : Int32)).toInt = 0 := neI hc10
        refine N.iconst C (pc' := 14) (z := 1) at_13 rfl rfl ?_
        refine N.goto C (pc' := 18) at_14 rfl ?_
        refine N.istore C (pc' := 20) (ls' := #[.val (.int start), .val (.int len), .val (.int gap), .val (.int craw), .val (.int mode), .val (.int (1 : Int32)), .val (.int (1 : Int32)), .unset, .unset, .unset, .unset, .unset, .unset, .unset, .unset, .unset, .unset, .unset, .unset, .unset, .unset, .unset, .unset, .unset, .unset, .unset, .unset, .unset, .unset, .unset, .unset, .unset, .unset, .unset, .unset, .unset, .unset, .unset, .unset, .unset]) at_18 rfl rfl ?_
        refine N.iload C (pc' := 22) at_20 rfl rfl ?_
        refine N.ifc C (pt := 34) (pf := 25) at_22 rfl rfl (fun (q : (1 : Int32) = (0 : Int32)) => absurd q (by decide)) (fun _ => ?_)
        refine N.iloadN C (pc' := 26) at_25 rfl rfl ?_
        refine N.i2l C (pc' := 27) at_26 rfl ?_
        refine N.ldcL C (pc' := 30) (v := 2147483647) at_27 (C.w (i := 24) rfl) rfl ?_
        refine N.land C (pc' := 31) at_30 rfl ?_
        refine N.goto C (pc' := 40) at_31 rfl ?_
        refine N.lstore C (pc' := 42) (ls' := #[.val (.int start), .val (.int len), .val (.int gap), .val (.int craw), .val (.int mode), .val (.int (1 : Int32)), .val (.int (1 : Int32)), .val (.long ((len.toInt64) &&& (2147483647 : Int64))), .second, .unset, .unset, .unset, .unset, .unset, .unset, .unset, .unset, .unset, .unset, .unset, .unset, .unset, .unset, .unset, .unset, .unset, .unset, .unset, .unset, .unset, .unset, .unset, .unset, .unset, .unset, .unset, .unset, .unset, .unset, .unset]) at_40 rfl rfl ?_
        exact j42 _ _ (own_w _)
    intro wv l0 h_l0
    refine N.iloadN C (pc' := 43) at_42 rfl rfl ?_
    refine N.bipush C (pc' := 45) (z := 10) at_43 rfl rfl ?_
    refine N.iushr C (pc' := 46) at_45 rfl ?_
    refine N.sipush C (pc' := 49) (z := 1023) at_46 rfl rfl ?_
    refine N.iand C (pc' := 50) at_49 rfl ?_
    refine N.i2l C (pc' := 51) at_50 rfl ?_
    have h_l1 : 0 ≤ ((((len.toUInt32 >>> ((10 : Int32) &&& 31).toUInt32).toInt32) &&& (1023 : Int32)).toInt64).toInt ∧ ((((len.toUInt32 >>> ((10 : Int32) &&& 31).toUInt32).toInt32) &&& (1023 : Int32)).toInt64).toInt ≤ 1023 := own_and (by decide) (by decide)
    generalize hd_l1 : ((((len.toUInt32 >>> ((10 : Int32) &&& 31).toUInt32).toInt32) &&& (1023 : Int32)).toInt64) = l1 at *
    refine N.lstore C (pc' := 53) (ls' := #[.val (.int start), .val (.int len), .val (.int gap), .val (.int craw), .val (.int mode), .val (.int (1 : Int32)), .val (.int wv), .val (.long l0), .second, .val (.long l1), .second, .unset, .unset, .unset, .unset, .unset, .unset, .unset, .unset, .unset, .unset, .unset, .unset, .unset, .unset, .unset, .unset, .unset, .unset, .unset, .unset, .unset, .unset, .unset, .unset, .unset, .unset, .unset, .unset, .unset]) at_51 rfl rfl ?_
    refine N.iloadN C (pc' := 54) at_53 rfl rfl ?_
    refine N.bipush C (pc' := 56) (z := 20) at_54 rfl rfl ?_
    refine N.iushr C (pc' := 57) at_56 rfl ?_
    refine N.sipush C (pc' := 60) (z := 1023) at_57 rfl rfl ?_
    refine N.iand C (pc' := 61) at_60 rfl ?_
    refine N.i2l C (pc' := 62) at_61 rfl ?_
    have h_l2 : 0 ≤ ((((len.toUInt32 >>> ((20 : Int32) &&& 31).toUInt32).toInt32) &&& (1023 : Int32)).toInt64).toInt ∧ ((((len.toUInt32 >>> ((20 : Int32) &&& 31).toUInt32).toInt32) &&& (1023 : Int32)).toInt64).toInt ≤ 1023 := own_and (by decide) (by decide)
    generalize hd_l2 : ((((len.toUInt32 >>> ((20 : Int32) &&& 31).toUInt32).toInt32) &&& (1023 : Int32)).toInt64) = l2 at *
    refine N.lstore C (pc' := 64) (ls' := #[.val (.int start), .val (.int len), .val (.int gap), .val (.int craw), .val (.int mode), .val (.int (1 : Int32)), .val (.int wv), .val (.long l0), .second, .val (.long l1), .second, .val (.long l2), .second, .unset, .unset, .unset, .unset, .unset, .unset, .unset, .unset, .unset, .unset, .unset, .unset, .unset, .unset, .unset, .unset, .unset, .unset, .unset, .unset, .unset, .unset, .unset, .unset, .unset, .unset, .unset]) at_62 rfl rfl ?_
    refine N.iloadN C (pc' := 65) at_64 rfl rfl ?_
    refine N.ldcI C (pc' := 67) (v := 65535) at_65 (C.w (i := 0) rfl) rfl ?_
    refine N.iand C (pc' := 68) at_67 rfl ?_
    refine N.i2l C (pc' := 69) at_68 rfl ?_
    have h_g1 : 0 ≤ ((gap &&& (65535 : Int32)).toInt64).toInt ∧ ((gap &&& (65535 : Int32)).toInt64).toInt ≤ 65535 := own_and (by decide) (by decide)
    generalize hd_g1 : ((gap &&& (65535 : Int32)).toInt64) = g1 at *
    refine N.lstore C (pc' := 71) (ls' := #[.val (.int start), .val (.int len), .val (.int gap), .val (.int craw), .val (.int mode), .val (.int (1 : Int32)), .val (.int wv), .val (.long l0), .second, .val (.long l1), .second, .val (.long l2), .second, .val (.long g1), .second, .unset, .unset, .unset, .unset, .unset, .unset, .unset, .unset, .unset, .unset, .unset, .unset, .unset, .unset, .unset, .unset, .unset, .unset, .unset, .unset, .unset, .unset, .unset, .unset, .unset]) at_69 rfl rfl ?_
    refine N.iloadN C (pc' := 72) at_71 rfl rfl ?_
    refine N.bipush C (pc' := 74) (z := 16) at_72 rfl rfl ?_
    refine N.iushr C (pc' := 75) at_74 rfl ?_
    refine N.ldcI C (pc' := 77) (v := 65535) at_75 (C.w (i := 0) rfl) rfl ?_
    refine N.iand C (pc' := 78) at_77 rfl ?_
    refine N.i2l C (pc' := 79) at_78 rfl ?_
    have h_g2 : 0 ≤ ((((gap.toUInt32 >>> ((16 : Int32) &&& 31).toUInt32).toInt32) &&& (65535 : Int32)).toInt64).toInt ∧ ((((gap.toUInt32 >>> ((16 : Int32) &&& 31).toUInt32).toInt32) &&& (65535 : Int32)).toInt64).toInt ≤ 65535 := own_and (by decide) (by decide)
    generalize hd_g2 : ((((gap.toUInt32 >>> ((16 : Int32) &&& 31).toUInt32).toInt32) &&& (65535 : Int32)).toInt64) = g2 at *
    refine N.lstore C (pc' := 81) (ls' := #[.val (.int start), .val (.int len), .val (.int gap), .val (.int craw), .val (.int mode), .val (.int (1 : Int32)), .val (.int wv), .val (.long l0), .second, .val (.long l1), .second, .val (.long l2), .second, .val (.long g1), .second, .val (.long g2), .second, .unset, .unset, .unset, .unset, .unset, .unset, .unset, .unset, .unset, .unset, .unset, .unset, .unset, .unset, .unset, .unset, .unset, .unset, .unset, .unset, .unset, .unset, .unset]) at_79 rfl rfl ?_
    refine N.iloadN C (pc' := 82) at_81 rfl rfl ?_
    refine N.i2l C (pc' := 83) at_82 rfl ?_
    have h_a0 : start.toInt64.toInt = start.toInt := c_i2l start
    have r_a0 := rng32 start
    generalize hd_a0 : (start.toInt64) = a0 at *
    refine N.lstore C (pc' := 85) (ls' := #[.val (.int start), .val (.int len), .val (.int gap), .val (.int craw), .val (.int mode), .val (.int (1 : Int32)), .val (.int wv), .val (.long l0), .second, .val (.long l1), .second, .val (.long l2), .second, .val (.long g1), .second, .val (.long g2), .second, .val (.long a0), .second, .unset, .unset, .unset, .unset, .unset, .unset, .unset, .unset, .unset, .unset, .unset, .unset, .unset, .unset, .unset, .unset, .unset, .unset, .unset, .unset, .unset]) at_83 rfl rfl ?_
    refine N.lload C (pc' := 87) at_85 rfl rfl ?_
    refine N.lload C (pc' := 89) at_87 rfl rfl ?_
    refine N.ladd C (pc' := 90) at_89 rfl ?_
    have o2 := own_two
    have h_b0 : (a0 + l0).toInt = a0.toInt + l0.toInt := by
      rw [own_addL (by first | omega | (rw [own_addL (by omega) (by omega) (by omega) (by omega)]; omega)) (by first | omega | (rw [own_addL (by omega) (by omega) (by omega) (by omega)]; omega)) (by first | omega | (rw [own_addL (by omega) (by omega) (by omega) (by omega)]; omega)) (by first | omega | (rw [own_addL (by omega) (by omega) (by omega) (by omega)]; omega))]
    generalize hd_b0 : (a0 + l0) = b0 at *
    refine N.lstore C (pc' := 92) (ls' := #[.val (.int start), .val (.int len), .val (.int gap), .val (.int craw), .val (.int mode), .val (.int (1 : Int32)), .val (.int wv), .val (.long l0), .second, .val (.long l1), .second, .val (.long l2), .second, .val (.long g1), .second, .val (.long g2), .second, .val (.long a0), .second, .val (.long b0), .second, .unset, .unset, .unset, .unset, .unset, .unset, .unset, .unset, .unset, .unset, .unset, .unset, .unset, .unset, .unset, .unset, .unset, .unset, .unset]) at_90 rfl rfl ?_
    refine N.lload C (pc' := 94) at_92 rfl rfl ?_
    refine N.ldcL C (pc' := 97) (v := 2) at_94 (C.w (i := 1) rfl) rfl ?_
    refine N.ladd C (pc' := 98) at_97 rfl ?_
    refine N.lload C (pc' := 100) at_98 rfl rfl ?_
    refine N.ladd C (pc' := 101) at_100 rfl ?_
    have o2 := own_two
    have h_a1 : ((b0 + (2 : Int64)) + g1).toInt = b0.toInt + (2 : Int64).toInt + g1.toInt := by
      rw [own_addL (by first | omega | (rw [own_addL (by omega) (by omega) (by omega) (by omega)]; omega)) (by first | omega | (rw [own_addL (by omega) (by omega) (by omega) (by omega)]; omega)) (by first | omega | (rw [own_addL (by omega) (by omega) (by omega) (by omega)]; omega)) (by first | omega | (rw [own_addL (by omega) (by omega) (by omega) (by omega)]; omega))]; rw [own_addL (by first | omega | (rw [own_addL (by omega) (by omega) (by omega) (by omega)]; omega)) (by first | omega | (rw [own_addL (by omega) (by omega) (by omega) (by omega)]; omega)) (by first | omega | (rw [own_addL (by omega) (by omega) (by omega) (by omega)]; omega)) (by first | omega | (rw [own_addL (by omega) (by omega) (by omega) (by omega)]; omega))]
    generalize hd_a1 : ((b0 + (2 : Int64)) + g1) = a1 at *
    refine N.lstore C (pc' := 103) (ls' := #[.val (.int start), .val (.int len), .val (.int gap), .val (.int craw), .val (.int mode), .val (.int (1 : Int32)), .val (.int wv), .val (.long l0), .second, .val (.long l1), .second, .val (.long l2), .second, .val (.long g1), .second, .val (.long g2), .second, .val (.long a0), .second, .val (.long b0), .second, .val (.long a1), .second, .unset, .unset, .unset, .unset, .unset, .unset, .unset, .unset, .unset, .unset, .unset, .unset, .unset, .unset, .unset, .unset, .unset]) at_101 rfl rfl ?_
    refine N.lload C (pc' := 105) at_103 rfl rfl ?_
    refine N.lload C (pc' := 107) at_105 rfl rfl ?_
    refine N.ladd C (pc' := 108) at_107 rfl ?_
    have o2 := own_two
    have h_b1 : (a1 + l1).toInt = a1.toInt + l1.toInt := by
      rw [own_addL (by first | omega | (rw [own_addL (by omega) (by omega) (by omega) (by omega)]; omega)) (by first | omega | (rw [own_addL (by omega) (by omega) (by omega) (by omega)]; omega)) (by first | omega | (rw [own_addL (by omega) (by omega) (by omega) (by omega)]; omega)) (by first | omega | (rw [own_addL (by omega) (by omega) (by omega) (by omega)]; omega))]
    generalize hd_b1 : (a1 + l1) = b1 at *
    refine N.lstore C (pc' := 110) (ls' := #[.val (.int start), .val (.int len), .val (.int gap), .val (.int craw), .val (.int mode), .val (.int (1 : Int32)), .val (.int wv), .val (.long l0), .second, .val (.long l1), .second, .val (.long l2), .second, .val (.long g1), .second, .val (.long g2), .second, .val (.long a0), .second, .val (.long b0), .second, .val (.long a1), .second, .val (.long b1), .second, .unset, .unset, .unset, .unset, .unset, .unset, .unset, .unset, .unset, .unset, .unset, .unset, .unset, .unset, .unset]) at_108 rfl rfl ?_
    refine N.lload C (pc' := 112) at_110 rfl rfl ?_
    refine N.ldcL C (pc' := 115) (v := 2) at_112 (C.w (i := 1) rfl) rfl ?_
    refine N.ladd C (pc' := 116) at_115 rfl ?_
    refine N.lload C (pc' := 118) at_116 rfl rfl ?_
    refine N.ladd C (pc' := 119) at_118 rfl ?_
    have o2 := own_two
    have h_a2 : ((b1 + (2 : Int64)) + g2).toInt = b1.toInt + (2 : Int64).toInt + g2.toInt := by
      rw [own_addL (by first | omega | (rw [own_addL (by omega) (by omega) (by omega) (by omega)]; omega)) (by first | omega | (rw [own_addL (by omega) (by omega) (by omega) (by omega)]; omega)) (by first | omega | (rw [own_addL (by omega) (by omega) (by omega) (by omega)]; omega)) (by first | omega | (rw [own_addL (by omega) (by omega) (by omega) (by omega)]; omega))]; rw [own_addL (by first | omega | (rw [own_addL (by omega) (by omega) (by omega) (by omega)]; omega)) (by first | omega | (rw [own_addL (by omega) (by omega) (by omega) (by omega)]; omega)) (by first | omega | (rw [own_addL (by omega) (by omega) (by omega) (by omega)]; omega)) (by first | omega | (rw [own_addL (by omega) (by omega) (by omega) (by omega)]; omega))]
    generalize hd_a2 : ((b1 + (2 : Int64)) + g2) = a2 at *
    refine N.lstore C (pc' := 121) (ls' := #[.val (.int start), .val (.int len), .val (.int gap), .val (.int craw), .val (.int mode), .val (.int (1 : Int32)), .val (.int wv), .val (.long l0), .second, .val (.long l1), .second, .val (.long l2), .second, .val (.long g1), .second, .val (.long g2), .second, .val (.long a0), .second, .val (.long b0), .second, .val (.long a1), .second, .val (.long b1), .second, .val (.long a2), .second, .unset, .unset, .unset, .unset, .unset, .unset, .unset, .unset, .unset, .unset, .unset, .unset, .unset]) at_119 rfl rfl ?_
    refine N.lload C (pc' := 123) at_121 rfl rfl ?_
    refine N.lload C (pc' := 125) at_123 rfl rfl ?_
    refine N.ladd C (pc' := 126) at_125 rfl ?_
    have o2 := own_two
    have h_b2 : (a2 + l2).toInt = a2.toInt + l2.toInt := by
      rw [own_addL (by first | omega | (rw [own_addL (by omega) (by omega) (by omega) (by omega)]; omega)) (by first | omega | (rw [own_addL (by omega) (by omega) (by omega) (by omega)]; omega)) (by first | omega | (rw [own_addL (by omega) (by omega) (by omega) (by omega)]; omega)) (by first | omega | (rw [own_addL (by omega) (by omega) (by omega) (by omega)]; omega))]
    generalize hd_b2 : (a2 + l2) = b2 at *
    refine N.lstore C (pc' := 128) (ls' := #[.val (.int start), .val (.int len), .val (.int gap), .val (.int craw), .val (.int mode), .val (.int (1 : Int32)), .val (.int wv), .val (.long l0), .second, .val (.long l1), .second, .val (.long l2), .second, .val (.long g1), .second, .val (.long g2), .second, .val (.long a0), .second, .val (.long b0), .second, .val (.long a1), .second, .val (.long b1), .second, .val (.long a2), .second, .val (.long b2), .second, .unset, .unset, .unset, .unset, .unset, .unset, .unset, .unset, .unset, .unset, .unset]) at_126 rfl rfl ?_
    refine N.iload C (pc' := 130) at_128 rfl rfl ?_
    refine N.iconst C (pc' := 131) (z := 1) at_130 rfl rfl ?_
    refine N.icmp C (pt := 139) (pf := 134) at_131 rfl rfl (fun (q : ¬ (1 : Int32) = (1 : Int32)) => absurd q (by decide)) (fun _ => ?_)
    refine N.lload C (pc' := 136) at_134 rfl rfl ?_
    refine N.goto C (pc' := 152) at_136 rfl ?_
    refine N.lstore C (pc' := 154) (ls' := #[.val (.int start), .val (.int len), .val (.int gap), .val (.int craw), .val (.int mode), .val (.int (1 : Int32)), .val (.int wv), .val (.long l0), .second, .val (.long l1), .second, .val (.long l2), .second, .val (.long g1), .second, .val (.long g2), .second, .val (.long a0), .second, .val (.long b0), .second, .val (.long a1), .second, .val (.long b1), .second, .val (.long a2), .second, .val (.long b2), .second, .val (.long b0), .second, .unset, .unset, .unset, .unset, .unset, .unset, .unset, .unset, .unset]) at_152 rfl rfl ?_
    refine N.iload C (pc' := 156) at_154 rfl rfl ?_
    refine N.ifc C (pt := 170) (pf := 159) at_156 rfl rfl (fun (q : 1 ≤ 0) => absurd q (by decide)) (fun _ => ?_)
    refine N.lload C (pc' := 161) at_159 rfl rfl ?_
    refine N.ldcL C (pc' := 164) (v := 2147483647) at_161 (C.w (i := 24) rfl) rfl ?_
    refine N.lcmp C (pc' := 165) at_164 rfl ?_
    refine N.lif C (pt := 170) (pf := 168) at_165 rfl rfl (fun (hc165 : b0.toInt ≤ 2147483647) => ?_) (fun (hc165 : 2147483647 < b0.toInt) => ?_)
    · refine N.iconst C (pc' := 171) (z := 2) at_170 rfl rfl ?_
      refine N.iload C (pc' := 173) at_171 rfl rfl ?_
      refine N.imul C (pc' := 174) at_173 rfl ?_
      show N G K room_1 Q h 0 0 174 #[.val (.int start), .val (.int len), .val (.int gap), .val (.int craw), .val (.int mode), .val (.int (1 : Int32)), .val (.int wv), .val (.long l0), .second, .val (.long l1), .second, .val (.long l2), .second, .val (.long g1), .second, .val (.long g2), .second, .val (.long a0), .second, .val (.long b0), .second, .val (.long a1), .second, .val (.long b1), .second, .val (.long a2), .second, .val (.long b2), .second, .val (.long b0), .second, .unset, .unset, .unset, .unset, .unset, .unset, .unset, .unset, .unset] [(.int (2 : Int32))]
      refine N.newP C (pc' := 176) (n := (2 : Int32)) 2 at_174 (C.w (i := 2) rfl) (by decide) (by decide) (by decide) (by decide) (by decide) rfl (fun h174_1 r hx_r Ex174 A'_r => ?_)
      have g_r : G.n0 ≤ r := by rw [hx_r]; exact Z0
      have Z0 := Nat.le_trans Z0 Ex174.1
      have A_r : Av G.Z h174_1 r .int [(.int (0 : Int32)), (.int (0 : Int32))] := A'_r
      refine N.astore C (pc' := 178) (ls' := #[.val (.int start), .val (.int len), .val (.int gap), .val (.int craw), .val (.int mode), .val (.int (1 : Int32)), .val (.int wv), .val (.long l0), .second, .val (.long l1), .second, .val (.long l2), .second, .val (.long g1), .second, .val (.long g2), .second, .val (.long a0), .second, .val (.long b0), .second, .val (.long a1), .second, .val (.long b1), .second, .val (.long a2), .second, .val (.long b2), .second, .val (.long b0), .second, .val (.ref r), .unset, .unset, .unset, .unset, .unset, .unset, .unset, .unset]) at_176 rfl rfl rfl ?_
      refine N.iload C (pc' := 180) at_178 rfl rfl ?_
      refine N.iconst C (pc' := 181) (z := 1) at_180 rfl rfl ?_
      refine N.icmp C (pt := 198) (pf := 184) at_181 rfl rfl (fun (q : 1 < 1) => absurd q (by decide)) (fun _ => ?_)
      refine N.aload C (pc' := 186) at_184 rfl rfl rfl ?_
      refine N.iconst C (pc' := 187) (z := 0) at_186 rfl rfl ?_
      refine N.lload C (pc' := 189) at_187 rfl rfl ?_
      refine N.l2i C (pc' := 190) at_189 rfl ?_
      refine N.iastore C (pc' := 191) (i := 0) at_190 A_r rfl (show 0 < 2 from by decide) g_r rfl (fun h190_2 W190 A_r => ?_)
      have Z0 : G.n0 ≤ _ := (Wr.size W190).symm ▸ Z0
      have A_r : Av G.Z h190_2 r .int [(.int (a0.toInt32)), (.int (0 : Int32))] := A_r
      refine N.aload C (pc' := 193) at_191 rfl rfl rfl ?_
      refine N.iconst C (pc' := 194) (z := 1) at_193 rfl rfl ?_
      refine N.lload C (pc' := 196) at_194 rfl rfl ?_
      refine N.l2i C (pc' := 197) at_196 rfl ?_
      refine N.iastore C (pc' := 198) (i := 1) at_197 A_r rfl (show 1 < 2 from by decide) g_r rfl (fun h197_3 W197 A_r => ?_)
      have Z0 : G.n0 ≤ _ := (Wr.size W197).symm ▸ Z0
      have A_r : Av G.Z h197_3 r .int [(.int (a0.toInt32)), (.int (b0.toInt32))] := A_r
      refine N.iload C (pc' := 200) at_198 rfl rfl ?_
      refine N.iconst C (pc' := 201) (z := 2) at_200 rfl rfl ?_
      refine N.icmp C (pt := 218) (pf := 204) at_201 rfl rfl (fun _ => ?_) (fun (q : 2 ≤ 1) => absurd q (by decide))
      refine N.iload C (pc' := 220) at_218 rfl rfl ?_
      refine N.iconst C (pc' := 221) (z := 3) at_220 rfl rfl ?_
      refine N.icmp C (pt := 238) (pf := 224) at_221 rfl rfl (fun _ => ?_) (fun (q : 3 ≤ 1) => absurd q (by decide))
      refine N.iload C (pc' := 240) at_238 rfl rfl ?_
      refine N.iconst C (pc' := 241) (z := 3) at_240 rfl rfl ?_
      refine N.iushr C (pc' := 242) at_241 rfl ?_
      refine N.bipush C (pc' := 244) (z := 7) at_242 rfl rfl ?_
      refine N.iand C (pc' := 245) at_244 rfl ?_
      refine N.istore C (pc' := 247) (ls' := #[.val (.int start), .val (.int len), .val (.int gap), .val (.int craw), .val (.int mode), .val (.int (1 : Int32)), .val (.int wv), .val (.long l0), .second, .val (.long l1), .second, .val (.long l2), .second, .val (.long g1), .second, .val (.long g2), .second, .val (.long a0), .second, .val (.long b0), .second, .val (.long a1), .second, .val (.long b1), .second, .val (.long a2), .second, .val (.long b2), .second, .val (.long b0), .second, .val (.ref r), .val (.int (((mode.toUInt32 >>> ((3 : Int32) &&& 31).toUInt32).toInt32) &&& (7 : Int32))), .unset, .unset, .unset, .unset, .unset, .unset, .unset]) at_245 rfl rfl ?_
      refine N.iload C (pc' := 249) at_247 rfl rfl ?_
      refine N.bipush C (pc' := 251) (z := 6) at_249 rfl rfl ?_
      refine N.iushr C (pc' := 252) at_251 rfl ?_
      refine N.iconst C (pc' := 253) (z := 3) at_252 rfl rfl ?_
      refine N.iand C (pc' := 254) at_253 rfl ?_
      refine N.iconst C (pc' := 255) (z := 1) at_254 rfl rfl ?_
      refine N.isub C (pc' := 256) at_255 rfl ?_
      refine N.i2l C (pc' := 257) at_256 rfl ?_
      refine N.lstore C (pc' := 259) (ls' := #[.val (.int start), .val (.int len), .val (.int gap), .val (.int craw), .val (.int mode), .val (.int (1 : Int32)), .val (.int wv), .val (.long l0), .second, .val (.long l1), .second, .val (.long l2), .second, .val (.long g1), .second, .val (.long g2), .second, .val (.long a0), .second, .val (.long b0), .second, .val (.long a1), .second, .val (.long b1), .second, .val (.long a2), .second, .val (.long b2), .second, .val (.long b0), .second, .val (.ref r), .val (.int (((mode.toUInt32 >>> ((3 : Int32) &&& 31).toUInt32).toInt32) &&& (7 : Int32))), .val (.long (((((mode.toUInt32 >>> ((6 : Int32) &&& 31).toUInt32).toInt32) &&& (3 : Int32)) - (1 : Int32)).toInt64)), .second, .unset, .unset, .unset, .unset, .unset]) at_257 rfl rfl ?_
      suffices j365 : ∀ (c : Int32), N G K room_1 Q h197_3 (0 + 1) (0 + 2) 365 #[.val (.int start), .val (.int len), .val (.int gap), .val (.int craw), .val (.int mode), .val (.int (1 : Int32)), .val (.int wv), .val (.long l0), .second, .val (.long l1), .second, .val (.long l2), .second, .val (.long g1), .second, .val (.long g2), .second, .val (.long a0), .second, .val (.long b0), .second, .val (.long a1), .second, .val (.long b1), .second, .val (.long a2), .second, .val (.long b2), .second, .val (.long b0), .second, .val (.ref r), .val (.int (((mode.toUInt32 >>> ((3 : Int32) &&& 31).toUInt32).toInt32) &&& (7 : Int32))), .val (.long (((((mode.toUInt32 >>> ((6 : Int32) &&& 31).toUInt32).toInt32) &&& (3 : Int32)) - (1 : Int32)).toInt64)), .second, .val (.int c), .unset, .unset, .unset, .unset] [] by
        refine N.iload C (pc' := 261) at_259 rfl rfl ?_
        refine N.iconst C (pc' := 262) (z := 1) at_261 rfl rfl ?_
        refine N.icmp C (pt := 276) (pf := 265) at_262 rfl rfl (fun (hc262 : ¬ (((mode.toUInt32 >>> ((3 : Int32) &&& 31).toUInt32).toInt32) &&& (7 : Int32)) = (1 : Int32)) => ?_) (fun (hc262 : (((mode.toUInt32 >>> ((3 : Int32) &&& 31).toUInt32).toInt32) &&& (7 : Int32)) = (1 : Int32)) => ?_)
        · have hi262 : ¬ (((mode.toUInt32 >>> ((3 : Int32) &&& 31).toUInt32).toInt32) &&& (7 : Int32)).toInt = 1 := neI hc262
          refine N.iload C (pc' := 278) at_276 rfl rfl ?_
          refine N.iconst C (pc' := 279) (z := 2) at_278 rfl rfl ?_
          refine N.icmp C (pt := 293) (pf := 282) at_279 rfl rfl (fun (hc279 : ¬ (((mode.toUInt32 >>> ((3 : Int32) &&& 31).toUInt32).toInt32) &&& (7 : Int32)) = (2 : Int32)) => ?_) (fun (hc279 : (((mode.toUInt32 >>> ((3 : Int32) &&& 31).toUInt32).toInt32) &&& (7 : Int32)) = (2 : Int32)) => ?_)
          · have hi279 : ¬ (((mode.toUInt32 >>> ((3 : Int32) &&& 31).toUInt32).toInt32) &&& (7 : Int32)).toInt = 2 := neI hc279
            refine N.iload C (pc' := 295) at_293 rfl rfl ?_
            refine N.iconst C (pc' := 296) (z := 3) at_295 rfl rfl ?_
            refine N.icmp C (pt := 310) (pf := 299) at_296 rfl rfl (fun (hc296 : ¬ (((mode.toUInt32 >>> ((3 : Int32) &&& 31).toUInt32).toInt32) &&& (7 : Int32)) = (3 : Int32)) => ?_) (fun (hc296 : (((mode.toUInt32 >>> ((3 : Int32) &&& 31).toUInt32).toInt32) &&& (7 : Int32)) = (3 : Int32)) => ?_)
            · have hi296 : ¬ (((mode.toUInt32 >>> ((3 : Int32) &&& 31).toUInt32).toInt32) &&& (7 : Int32)).toInt = 3 := neI hc296
              refine N.iload C (pc' := 312) at_310 rfl rfl ?_
              refine N.iconst C (pc' := 313) (z := 4) at_312 rfl rfl ?_
              refine N.icmp C (pt := 327) (pf := 316) at_313 rfl rfl (fun (hc313 : ¬ (((mode.toUInt32 >>> ((3 : Int32) &&& 31).toUInt32).toInt32) &&& (7 : Int32)) = (4 : Int32)) => ?_) (fun (hc313 : (((mode.toUInt32 >>> ((3 : Int32) &&& 31).toUInt32).toInt32) &&& (7 : Int32)) = (4 : Int32)) => ?_)
              · have hi313 : ¬ (((mode.toUInt32 >>> ((3 : Int32) &&& 31).toUInt32).toInt32) &&& (7 : Int32)).toInt = 4 := neI hc313
                refine N.iload C (pc' := 329) at_327 rfl rfl ?_
                refine N.iconst C (pc' := 330) (z := 5) at_329 rfl rfl ?_
                refine N.icmp C (pt := 344) (pf := 333) at_330 rfl rfl (fun (hc330 : ¬ (((mode.toUInt32 >>> ((3 : Int32) &&& 31).toUInt32).toInt32) &&& (7 : Int32)) = (5 : Int32)) => ?_) (fun (hc330 : (((mode.toUInt32 >>> ((3 : Int32) &&& 31).toUInt32).toInt32) &&& (7 : Int32)) = (5 : Int32)) => ?_)
                · have hi330 : ¬ (((mode.toUInt32 >>> ((3 : Int32) &&& 31).toUInt32).toInt32) &&& (7 : Int32)).toInt = 5 := neI hc330
                  refine N.iload C (pc' := 346) at_344 rfl rfl ?_
                  refine N.bipush C (pc' := 348) (z := 6) at_346 rfl rfl ?_
                  refine N.icmp C (pt := 362) (pf := 351) at_348 rfl rfl (fun (hc348 : ¬ (((mode.toUInt32 >>> ((3 : Int32) &&& 31).toUInt32).toInt32) &&& (7 : Int32)) = (6 : Int32)) => ?_) (fun (hc348 : (((mode.toUInt32 >>> ((3 : Int32) &&& 31).toUInt32).toInt32) &&& (7 : Int32)) = (6 : Int32)) => ?_)
                  · have hi348 : ¬ (((mode.toUInt32 >>> ((3 : Int32) &&& 31).toUInt32).toInt32) &&& (7 : Int32)).toInt = 6 := neI hc348
                    refine N.iloadN C (pc' := 363) at_362 rfl rfl ?_
                    refine N.istore C (pc' := 365) (ls' := #[.val (.int start), .val (.int len), .val (.int gap), .val (.int craw), .val (.int mode), .val (.int (1 : Int32)), .val (.int wv), .val (.long l0), .second, .val (.long l1), .second, .val (.long l2), .second, .val (.long g1), .second, .val (.long g2), .second, .val (.long a0), .second, .val (.long b0), .second, .val (.long a1), .second, .val (.long b1), .second, .val (.long a2), .second, .val (.long b2), .second, .val (.long b0), .second, .val (.ref r), .val (.int (((mode.toUInt32 >>> ((3 : Int32) &&& 31).toUInt32).toInt32) &&& (7 : Int32))), .val (.long (((((mode.toUInt32 >>> ((6 : Int32) &&& 31).toUInt32).toInt32) &&& (3 : Int32)) - (1 : Int32)).toInt64)), .second, .val (.int craw), .unset, .unset, .unset, .unset]) at_363 rfl rfl ?_
                    exact j365 _
                  · have hi348 : (((mode.toUInt32 >>> ((3 : Int32) &&& 31).toUInt32).toInt32) &&& (7 : Int32)).toInt = 6 := eqI hc348
                    refine N.lload C (pc' := 353) at_351 rfl rfl ?_
                    refine N.lload C (pc' := 355) at_353 rfl rfl ?_
                    refine N.ladd C (pc' := 356) at_355 rfl ?_
                    refine N.l2i C (pc' := 357) at_356 rfl ?_
                    refine N.istore C (pc' := 359) (ls' := #[.val (.int start), .val (.int len), .val (.int gap), .val (.int craw), .val (.int mode), .val (.int (1 : Int32)), .val (.int wv), .val (.long l0), .second, .val (.long l1), .second, .val (.long l2), .second, .val (.long g1), .second, .val (.long g2), .second, .val (.long a0), .second, .val (.long b0), .second, .val (.long a1), .second, .val (.long b1), .second, .val (.long a2), .second, .val (.long b2), .second, .val (.long b0), .second, .val (.ref r), .val (.int (((mode.toUInt32 >>> ((3 : Int32) &&& 31).toUInt32).toInt32) &&& (7 : Int32))), .val (.long (((((mode.toUInt32 >>> ((6 : Int32) &&& 31).toUInt32).toInt32) &&& (3 : Int32)) - (1 : Int32)).toInt64)), .second, .val (.int ((b2 + (((((mode.toUInt32 >>> ((6 : Int32) &&& 31).toUInt32).toInt32) &&& (3 : Int32)) - (1 : Int32)).toInt64)).toInt32)), .unset, .unset, .unset, .unset]) at_357 rfl rfl ?_
                    refine N.goto C (pc' := 365) at_359 rfl ?_
                    exact j365 _
                · have hi330 : (((mode.toUInt32 >>> ((3 : Int32) &&& 31).toUInt32).toInt32) &&& (7 : Int32)).toInt = 5 := eqI hc330
                  refine N.lload C (pc' := 335) at_333 rfl rfl ?_
                  refine N.lload C (pc' := 337) at_335 rfl rfl ?_
                  refine N.ladd C (pc' := 338) at_337 rfl ?_
                  refine N.l2i C (pc' := 339) at_338 rfl ?_
                  refine N.istore C (pc' := 341) (ls' := #[.val (.int start), .val (.int len), .val (.int gap), .val (.int craw), .val (.int mode), .val (.int (1 : Int32)), .val (.int wv), .val (.long l0), .second, .val (.long l1), .second, .val (.long l2), .second, .val (.long g1), .second, .val (.long g2), .second, .val (.long a0), .second, .val (.long b0), .second, .val (.long a1), .second, .val (.long b1), .second, .val (.long a2), .second, .val (.long b2), .second, .val (.long b0), .second, .val (.ref r), .val (.int (((mode.toUInt32 >>> ((3 : Int32) &&& 31).toUInt32).toInt32) &&& (7 : Int32))), .val (.long (((((mode.toUInt32 >>> ((6 : Int32) &&& 31).toUInt32).toInt32) &&& (3 : Int32)) - (1 : Int32)).toInt64)), .second, .val (.int ((a2 + (((((mode.toUInt32 >>> ((6 : Int32) &&& 31).toUInt32).toInt32) &&& (3 : Int32)) - (1 : Int32)).toInt64)).toInt32)), .unset, .unset, .unset, .unset]) at_339 rfl rfl ?_
                  refine N.goto C (pc' := 365) at_341 rfl ?_
                  exact j365 _
              · have hi313 : (((mode.toUInt32 >>> ((3 : Int32) &&& 31).toUInt32).toInt32) &&& (7 : Int32)).toInt = 4 := eqI hc313
                refine N.lload C (pc' := 318) at_316 rfl rfl ?_
                refine N.lload C (pc' := 320) at_318 rfl rfl ?_
                refine N.ladd C (pc' := 321) at_320 rfl ?_
                refine N.l2i C (pc' := 322) at_321 rfl ?_
                refine N.istore C (pc' := 324) (ls' := #[.val (.int start), .val (.int len), .val (.int gap), .val (.int craw), .val (.int mode), .val (.int (1 : Int32)), .val (.int wv), .val (.long l0), .second, .val (.long l1), .second, .val (.long l2), .second, .val (.long g1), .second, .val (.long g2), .second, .val (.long a0), .second, .val (.long b0), .second, .val (.long a1), .second, .val (.long b1), .second, .val (.long a2), .second, .val (.long b2), .second, .val (.long b0), .second, .val (.ref r), .val (.int (((mode.toUInt32 >>> ((3 : Int32) &&& 31).toUInt32).toInt32) &&& (7 : Int32))), .val (.long (((((mode.toUInt32 >>> ((6 : Int32) &&& 31).toUInt32).toInt32) &&& (3 : Int32)) - (1 : Int32)).toInt64)), .second, .val (.int ((b1 + (((((mode.toUInt32 >>> ((6 : Int32) &&& 31).toUInt32).toInt32) &&& (3 : Int32)) - (1 : Int32)).toInt64)).toInt32)), .unset, .unset, .unset, .unset]) at_322 rfl rfl ?_
                refine N.goto C (pc' := 365) at_324 rfl ?_
                exact j365 _
            · have hi296 : (((mode.toUInt32 >>> ((3 : Int32) &&& 31).toUInt32).toInt32) &&& (7 : Int32)).toInt = 3 := eqI hc296
              refine N.lload C (pc' := 301) at_299 rfl rfl ?_
              refine N.lload C (pc' := 303) at_301 rfl rfl ?_
              refine N.ladd C (pc' := 304) at_303 rfl ?_
              refine N.l2i C (pc' := 305) at_304 rfl ?_
              refine N.istore C (pc' := 307) (ls' := #[.val (.int start), .val (.int len), .val (.int gap), .val (.int craw), .val (.int mode), .val (.int (1 : Int32)), .val (.int wv), .val (.long l0), .second, .val (.long l1), .second, .val (.long l2), .second, .val (.long g1), .second, .val (.long g2), .second, .val (.long a0), .second, .val (.long b0), .second, .val (.long a1), .second, .val (.long b1), .second, .val (.long a2), .second, .val (.long b2), .second, .val (.long b0), .second, .val (.ref r), .val (.int (((mode.toUInt32 >>> ((3 : Int32) &&& 31).toUInt32).toInt32) &&& (7 : Int32))), .val (.long (((((mode.toUInt32 >>> ((6 : Int32) &&& 31).toUInt32).toInt32) &&& (3 : Int32)) - (1 : Int32)).toInt64)), .second, .val (.int ((a1 + (((((mode.toUInt32 >>> ((6 : Int32) &&& 31).toUInt32).toInt32) &&& (3 : Int32)) - (1 : Int32)).toInt64)).toInt32)), .unset, .unset, .unset, .unset]) at_305 rfl rfl ?_
              refine N.goto C (pc' := 365) at_307 rfl ?_
              exact j365 _
          · have hi279 : (((mode.toUInt32 >>> ((3 : Int32) &&& 31).toUInt32).toInt32) &&& (7 : Int32)).toInt = 2 := eqI hc279
            refine N.lload C (pc' := 284) at_282 rfl rfl ?_
            refine N.lload C (pc' := 286) at_284 rfl rfl ?_
            refine N.ladd C (pc' := 287) at_286 rfl ?_
            refine N.l2i C (pc' := 288) at_287 rfl ?_
            refine N.istore C (pc' := 290) (ls' := #[.val (.int start), .val (.int len), .val (.int gap), .val (.int craw), .val (.int mode), .val (.int (1 : Int32)), .val (.int wv), .val (.long l0), .second, .val (.long l1), .second, .val (.long l2), .second, .val (.long g1), .second, .val (.long g2), .second, .val (.long a0), .second, .val (.long b0), .second, .val (.long a1), .second, .val (.long b1), .second, .val (.long a2), .second, .val (.long b2), .second, .val (.long b0), .second, .val (.ref r), .val (.int (((mode.toUInt32 >>> ((3 : Int32) &&& 31).toUInt32).toInt32) &&& (7 : Int32))), .val (.long (((((mode.toUInt32 >>> ((6 : Int32) &&& 31).toUInt32).toInt32) &&& (3 : Int32)) - (1 : Int32)).toInt64)), .second, .val (.int ((b0 + (((((mode.toUInt32 >>> ((6 : Int32) &&& 31).toUInt32).toInt32) &&& (3 : Int32)) - (1 : Int32)).toInt64)).toInt32)), .unset, .unset, .unset, .unset]) at_288 rfl rfl ?_
            refine N.goto C (pc' := 365) at_290 rfl ?_
            exact j365 _
        · have hi262 : (((mode.toUInt32 >>> ((3 : Int32) &&& 31).toUInt32).toInt32) &&& (7 : Int32)).toInt = 1 := eqI hc262
          refine N.lload C (pc' := 267) at_265 rfl rfl ?_
          refine N.lload C (pc' := 269) at_267 rfl rfl ?_
          refine N.ladd C (pc' := 270) at_269 rfl ?_
          refine N.l2i C (pc' := 271) at_270 rfl ?_
          refine N.istore C (pc' := 273) (ls' := #[.val (.int start), .val (.int len), .val (.int gap), .val (.int craw), .val (.int mode), .val (.int (1 : Int32)), .val (.int wv), .val (.long l0), .second, .val (.long l1), .second, .val (.long l2), .second, .val (.long g1), .second, .val (.long g2), .second, .val (.long a0), .second, .val (.long b0), .second, .val (.long a1), .second, .val (.long b1), .second, .val (.long a2), .second, .val (.long b2), .second, .val (.long b0), .second, .val (.ref r), .val (.int (((mode.toUInt32 >>> ((3 : Int32) &&& 31).toUInt32).toInt32) &&& (7 : Int32))), .val (.long (((((mode.toUInt32 >>> ((6 : Int32) &&& 31).toUInt32).toInt32) &&& (3 : Int32)) - (1 : Int32)).toInt64)), .second, .val (.int ((a0 + (((((mode.toUInt32 >>> ((6 : Int32) &&& 31).toUInt32).toInt32) &&& (3 : Int32)) - (1 : Int32)).toInt64)).toInt32)), .unset, .unset, .unset, .unset]) at_271 rfl rfl ?_
          refine N.goto C (pc' := 365) at_273 rfl ?_
          exact j365 _
      intro c
      have h_c : c.toInt64.toInt = c.toInt := c_i2l c
      refine N.iload C (pc' := 367) at_365 rfl rfl ?_
      refine N.i2l C (pc' := 368) at_367 rfl ?_
      refine N.lstore C (pc' := 370) (ls' := #[.val (.int start), .val (.int len), .val (.int gap), .val (.int craw), .val (.int mode), .val (.int (1 : Int32)), .val (.int wv), .val (.long l0), .second, .val (.long l1), .second, .val (.long l2), .second, .val (.long g1), .second, .val (.long g2), .second, .val (.long a0), .second, .val (.long b0), .second, .val (.long a1), .second, .val (.long b1), .second, .val (.long a2), .second, .val (.long b2), .second, .val (.long b0), .second, .val (.ref r), .val (.int (((mode.toUInt32 >>> ((3 : Int32) &&& 31).toUInt32).toInt32) &&& (7 : Int32))), .val (.long (((((mode.toUInt32 >>> ((6 : Int32) &&& 31).toUInt32).toInt32) &&& (3 : Int32)) - (1 : Int32)).toInt64)), .second, .val (.int c), .val (.long (c.toInt64)), .second, .unset, .unset]) at_368 rfl rfl ?_
      suffices j443 : ∀ (ev : Int32), (ev = (1 : Int32) ∧ ((a0.toInt ≤ c.toInt ∧ c.toInt ≤ b0.toInt))) ∨ (ev = (0 : Int32) ∧ ¬ ((a0.toInt ≤ c.toInt ∧ c.toInt ≤ b0.toInt))) → N G K room_1 Q h197_3 (0 + 1) (0 + 2) 443 #[.val (.int start), .val (.int len), .val (.int gap), .val (.int craw), .val (.int mode), .val (.int (1 : Int32)), .val (.int wv), .val (.long l0), .second, .val (.long l1), .second, .val (.long l2), .second, .val (.long g1), .second, .val (.long g2), .second, .val (.long a0), .second, .val (.long b0), .second, .val (.long a1), .second, .val (.long b1), .second, .val (.long a2), .second, .val (.long b2), .second, .val (.long b0), .second, .val (.ref r), .val (.int (((mode.toUInt32 >>> ((3 : Int32) &&& 31).toUInt32).toInt32) &&& (7 : Int32))), .val (.long (((((mode.toUInt32 >>> ((6 : Int32) &&& 31).toUInt32).toInt32) &&& (3 : Int32)) - (1 : Int32)).toInt64)), .second, .val (.int c), .val (.long (c.toInt64)), .second, .val (.int ev), .unset] [] by
        refine N.iload C (pc' := 372) at_370 rfl rfl ?_
        refine N.iconst C (pc' := 373) (z := 1) at_372 rfl rfl ?_
        refine N.icmp C (pt := 392) (pf := 376) at_373 rfl rfl (fun (q : 1 < 1) => absurd q (by decide)) (fun _ => ?_)
        refine N.lload C (pc' := 378) at_376 rfl rfl ?_
        refine N.lload C (pc' := 380) at_378 rfl rfl ?_
        refine N.lcmp C (pc' := 381) at_380 rfl ?_
        refine N.lif C (pt := 392) (pf := 384) at_381 rfl rfl (fun (hc381 : (c.toInt64).toInt < a0.toInt) => ?_) (fun (hc381 : a0.toInt ≤ (c.toInt64).toInt) => ?_)
        · refine N.iload C (pc' := 394) at_392 rfl rfl ?_
          refine N.iconst C (pc' := 395) (z := 2) at_394 rfl rfl ?_
          refine N.icmp C (pt := 414) (pf := 398) at_395 rfl rfl (fun _ => ?_) (fun (q : 2 ≤ 1) => absurd q (by decide))
          refine N.iload C (pc' := 416) at_414 rfl rfl ?_
          refine N.iconst C (pc' := 417) (z := 3) at_416 rfl rfl ?_
          refine N.icmp C (pt := 440) (pf := 420) at_417 rfl rfl (fun _ => ?_) (fun (q : 3 ≤ 1) => absurd q (by decide))
          refine N.iconst C (pc' := 441) (z := 0) at_440 rfl rfl ?_
          refine N.istore C (pc' := 443) (ls' := #[.val (.int start), .val (.int len), .val (.int gap), .val (.int craw), .val (.int mode), .val (.int (1 : Int32)), .val (.int wv), .val (.long l0), .second, .val (.long l1), .second, .val (.long l2), .second, .val (.long g1), .second, .val (.long g2), .second, .val (.long a0), .second, .val (.long b0), .second, .val (.long a1), .second, .val (.long b1), .second, .val (.long a2), .second, .val (.long b2), .second, .val (.long b0), .second, .val (.ref r), .val (.int (((mode.toUInt32 >>> ((3 : Int32) &&& 31).toUInt32).toInt32) &&& (7 : Int32))), .val (.long (((((mode.toUInt32 >>> ((6 : Int32) &&& 31).toUInt32).toInt32) &&& (3 : Int32)) - (1 : Int32)).toInt64)), .second, .val (.int c), .val (.long (c.toInt64)), .second, .val (.int (0 : Int32)), .unset]) at_441 rfl rfl ?_
          exact j443 _ (Or.inr ⟨rfl, by omega⟩)
        · refine N.lload C (pc' := 386) at_384 rfl rfl ?_
          refine N.lload C (pc' := 388) at_386 rfl rfl ?_
          refine N.lcmp C (pc' := 389) at_388 rfl ?_
          refine N.lif C (pt := 436) (pf := 392) at_389 rfl rfl (fun (hc389 : (c.toInt64).toInt ≤ b0.toInt) => ?_) (fun (hc389 : b0.toInt < (c.toInt64).toInt) => ?_)
          · refine N.iconst C (pc' := 437) (z := 1) at_436 rfl rfl ?_
            refine N.goto C (pc' := 441) at_437 rfl ?_
            refine N.istore C (pc' := 443) (ls' := #[.val (.int start), .val (.int len), .val (.int gap), .val (.int craw), .val (.int mode), .val (.int (1 : Int32)), .val (.int wv), .val (.long l0), .second, .val (.long l1), .second, .val (.long l2), .second, .val (.long g1), .second, .val (.long g2), .second, .val (.long a0), .second, .val (.long b0), .second, .val (.long a1), .second, .val (.long b1), .second, .val (.long a2), .second, .val (.long b2), .second, .val (.long b0), .second, .val (.ref r), .val (.int (((mode.toUInt32 >>> ((3 : Int32) &&& 31).toUInt32).toInt32) &&& (7 : Int32))), .val (.long (((((mode.toUInt32 >>> ((6 : Int32) &&& 31).toUInt32).toInt32) &&& (3 : Int32)) - (1 : Int32)).toInt64)), .second, .val (.int c), .val (.long (c.toInt64)), .second, .val (.int (1 : Int32)), .unset]) at_441 rfl rfl ?_
            exact j443 _ (Or.inl ⟨rfl, by omega⟩)
          · refine N.iload C (pc' := 394) at_392 rfl rfl ?_
            refine N.iconst C (pc' := 395) (z := 2) at_394 rfl rfl ?_
            refine N.icmp C (pt := 414) (pf := 398) at_395 rfl rfl (fun _ => ?_) (fun (q : 2 ≤ 1) => absurd q (by decide))
            refine N.iload C (pc' := 416) at_414 rfl rfl ?_
            refine N.iconst C (pc' := 417) (z := 3) at_416 rfl rfl ?_
            refine N.icmp C (pt := 440) (pf := 420) at_417 rfl rfl (fun _ => ?_) (fun (q : 3 ≤ 1) => absurd q (by decide))
            refine N.iconst C (pc' := 441) (z := 0) at_440 rfl rfl ?_
            refine N.istore C (pc' := 443) (ls' := #[.val (.int start), .val (.int len), .val (.int gap), .val (.int craw), .val (.int mode), .val (.int (1 : Int32)), .val (.int wv), .val (.long l0), .second, .val (.long l1), .second, .val (.long l2), .second, .val (.long g1), .second, .val (.long g2), .second, .val (.long a0), .second, .val (.long b0), .second, .val (.long a1), .second, .val (.long b1), .second, .val (.long a2), .second, .val (.long b2), .second, .val (.long b0), .second, .val (.ref r), .val (.int (((mode.toUInt32 >>> ((3 : Int32) &&& 31).toUInt32).toInt32) &&& (7 : Int32))), .val (.long (((((mode.toUInt32 >>> ((6 : Int32) &&& 31).toUInt32).toInt32) &&& (3 : Int32)) - (1 : Int32)).toInt64)), .second, .val (.int c), .val (.long (c.toInt64)), .second, .val (.int (0 : Int32)), .unset]) at_441 rfl rfl ?_
            exact j443 _ (Or.inr ⟨rfl, by omega⟩)
      intro ev hev
      show N G K room_1 Q h197_3 (0 + 1) (0 + 2) 443 #[.val (.int start), .val (.int len), .val (.int gap), .val (.int craw), .val (.int mode), .val (.int (1 : Int32)), .val (.int wv), .val (.long l0), .second, .val (.long l1), .second, .val (.long l2), .second, .val (.long g1), .second, .val (.long g2), .second, .val (.long a0), .second, .val (.long b0), .second, .val (.long a1), .second, .val (.long b1), .second, .val (.long a2), .second, .val (.long b2), .second, .val (.long b0), .second, .val (.ref r), .val (.int (((mode.toUInt32 >>> ((3 : Int32) &&& 31).toUInt32).toInt32) &&& (7 : Int32))), .val (.long (((((mode.toUInt32 >>> ((6 : Int32) &&& 31).toUInt32).toInt32) &&& (3 : Int32)) - (1 : Int32)).toInt64)), .second, .val (.int c), .val (.long (c.toInt64)), .second, .val (.int ev), .unset] []
      refine N.newO C (pc' := 446) at_443 (C.w (i := 3) rfl) (C.w (i := 4) rfl) (C.w (i := 5) rfl) (by decide) (by decide) rfl (fun h443_4 x hx_x Ex443 E_x D_x => ?_)
      have ne_r_x : r ≠ x := by rw [hx_x]; exact Nat.ne_of_lt A_r.lt
      have ne_x_r := Ne.symm ne_r_x
      have g_x : G.n0 ≤ x := by rw [hx_x]; exact Z0
      have Z0 := Nat.le_trans Z0 Ex443.1
      have A_r := A_r.ext Ex443
      have F_x_ranges : Fld G.Z h443_4 x "quadrille/CharacterClass$Span" "ranges" "[I" .null := D_x (Or.inr (C.w (i := 18) rfl)) (ty := (.array .int)) (by decide)
      refine N.dup C (pc' := 447) at_446 rfl rfl ?_
      refine N.aload C (pc' := 449) at_447 rfl rfl rfl ?_
      refine N.callI C (pc' := 452) x [(.ref r)] at_449 rfl (C.w (i := 6) rfl) (C.w (i := 7) rfl) (C.w (i := 5) rfl) (C.w (i := 8) rfl) (by decide) (con1 G hw x r h443_4 Z0 g_x E_x F_x_ranges) (lenOf pd___I_V rfl) rfl (by decide) (show 1 + (2 + 11) + _ ≤ _ from by decide) (by decide) (by decide) (rest := [(.ref x)]) rfl rfl ?_
      rintro _ h449_5 ⟨rfl, KpI, F1I⟩
      have Z0 := Nat.le_trans Z0 KpI.1
      have E_x := E_x.keep KpI
      have A_r := A_r.keep KpI (ninS ne_r_x nin0)
      have F_x_ranges := F1I
      show N G K room_1 Q h449_5 ((0 + 1) + 1) ((0 + 2) + 1) 452 #[.val (.int start), .val (.int len), .val (.int gap), .val (.int craw), .val (.int mode), .val (.int (1 : Int32)), .val (.int wv), .val (.long l0), .second, .val (.long l1), .second, .val (.long l2), .second, .val (.long g1), .second, .val (.long g2), .second, .val (.long a0), .second, .val (.long b0), .second, .val (.long a1), .second, .val (.long b1), .second, .val (.long a2), .second, .val (.long b2), .second, .val (.long b0), .second, .val (.ref r), .val (.int (((mode.toUInt32 >>> ((3 : Int32) &&& 31).toUInt32).toInt32) &&& (7 : Int32))), .val (.long (((((mode.toUInt32 >>> ((6 : Int32) &&& 31).toUInt32).toInt32) &&& (3 : Int32)) - (1 : Int32)).toInt64)), .second, .val (.int c), .val (.long (c.toInt64)), .second, .val (.int ev), .unset] [(.ref x)]
      refine N.iload C (pc' := 454) at_452 rfl rfl ?_
      have t_a0 : a0.toInt32.toInt = a0.toInt := own_l2i (by omega) (by omega)
      have t_b0 : b0.toInt32.toInt = b0.toInt := own_l2i (by omega) (by omega)
      have hsrt : own_srt [a0.toInt32, b0.toInt32] := (by
          intro i j x y hx hy hij
          have hi := (List.getElem?_eq_some_iff.mp hx).1
          have hj := (List.getElem?_eq_some_iff.mp hy).1
          simp only [List.length_cons, List.length_nil] at hi hj
          rcases (by omega : i = 0 ∨ i = 1) with rfl | rfl <;> rcases (by omega : j = 0 ∨ j = 1) with rfl | rfl <;> first | omega | (cases hx; cases hy; omega))
      refine N.callV C (pc' := 457) x [(.int c)] at_454 (C.w (i := 19) rfl) (C.w (i := 20) rfl) (C.w (i := 22) rfl) (C.w (i := 21) rfl) (C.w (i := 5) rfl) (C.w (i := 23) rfl) (by decide) E_x (con4 G hw x r c (2 : Int32) [a0.toInt32, b0.toInt32] h449_5 (show (2 : Int32).toInt = ((2 : Nat) : Int) from by decide) (show 2 ≤ 6 from by decide) hsrt F_x_ranges A_r) (lenOf pd__I_Z rfl) rfl (by decide) (show 0 + (5 + 11) + _ ≤ _ from by decide) (by decide) (by decide) (rest := []) rfl rfl ?_
      rintro _ h454_6 ⟨z, lo, y, rfl, rfl, hB, hy, hz⟩
      show N G K room_1 Q h449_5 ((0 + 1) + 1) ((0 + 2) + 1) 457 #[.val (.int start), .val (.int len), .val (.int gap), .val (.int craw), .val (.int mode), .val (.int (1 : Int32)), .val (.int wv), .val (.long l0), .second, .val (.long l1), .second, .val (.long l2), .second, .val (.long g1), .second, .val (.long g2), .second, .val (.long a0), .second, .val (.long b0), .second, .val (.long a1), .second, .val (.long b1), .second, .val (.long a2), .second, .val (.long b2), .second, .val (.long b0), .second, .val (.ref r), .val (.int (((mode.toUInt32 >>> ((3 : Int32) &&& 31).toUInt32).toInt32) &&& (7 : Int32))), .val (.long (((((mode.toUInt32 >>> ((6 : Int32) &&& 31).toUInt32).toInt32) &&& (3 : Int32)) - (1 : Int32)).toInt64)), .second, .val (.int c), .val (.long (c.toInt64)), .second, .val (.int ev), .unset] [(.int z)]
      refine N.istore C (pc' := 459) (ls' := #[.val (.int start), .val (.int len), .val (.int gap), .val (.int craw), .val (.int mode), .val (.int (1 : Int32)), .val (.int wv), .val (.long l0), .second, .val (.long l1), .second, .val (.long l2), .second, .val (.long g1), .second, .val (.long g2), .second, .val (.long a0), .second, .val (.long b0), .second, .val (.long a1), .second, .val (.long b1), .second, .val (.long a2), .second, .val (.long b2), .second, .val (.long b0), .second, .val (.ref r), .val (.int (((mode.toUInt32 >>> ((3 : Int32) &&& 31).toUInt32).toInt32) &&& (7 : Int32))), .val (.long (((((mode.toUInt32 >>> ((6 : Int32) &&& 31).toUInt32).toInt32) &&& (3 : Int32)) - (1 : Int32)).toInt64)), .second, .val (.int c), .val (.long (c.toInt64)), .second, .val (.int ev), .val (.int z)]) at_457 rfl rfl ?_
      have k0 := hB.2.2.1 0 _ rfl
      have m0 := hB.2.2.2 0 _ rfl
      have y0 := hy 0 _ rfl
      have k1 := hB.2.2.1 1 _ rfl
      have m1 := hB.2.2.2 1 _ rfl
      have y1 := hy 1 _ rfl
      have hlo := hB.2.1
      simp only [List.length_cons, List.length_nil] at hlo hz
      have hev2 : ev = (1 : Int32) ∨ ev = (0 : Int32) := hev.imp (·.1) (·.1)
      have hzz : z = ev := own_zz hz hev2 (fun e R => by
        rcases hev with ⟨-, q⟩ | ⟨e', -⟩
        · omega
        · rw [e'] at e; exact absurd e (by decide)) (fun e R => by
        rcases hev with ⟨e', -⟩ | ⟨-, q⟩
        · rw [e'] at e; exact absurd e (by decide)
        · omega)
      refine N.iload C (pc' := 461) at_459 rfl rfl ?_
      refine N.iload C (pc' := 463) at_461 rfl rfl ?_
      refine N.icmp C (pt := 470) (pf := 466) at_463 rfl rfl (fun (hc463 : ¬ z = ev) => absurd (show False from by exact hc463 hzz) id) (fun (hc463 : z = ev) => ?_)
      refine N.iconst C (pc' := 467) (z := 1) at_466 rfl rfl ?_
      refine N.goto C (pc' := 471) at_467 rfl ?_
      exact N.retN C (by simp) (z' := (1 : Int32)) rfl at_471 (by decide) (by decide) (by subst hQ; exact rfl)
    · refine N.iconst C (pc' := 169) (z := 1) at_168 rfl rfl ?_
      exact N.retN C (by simp) (z' := (1 : Int32)) rfl at_169 (by decide) (by decide) (by subst hQ; exact rfl)
  · rw [e]
    refine N.istore C (pc' := 6) (ls' := #[.val (.int start), .val (.int len), .val (.int gap), .val (.int craw), .val (.int mode), .val (.int (2 : Int32)), .unset, .unset, .unset, .unset, .unset, .unset, .unset, .unset, .unset, .unset, .unset, .unset, .unset, .unset, .unset, .unset, .unset, .unset, .unset, .unset, .unset, .unset, .unset, .unset, .unset, .unset, .unset, .unset, .unset, .unset, .unset, .unset, .unset, .unset]) at_4 rfl rfl ?_
    suffices j42 : ∀ (wv : Int32) (l0 : Int64), 0 ≤ l0.toInt ∧ l0.toInt ≤ 2147483647 → N G K room_1 Q h 0 0 42 #[.val (.int start), .val (.int len), .val (.int gap), .val (.int craw), .val (.int mode), .val (.int (2 : Int32)), .val (.int wv), .val (.long l0), .second, .unset, .unset, .unset, .unset, .unset, .unset, .unset, .unset, .unset, .unset, .unset, .unset, .unset, .unset, .unset, .unset, .unset, .unset, .unset, .unset, .unset, .unset, .unset, .unset, .unset, .unset, .unset, .unset, .unset, .unset, .unset] [] by
      refine N.iload C (pc' := 8) at_6 rfl rfl ?_
      refine N.iconst C (pc' := 9) (z := 4) at_8 rfl rfl ?_
      refine N.iand C (pc' := 10) at_9 rfl ?_
      refine N.ifc C (pt := 17) (pf := 13) at_10 rfl rfl (fun (hc10 : (mode &&& (4 : Int32)) = (0 : Int32)) => ?_) (fun (hc10 : ¬ (mode &&& (4 : Int32)) = (0 : Int32)) => ?_)
      · have hi10 : (mode &&& (4 : Int32)).toInt = 0 := eqI hc10
        refine N.iconst C (pc' := 18) (z := 0) at_17 rfl rfl ?_
        refine N.istore C (pc' := 20) (ls' := #[.val (.int start), .val (.int len), .val (.int gap), .val (.int craw), .val (.int mode), .val (.int (2 : Int32)), .val (.int (0 : Int32)), .unset, .unset, .unset, .unset, .unset, .unset, .unset, .unset, .unset, .unset, .unset, .unset, .unset, .unset, .unset, .unset, .unset, .unset, .unset, .unset, .unset, .unset, .unset, .unset, .unset, .unset, .unset, .unset, .unset, .unset, .unset, .unset, .unset]) at_18 rfl rfl ?_
        refine N.iload C (pc' := 22) at_20 rfl rfl ?_
        refine N.ifc C (pt := 34) (pf := 25) at_22 rfl rfl (fun _ => ?_) (fun (q : ¬ (0 : Int32) = (0 : Int32)) => absurd q (by decide))
        refine N.iloadN C (pc' := 35) at_34 rfl rfl ?_
        refine N.sipush C (pc' := 38) (z := 1023) at_35 rfl rfl ?_
        refine N.iand C (pc' := 39) at_38 rfl ?_
        refine N.i2l C (pc' := 40) at_39 rfl ?_
        refine N.lstore C (pc' := 42) (ls' := #[.val (.int start), .val (.int len), .val (.int gap), .val (.int craw), .val (.int mode), .val (.int (2 : Int32)), .val (.int (0 : Int32)), .val (.long ((len &&& (1023 : Int32)).toInt64)), .second, .unset, .unset, .unset, .unset, .unset, .unset, .unset, .unset, .unset, .unset, .unset, .unset, .unset, .unset, .unset, .unset, .unset, .unset, .unset, .unset, .unset, .unset, .unset, .unset, .unset, .unset, .unset, .unset, .unset, .unset, .unset]) at_40 rfl rfl ?_
        exact j42 _ _ (by have := own_and (x := len) (m := 1023) (k := 1023) (by decide) (by decide); omega)
      · have hi10 : ¬ (mode &&& (4 : Int32)).toInt = 0 := neI hc10
        refine N.iconst C (pc' := 14) (z := 1) at_13 rfl rfl ?_
        refine N.goto C (pc' := 18) at_14 rfl ?_
        refine N.istore C (pc' := 20) (ls' := #[.val (.int start), .val (.int len), .val (.int gap), .val (.int craw), .val (.int mode), .val (.int (2 : Int32)), .val (.int (1 : Int32)), .unset, .unset, .unset, .unset, .unset, .unset, .unset, .unset, .unset, .unset, .unset, .unset, .unset, .unset, .unset, .unset, .unset, .unset, .unset, .unset, .unset, .unset, .unset, .unset, .unset, .unset, .unset, .unset, .unset, .unset, .unset, .unset, .unset]) at_18 rfl rfl ?_
        refine N.iload C (pc' := 22) at_20 rfl rfl ?_
        refine N.ifc C (pt := 34) (pf := 25) at_22 rfl rfl (fun (q : (1 : Int32) = (0 : Int32)) => absurd q (by decide)) (fun _ => ?_)
        refine N.iloadN C (pc' := 26) at_25 rfl rfl ?_
        refine N.i2l C (pc' := 27) at_26 rfl ?_
        refine N.ldcL C (pc' := 30) (v := 2147483647) at_27 (C.w (i := 24) rfl) rfl ?_
        refine N.land C (pc' := 31) at_30 rfl ?_
        refine N.goto C (pc' := 40) at_31 rfl ?_
        refine N.lstore C (pc' := 42) (ls' := #[.val (.int start), .val (.int len), .val (.int gap), .val (.int craw), .val (.int mode), .val (.int (2 : Int32)), .val (.int (1 : Int32)), .val (.long ((len.toInt64) &&& (2147483647 : Int64))), .second, .unset, .unset, .unset, .unset, .unset, .unset, .unset, .unset, .unset, .unset, .unset, .unset, .unset, .unset, .unset, .unset, .unset, .unset, .unset, .unset, .unset, .unset, .unset, .unset, .unset, .unset, .unset, .unset, .unset, .unset, .unset]) at_40 rfl rfl ?_
        exact j42 _ _ (own_w _)
    intro wv l0 h_l0
    refine N.iloadN C (pc' := 43) at_42 rfl rfl ?_
    refine N.bipush C (pc' := 45) (z := 10) at_43 rfl rfl ?_
    refine N.iushr C (pc' := 46) at_45 rfl ?_
    refine N.sipush C (pc' := 49) (z := 1023) at_46 rfl rfl ?_
    refine N.iand C (pc' := 50) at_49 rfl ?_
    refine N.i2l C (pc' := 51) at_50 rfl ?_
    have h_l1 : 0 ≤ ((((len.toUInt32 >>> ((10 : Int32) &&& 31).toUInt32).toInt32) &&& (1023 : Int32)).toInt64).toInt ∧ ((((len.toUInt32 >>> ((10 : Int32) &&& 31).toUInt32).toInt32) &&& (1023 : Int32)).toInt64).toInt ≤ 1023 := own_and (by decide) (by decide)
    generalize hd_l1 : ((((len.toUInt32 >>> ((10 : Int32) &&& 31).toUInt32).toInt32) &&& (1023 : Int32)).toInt64) = l1 at *
    refine N.lstore C (pc' := 53) (ls' := #[.val (.int start), .val (.int len), .val (.int gap), .val (.int craw), .val (.int mode), .val (.int (2 : Int32)), .val (.int wv), .val (.long l0), .second, .val (.long l1), .second, .unset, .unset, .unset, .unset, .unset, .unset, .unset, .unset, .unset, .unset, .unset, .unset, .unset, .unset, .unset, .unset, .unset, .unset, .unset, .unset, .unset, .unset, .unset, .unset, .unset, .unset, .unset, .unset, .unset]) at_51 rfl rfl ?_
    refine N.iloadN C (pc' := 54) at_53 rfl rfl ?_
    refine N.bipush C (pc' := 56) (z := 20) at_54 rfl rfl ?_
    refine N.iushr C (pc' := 57) at_56 rfl ?_
    refine N.sipush C (pc' := 60) (z := 1023) at_57 rfl rfl ?_
    refine N.iand C (pc' := 61) at_60 rfl ?_
    refine N.i2l C (pc' := 62) at_61 rfl ?_
    have h_l2 : 0 ≤ ((((len.toUInt32 >>> ((20 : Int32) &&& 31).toUInt32).toInt32) &&& (1023 : Int32)).toInt64).toInt ∧ ((((len.toUInt32 >>> ((20 : Int32) &&& 31).toUInt32).toInt32) &&& (1023 : Int32)).toInt64).toInt ≤ 1023 := own_and (by decide) (by decide)
    generalize hd_l2 : ((((len.toUInt32 >>> ((20 : Int32) &&& 31).toUInt32).toInt32) &&& (1023 : Int32)).toInt64) = l2 at *
    refine N.lstore C (pc' := 64) (ls' := #[.val (.int start), .val (.int len), .val (.int gap), .val (.int craw), .val (.int mode), .val (.int (2 : Int32)), .val (.int wv), .val (.long l0), .second, .val (.long l1), .second, .val (.long l2), .second, .unset, .unset, .unset, .unset, .unset, .unset, .unset, .unset, .unset, .unset, .unset, .unset, .unset, .unset, .unset, .unset, .unset, .unset, .unset, .unset, .unset, .unset, .unset, .unset, .unset, .unset, .unset]) at_62 rfl rfl ?_
    refine N.iloadN C (pc' := 65) at_64 rfl rfl ?_
    refine N.ldcI C (pc' := 67) (v := 65535) at_65 (C.w (i := 0) rfl) rfl ?_
    refine N.iand C (pc' := 68) at_67 rfl ?_
    refine N.i2l C (pc' := 69) at_68 rfl ?_
    have h_g1 : 0 ≤ ((gap &&& (65535 : Int32)).toInt64).toInt ∧ ((gap &&& (65535 : Int32)).toInt64).toInt ≤ 65535 := own_and (by decide) (by decide)
    generalize hd_g1 : ((gap &&& (65535 : Int32)).toInt64) = g1 at *
    refine N.lstore C (pc' := 71) (ls' := #[.val (.int start), .val (.int len), .val (.int gap), .val (.int craw), .val (.int mode), .val (.int (2 : Int32)), .val (.int wv), .val (.long l0), .second, .val (.long l1), .second, .val (.long l2), .second, .val (.long g1), .second, .unset, .unset, .unset, .unset, .unset, .unset, .unset, .unset, .unset, .unset, .unset, .unset, .unset, .unset, .unset, .unset, .unset, .unset, .unset, .unset, .unset, .unset, .unset, .unset, .unset]) at_69 rfl rfl ?_
    refine N.iloadN C (pc' := 72) at_71 rfl rfl ?_
    refine N.bipush C (pc' := 74) (z := 16) at_72 rfl rfl ?_
    refine N.iushr C (pc' := 75) at_74 rfl ?_
    refine N.ldcI C (pc' := 77) (v := 65535) at_75 (C.w (i := 0) rfl) rfl ?_
    refine N.iand C (pc' := 78) at_77 rfl ?_
    refine N.i2l C (pc' := 79) at_78 rfl ?_
    have h_g2 : 0 ≤ ((((gap.toUInt32 >>> ((16 : Int32) &&& 31).toUInt32).toInt32) &&& (65535 : Int32)).toInt64).toInt ∧ ((((gap.toUInt32 >>> ((16 : Int32) &&& 31).toUInt32).toInt32) &&& (65535 : Int32)).toInt64).toInt ≤ 65535 := own_and (by decide) (by decide)
    generalize hd_g2 : ((((gap.toUInt32 >>> ((16 : Int32) &&& 31).toUInt32).toInt32) &&& (65535 : Int32)).toInt64) = g2 at *
    refine N.lstore C (pc' := 81) (ls' := #[.val (.int start), .val (.int len), .val (.int gap), .val (.int craw), .val (.int mode), .val (.int (2 : Int32)), .val (.int wv), .val (.long l0), .second, .val (.long l1), .second, .val (.long l2), .second, .val (.long g1), .second, .val (.long g2), .second, .unset, .unset, .unset, .unset, .unset, .unset, .unset, .unset, .unset, .unset, .unset, .unset, .unset, .unset, .unset, .unset, .unset, .unset, .unset, .unset, .unset, .unset, .unset]) at_79 rfl rfl ?_
    refine N.iloadN C (pc' := 82) at_81 rfl rfl ?_
    refine N.i2l C (pc' := 83) at_82 rfl ?_
    have h_a0 : start.toInt64.toInt = start.toInt := c_i2l start
    have r_a0 := rng32 start
    generalize hd_a0 : (start.toInt64) = a0 at *
    refine N.lstore C (pc' := 85) (ls' := #[.val (.int start), .val (.int len), .val (.int gap), .val (.int craw), .val (.int mode), .val (.int (2 : Int32)), .val (.int wv), .val (.long l0), .second, .val (.long l1), .second, .val (.long l2), .second, .val (.long g1), .second, .val (.long g2), .second, .val (.long a0), .second, .unset, .unset, .unset, .unset, .unset, .unset, .unset, .unset, .unset, .unset, .unset, .unset, .unset, .unset, .unset, .unset, .unset, .unset, .unset, .unset, .unset]) at_83 rfl rfl ?_
    refine N.lload C (pc' := 87) at_85 rfl rfl ?_
    refine N.lload C (pc' := 89) at_87 rfl rfl ?_
    refine N.ladd C (pc' := 90) at_89 rfl ?_
    have o2 := own_two
    have h_b0 : (a0 + l0).toInt = a0.toInt + l0.toInt := by
      rw [own_addL (by first | omega | (rw [own_addL (by omega) (by omega) (by omega) (by omega)]; omega)) (by first | omega | (rw [own_addL (by omega) (by omega) (by omega) (by omega)]; omega)) (by first | omega | (rw [own_addL (by omega) (by omega) (by omega) (by omega)]; omega)) (by first | omega | (rw [own_addL (by omega) (by omega) (by omega) (by omega)]; omega))]
    generalize hd_b0 : (a0 + l0) = b0 at *
    refine N.lstore C (pc' := 92) (ls' := #[.val (.int start), .val (.int len), .val (.int gap), .val (.int craw), .val (.int mode), .val (.int (2 : Int32)), .val (.int wv), .val (.long l0), .second, .val (.long l1), .second, .val (.long l2), .second, .val (.long g1), .second, .val (.long g2), .second, .val (.long a0), .second, .val (.long b0), .second, .unset, .unset, .unset, .unset, .unset, .unset, .unset, .unset, .unset, .unset, .unset, .unset, .unset, .unset, .unset, .unset, .unset, .unset, .unset]) at_90 rfl rfl ?_
    refine N.lload C (pc' := 94) at_92 rfl rfl ?_
    refine N.ldcL C (pc' := 97) (v := 2) at_94 (C.w (i := 1) rfl) rfl ?_
    refine N.ladd C (pc' := 98) at_97 rfl ?_
    refine N.lload C (pc' := 100) at_98 rfl rfl ?_
    refine N.ladd C (pc' := 101) at_100 rfl ?_
    have o2 := own_two
    have h_a1 : ((b0 + (2 : Int64)) + g1).toInt = b0.toInt + (2 : Int64).toInt + g1.toInt := by
      rw [own_addL (by first | omega | (rw [own_addL (by omega) (by omega) (by omega) (by omega)]; omega)) (by first | omega | (rw [own_addL (by omega) (by omega) (by omega) (by omega)]; omega)) (by first | omega | (rw [own_addL (by omega) (by omega) (by omega) (by omega)]; omega)) (by first | omega | (rw [own_addL (by omega) (by omega) (by omega) (by omega)]; omega))]; rw [own_addL (by first | omega | (rw [own_addL (by omega) (by omega) (by omega) (by omega)]; omega)) (by first | omega | (rw [own_addL (by omega) (by omega) (by omega) (by omega)]; omega)) (by first | omega | (rw [own_addL (by omega) (by omega) (by omega) (by omega)]; omega)) (by first | omega | (rw [own_addL (by omega) (by omega) (by omega) (by omega)]; omega))]
    generalize hd_a1 : ((b0 + (2 : Int64)) + g1) = a1 at *
    refine N.lstore C (pc' := 103) (ls' := #[.val (.int start), .val (.int len), .val (.int gap), .val (.int craw), .val (.int mode), .val (.int (2 : Int32)), .val (.int wv), .val (.long l0), .second, .val (.long l1), .second, .val (.long l2), .second, .val (.long g1), .second, .val (.long g2), .second, .val (.long a0), .second, .val (.long b0), .second, .val (.long a1), .second, .unset, .unset, .unset, .unset, .unset, .unset, .unset, .unset, .unset, .unset, .unset, .unset, .unset, .unset, .unset, .unset, .unset]) at_101 rfl rfl ?_
    refine N.lload C (pc' := 105) at_103 rfl rfl ?_
    refine N.lload C (pc' := 107) at_105 rfl rfl ?_
    refine N.ladd C (pc' := 108) at_107 rfl ?_
    have o2 := own_two
    have h_b1 : (a1 + l1).toInt = a1.toInt + l1.toInt := by
      rw [own_addL (by first | omega | (rw [own_addL (by omega) (by omega) (by omega) (by omega)]; omega)) (by first | omega | (rw [own_addL (by omega) (by omega) (by omega) (by omega)]; omega)) (by first | omega | (rw [own_addL (by omega) (by omega) (by omega) (by omega)]; omega)) (by first | omega | (rw [own_addL (by omega) (by omega) (by omega) (by omega)]; omega))]
    generalize hd_b1 : (a1 + l1) = b1 at *
    refine N.lstore C (pc' := 110) (ls' := #[.val (.int start), .val (.int len), .val (.int gap), .val (.int craw), .val (.int mode), .val (.int (2 : Int32)), .val (.int wv), .val (.long l0), .second, .val (.long l1), .second, .val (.long l2), .second, .val (.long g1), .second, .val (.long g2), .second, .val (.long a0), .second, .val (.long b0), .second, .val (.long a1), .second, .val (.long b1), .second, .unset, .unset, .unset, .unset, .unset, .unset, .unset, .unset, .unset, .unset, .unset, .unset, .unset, .unset, .unset]) at_108 rfl rfl ?_
    refine N.lload C (pc' := 112) at_110 rfl rfl ?_
    refine N.ldcL C (pc' := 115) (v := 2) at_112 (C.w (i := 1) rfl) rfl ?_
    refine N.ladd C (pc' := 116) at_115 rfl ?_
    refine N.lload C (pc' := 118) at_116 rfl rfl ?_
    refine N.ladd C (pc' := 119) at_118 rfl ?_
    have o2 := own_two
    have h_a2 : ((b1 + (2 : Int64)) + g2).toInt = b1.toInt + (2 : Int64).toInt + g2.toInt := by
      rw [own_addL (by first | omega | (rw [own_addL (by omega) (by omega) (by omega) (by omega)]; omega)) (by first | omega | (rw [own_addL (by omega) (by omega) (by omega) (by omega)]; omega)) (by first | omega | (rw [own_addL (by omega) (by omega) (by omega) (by omega)]; omega)) (by first | omega | (rw [own_addL (by omega) (by omega) (by omega) (by omega)]; omega))]; rw [own_addL (by first | omega | (rw [own_addL (by omega) (by omega) (by omega) (by omega)]; omega)) (by first | omega | (rw [own_addL (by omega) (by omega) (by omega) (by omega)]; omega)) (by first | omega | (rw [own_addL (by omega) (by omega) (by omega) (by omega)]; omega)) (by first | omega | (rw [own_addL (by omega) (by omega) (by omega) (by omega)]; omega))]
    generalize hd_a2 : ((b1 + (2 : Int64)) + g2) = a2 at *
    refine N.lstore C (pc' := 121) (ls' := #[.val (.int start), .val (.int len), .val (.int gap), .val (.int craw), .val (.int mode), .val (.int (2 : Int32)), .val (.int wv), .val (.long l0), .second, .val (.long l1), .second, .val (.long l2), .second, .val (.long g1), .second, .val (.long g2), .second, .val (.long a0), .second, .val (.long b0), .second, .val (.long a1), .second, .val (.long b1), .second, .val (.long a2), .second, .unset, .unset, .unset, .unset, .unset, .unset, .unset, .unset, .unset, .unset, .unset, .unset, .unset]) at_119 rfl rfl ?_
    refine N.lload C (pc' := 123) at_121 rfl rfl ?_
    refine N.lload C (pc' := 125) at_123 rfl rfl ?_
    refine N.ladd C (pc' := 126) at_125 rfl ?_
    have o2 := own_two
    have h_b2 : (a2 + l2).toInt = a2.toInt + l2.toInt := by
      rw [own_addL (by first | omega | (rw [own_addL (by omega) (by omega) (by omega) (by omega)]; omega)) (by first | omega | (rw [own_addL (by omega) (by omega) (by omega) (by omega)]; omega)) (by first | omega | (rw [own_addL (by omega) (by omega) (by omega) (by omega)]; omega)) (by first | omega | (rw [own_addL (by omega) (by omega) (by omega) (by omega)]; omega))]
    generalize hd_b2 : (a2 + l2) = b2 at *
    refine N.lstore C (pc' := 128) (ls' := #[.val (.int start), .val (.int len), .val (.int gap), .val (.int craw), .val (.int mode), .val (.int (2 : Int32)), .val (.int wv), .val (.long l0), .second, .val (.long l1), .second, .val (.long l2), .second, .val (.long g1), .second, .val (.long g2), .second, .val (.long a0), .second, .val (.long b0), .second, .val (.long a1), .second, .val (.long b1), .second, .val (.long a2), .second, .val (.long b2), .second, .unset, .unset, .unset, .unset, .unset, .unset, .unset, .unset, .unset, .unset, .unset]) at_126 rfl rfl ?_
    refine N.iload C (pc' := 130) at_128 rfl rfl ?_
    refine N.iconst C (pc' := 131) (z := 1) at_130 rfl rfl ?_
    refine N.icmp C (pt := 139) (pf := 134) at_131 rfl rfl (fun _ => ?_) (fun (q : (2 : Int32) = (1 : Int32)) => absurd q (by decide))
    refine N.iload C (pc' := 141) at_139 rfl rfl ?_
    refine N.iconst C (pc' := 142) (z := 2) at_141 rfl rfl ?_
    refine N.icmp C (pt := 150) (pf := 145) at_142 rfl rfl (fun (q : ¬ (2 : Int32) = (2 : Int32)) => absurd q (by decide)) (fun _ => ?_)
    refine N.lload C (pc' := 147) at_145 rfl rfl ?_
    refine N.goto C (pc' := 152) at_147 rfl ?_
    refine N.lstore C (pc' := 154) (ls' := #[.val (.int start), .val (.int len), .val (.int gap), .val (.int craw), .val (.int mode), .val (.int (2 : Int32)), .val (.int wv), .val (.long l0), .second, .val (.long l1), .second, .val (.long l2), .second, .val (.long g1), .second, .val (.long g2), .second, .val (.long a0), .second, .val (.long b0), .second, .val (.long a1), .second, .val (.long b1), .second, .val (.long a2), .second, .val (.long b2), .second, .val (.long b1), .second, .unset, .unset, .unset, .unset, .unset, .unset, .unset, .unset, .unset]) at_152 rfl rfl ?_
    refine N.iload C (pc' := 156) at_154 rfl rfl ?_
    refine N.ifc C (pt := 170) (pf := 159) at_156 rfl rfl (fun (q : 2 ≤ 0) => absurd q (by decide)) (fun _ => ?_)
    refine N.lload C (pc' := 161) at_159 rfl rfl ?_
    refine N.ldcL C (pc' := 164) (v := 2147483647) at_161 (C.w (i := 24) rfl) rfl ?_
    refine N.lcmp C (pc' := 165) at_164 rfl ?_
    refine N.lif C (pt := 170) (pf := 168) at_165 rfl rfl (fun (hc165 : b1.toInt ≤ 2147483647) => ?_) (fun (hc165 : 2147483647 < b1.toInt) => ?_)
    · refine N.iconst C (pc' := 171) (z := 2) at_170 rfl rfl ?_
      refine N.iload C (pc' := 173) at_171 rfl rfl ?_
      refine N.imul C (pc' := 174) at_173 rfl ?_
      show N G K room_1 Q h 0 0 174 #[.val (.int start), .val (.int len), .val (.int gap), .val (.int craw), .val (.int mode), .val (.int (2 : Int32)), .val (.int wv), .val (.long l0), .second, .val (.long l1), .second, .val (.long l2), .second, .val (.long g1), .second, .val (.long g2), .second, .val (.long a0), .second, .val (.long b0), .second, .val (.long a1), .second, .val (.long b1), .second, .val (.long a2), .second, .val (.long b2), .second, .val (.long b1), .second, .unset, .unset, .unset, .unset, .unset, .unset, .unset, .unset, .unset] [(.int (4 : Int32))]
      refine N.newP C (pc' := 176) (n := (4 : Int32)) 4 at_174 (C.w (i := 2) rfl) (by decide) (by decide) (by decide) (by decide) (by decide) rfl (fun h174_1 r hx_r Ex174 A'_r => ?_)
      have g_r : G.n0 ≤ r := by rw [hx_r]; exact Z0
      have Z0 := Nat.le_trans Z0 Ex174.1
      have A_r : Av G.Z h174_1 r .int [(.int (0 : Int32)), (.int (0 : Int32)), (.int (0 : Int32)), (.int (0 : Int32))] := A'_r
      refine N.astore C (pc' := 178) (ls' := #[.val (.int start), .val (.int len), .val (.int gap), .val (.int craw), .val (.int mode), .val (.int (2 : Int32)), .val (.int wv), .val (.long l0), .second, .val (.long l1), .second, .val (.long l2), .second, .val (.long g1), .second, .val (.long g2), .second, .val (.long a0), .second, .val (.long b0), .second, .val (.long a1), .second, .val (.long b1), .second, .val (.long a2), .second, .val (.long b2), .second, .val (.long b1), .second, .val (.ref r), .unset, .unset, .unset, .unset, .unset, .unset, .unset, .unset]) at_176 rfl rfl rfl ?_
      refine N.iload C (pc' := 180) at_178 rfl rfl ?_
      refine N.iconst C (pc' := 181) (z := 1) at_180 rfl rfl ?_
      refine N.icmp C (pt := 198) (pf := 184) at_181 rfl rfl (fun (q : 2 < 1) => absurd q (by decide)) (fun _ => ?_)
      refine N.aload C (pc' := 186) at_184 rfl rfl rfl ?_
      refine N.iconst C (pc' := 187) (z := 0) at_186 rfl rfl ?_
      refine N.lload C (pc' := 189) at_187 rfl rfl ?_
      refine N.l2i C (pc' := 190) at_189 rfl ?_
      refine N.iastore C (pc' := 191) (i := 0) at_190 A_r rfl (show 0 < 4 from by decide) g_r rfl (fun h190_2 W190 A_r => ?_)
      have Z0 : G.n0 ≤ _ := (Wr.size W190).symm ▸ Z0
      have A_r : Av G.Z h190_2 r .int [(.int (a0.toInt32)), (.int (0 : Int32)), (.int (0 : Int32)), (.int (0 : Int32))] := A_r
      refine N.aload C (pc' := 193) at_191 rfl rfl rfl ?_
      refine N.iconst C (pc' := 194) (z := 1) at_193 rfl rfl ?_
      refine N.lload C (pc' := 196) at_194 rfl rfl ?_
      refine N.l2i C (pc' := 197) at_196 rfl ?_
      refine N.iastore C (pc' := 198) (i := 1) at_197 A_r rfl (show 1 < 4 from by decide) g_r rfl (fun h197_3 W197 A_r => ?_)
      have Z0 : G.n0 ≤ _ := (Wr.size W197).symm ▸ Z0
      have A_r : Av G.Z h197_3 r .int [(.int (a0.toInt32)), (.int (b0.toInt32)), (.int (0 : Int32)), (.int (0 : Int32))] := A_r
      refine N.iload C (pc' := 200) at_198 rfl rfl ?_
      refine N.iconst C (pc' := 201) (z := 2) at_200 rfl rfl ?_
      refine N.icmp C (pt := 218) (pf := 204) at_201 rfl rfl (fun (q : 2 < 2) => absurd q (by decide)) (fun _ => ?_)
      refine N.aload C (pc' := 206) at_204 rfl rfl rfl ?_
      refine N.iconst C (pc' := 207) (z := 2) at_206 rfl rfl ?_
      refine N.lload C (pc' := 209) at_207 rfl rfl ?_
      refine N.l2i C (pc' := 210) at_209 rfl ?_
      refine N.iastore C (pc' := 211) (i := 2) at_210 A_r rfl (show 2 < 4 from by decide) g_r rfl (fun h210_4 W210 A_r => ?_)
      have Z0 : G.n0 ≤ _ := (Wr.size W210).symm ▸ Z0
      have A_r : Av G.Z h210_4 r .int [(.int (a0.toInt32)), (.int (b0.toInt32)), (.int (a1.toInt32)), (.int (0 : Int32))] := A_r
      refine N.aload C (pc' := 213) at_211 rfl rfl rfl ?_
      refine N.iconst C (pc' := 214) (z := 3) at_213 rfl rfl ?_
      refine N.lload C (pc' := 216) at_214 rfl rfl ?_
      refine N.l2i C (pc' := 217) at_216 rfl ?_
      refine N.iastore C (pc' := 218) (i := 3) at_217 A_r rfl (show 3 < 4 from by decide) g_r rfl (fun h217_5 W217 A_r => ?_)
      have Z0 : G.n0 ≤ _ := (Wr.size W217).symm ▸ Z0
      have A_r : Av G.Z h217_5 r .int [(.int (a0.toInt32)), (.int (b0.toInt32)), (.int (a1.toInt32)), (.int (b1.toInt32))] := A_r
      refine N.iload C (pc' := 220) at_218 rfl rfl ?_
      refine N.iconst C (pc' := 221) (z := 3) at_220 rfl rfl ?_
      refine N.icmp C (pt := 238) (pf := 224) at_221 rfl rfl (fun _ => ?_) (fun (q : 3 ≤ 2) => absurd q (by decide))
      refine N.iload C (pc' := 240) at_238 rfl rfl ?_
      refine N.iconst C (pc' := 241) (z := 3) at_240 rfl rfl ?_
      refine N.iushr C (pc' := 242) at_241 rfl ?_
      refine N.bipush C (pc' := 244) (z := 7) at_242 rfl rfl ?_
      refine N.iand C (pc' := 245) at_244 rfl ?_
      refine N.istore C (pc' := 247) (ls' := #[.val (.int start), .val (.int len), .val (.int gap), .val (.int craw), .val (.int mode), .val (.int (2 : Int32)), .val (.int wv), .val (.long l0), .second, .val (.long l1), .second, .val (.long l2), .second, .val (.long g1), .second, .val (.long g2), .second, .val (.long a0), .second, .val (.long b0), .second, .val (.long a1), .second, .val (.long b1), .second, .val (.long a2), .second, .val (.long b2), .second, .val (.long b1), .second, .val (.ref r), .val (.int (((mode.toUInt32 >>> ((3 : Int32) &&& 31).toUInt32).toInt32) &&& (7 : Int32))), .unset, .unset, .unset, .unset, .unset, .unset, .unset]) at_245 rfl rfl ?_
      refine N.iload C (pc' := 249) at_247 rfl rfl ?_
      refine N.bipush C (pc' := 251) (z := 6) at_249 rfl rfl ?_
      refine N.iushr C (pc' := 252) at_251 rfl ?_
      refine N.iconst C (pc' := 253) (z := 3) at_252 rfl rfl ?_
      refine N.iand C (pc' := 254) at_253 rfl ?_
      refine N.iconst C (pc' := 255) (z := 1) at_254 rfl rfl ?_
      refine N.isub C (pc' := 256) at_255 rfl ?_
      refine N.i2l C (pc' := 257) at_256 rfl ?_
      refine N.lstore C (pc' := 259) (ls' := #[.val (.int start), .val (.int len), .val (.int gap), .val (.int craw), .val (.int mode), .val (.int (2 : Int32)), .val (.int wv), .val (.long l0), .second, .val (.long l1), .second, .val (.long l2), .second, .val (.long g1), .second, .val (.long g2), .second, .val (.long a0), .second, .val (.long b0), .second, .val (.long a1), .second, .val (.long b1), .second, .val (.long a2), .second, .val (.long b2), .second, .val (.long b1), .second, .val (.ref r), .val (.int (((mode.toUInt32 >>> ((3 : Int32) &&& 31).toUInt32).toInt32) &&& (7 : Int32))), .val (.long (((((mode.toUInt32 >>> ((6 : Int32) &&& 31).toUInt32).toInt32) &&& (3 : Int32)) - (1 : Int32)).toInt64)), .second, .unset, .unset, .unset, .unset, .unset]) at_257 rfl rfl ?_
      suffices j365 : ∀ (c : Int32), N G K room_1 Q h217_5 (0 + 1) (0 + 4) 365 #[.val (.int start), .val (.int len), .val (.int gap), .val (.int craw), .val (.int mode), .val (.int (2 : Int32)), .val (.int wv), .val (.long l0), .second, .val (.long l1), .second, .val (.long l2), .second, .val (.long g1), .second, .val (.long g2), .second, .val (.long a0), .second, .val (.long b0), .second, .val (.long a1), .second, .val (.long b1), .second, .val (.long a2), .second, .val (.long b2), .second, .val (.long b1), .second, .val (.ref r), .val (.int (((mode.toUInt32 >>> ((3 : Int32) &&& 31).toUInt32).toInt32) &&& (7 : Int32))), .val (.long (((((mode.toUInt32 >>> ((6 : Int32) &&& 31).toUInt32).toInt32) &&& (3 : Int32)) - (1 : Int32)).toInt64)), .second, .val (.int c), .unset, .unset, .unset, .unset] [] by
        refine N.iload C (pc' := 261) at_259 rfl rfl ?_
        refine N.iconst C (pc' := 262) (z := 1) at_261 rfl rfl ?_
        refine N.icmp C (pt := 276) (pf := 265) at_262 rfl rfl (fun (hc262 : ¬ (((mode.toUInt32 >>> ((3 : Int32) &&& 31).toUInt32).toInt32) &&& (7 : Int32)) = (1 : Int32)) => ?_) (fun (hc262 : (((mode.toUInt32 >>> ((3 : Int32) &&& 31).toUInt32).toInt32) &&& (7 : Int32)) = (1 : Int32)) => ?_)
        · have hi262 : ¬ (((mode.toUInt32 >>> ((3 : Int32) &&& 31).toUInt32).toInt32) &&& (7 : Int32)).toInt = 1 := neI hc262
          refine N.iload C (pc' := 278) at_276 rfl rfl ?_
          refine N.iconst C (pc' := 279) (z := 2) at_278 rfl rfl ?_
          refine N.icmp C (pt := 293) (pf := 282) at_279 rfl rfl (fun (hc279 : ¬ (((mode.toUInt32 >>> ((3 : Int32) &&& 31).toUInt32).toInt32) &&& (7 : Int32)) = (2 : Int32)) => ?_) (fun (hc279 : (((mode.toUInt32 >>> ((3 : Int32) &&& 31).toUInt32).toInt32) &&& (7 : Int32)) = (2 : Int32)) => ?_)
          · have hi279 : ¬ (((mode.toUInt32 >>> ((3 : Int32) &&& 31).toUInt32).toInt32) &&& (7 : Int32)).toInt = 2 := neI hc279
            refine N.iload C (pc' := 295) at_293 rfl rfl ?_
            refine N.iconst C (pc' := 296) (z := 3) at_295 rfl rfl ?_
            refine N.icmp C (pt := 310) (pf := 299) at_296 rfl rfl (fun (hc296 : ¬ (((mode.toUInt32 >>> ((3 : Int32) &&& 31).toUInt32).toInt32) &&& (7 : Int32)) = (3 : Int32)) => ?_) (fun (hc296 : (((mode.toUInt32 >>> ((3 : Int32) &&& 31).toUInt32).toInt32) &&& (7 : Int32)) = (3 : Int32)) => ?_)
            · have hi296 : ¬ (((mode.toUInt32 >>> ((3 : Int32) &&& 31).toUInt32).toInt32) &&& (7 : Int32)).toInt = 3 := neI hc296
              refine N.iload C (pc' := 312) at_310 rfl rfl ?_
              refine N.iconst C (pc' := 313) (z := 4) at_312 rfl rfl ?_
              refine N.icmp C (pt := 327) (pf := 316) at_313 rfl rfl (fun (hc313 : ¬ (((mode.toUInt32 >>> ((3 : Int32) &&& 31).toUInt32).toInt32) &&& (7 : Int32)) = (4 : Int32)) => ?_) (fun (hc313 : (((mode.toUInt32 >>> ((3 : Int32) &&& 31).toUInt32).toInt32) &&& (7 : Int32)) = (4 : Int32)) => ?_)
              · have hi313 : ¬ (((mode.toUInt32 >>> ((3 : Int32) &&& 31).toUInt32).toInt32) &&& (7 : Int32)).toInt = 4 := neI hc313
                refine N.iload C (pc' := 329) at_327 rfl rfl ?_
                refine N.iconst C (pc' := 330) (z := 5) at_329 rfl rfl ?_
                refine N.icmp C (pt := 344) (pf := 333) at_330 rfl rfl (fun (hc330 : ¬ (((mode.toUInt32 >>> ((3 : Int32) &&& 31).toUInt32).toInt32) &&& (7 : Int32)) = (5 : Int32)) => ?_) (fun (hc330 : (((mode.toUInt32 >>> ((3 : Int32) &&& 31).toUInt32).toInt32) &&& (7 : Int32)) = (5 : Int32)) => ?_)
                · have hi330 : ¬ (((mode.toUInt32 >>> ((3 : Int32) &&& 31).toUInt32).toInt32) &&& (7 : Int32)).toInt = 5 := neI hc330
                  refine N.iload C (pc' := 346) at_344 rfl rfl ?_
                  refine N.bipush C (pc' := 348) (z := 6) at_346 rfl rfl ?_
                  refine N.icmp C (pt := 362) (pf := 351) at_348 rfl rfl (fun (hc348 : ¬ (((mode.toUInt32 >>> ((3 : Int32) &&& 31).toUInt32).toInt32) &&& (7 : Int32)) = (6 : Int32)) => ?_) (fun (hc348 : (((mode.toUInt32 >>> ((3 : Int32) &&& 31).toUInt32).toInt32) &&& (7 : Int32)) = (6 : Int32)) => ?_)
                  · have hi348 : ¬ (((mode.toUInt32 >>> ((3 : Int32) &&& 31).toUInt32).toInt32) &&& (7 : Int32)).toInt = 6 := neI hc348
                    refine N.iloadN C (pc' := 363) at_362 rfl rfl ?_
                    refine N.istore C (pc' := 365) (ls' := #[.val (.int start), .val (.int len), .val (.int gap), .val (.int craw), .val (.int mode), .val (.int (2 : Int32)), .val (.int wv), .val (.long l0), .second, .val (.long l1), .second, .val (.long l2), .second, .val (.long g1), .second, .val (.long g2), .second, .val (.long a0), .second, .val (.long b0), .second, .val (.long a1), .second, .val (.long b1), .second, .val (.long a2), .second, .val (.long b2), .second, .val (.long b1), .second, .val (.ref r), .val (.int (((mode.toUInt32 >>> ((3 : Int32) &&& 31).toUInt32).toInt32) &&& (7 : Int32))), .val (.long (((((mode.toUInt32 >>> ((6 : Int32) &&& 31).toUInt32).toInt32) &&& (3 : Int32)) - (1 : Int32)).toInt64)), .second, .val (.int craw), .unset, .unset, .unset, .unset]) at_363 rfl rfl ?_
                    exact j365 _
                  · have hi348 : (((mode.toUInt32 >>> ((3 : Int32) &&& 31).toUInt32).toInt32) &&& (7 : Int32)).toInt = 6 := eqI hc348
                    refine N.lload C (pc' := 353) at_351 rfl rfl ?_
                    refine N.lload C (pc' := 355) at_353 rfl rfl ?_
                    refine N.ladd C (pc' := 356) at_355 rfl ?_
                    refine N.l2i C (pc' := 357) at_356 rfl ?_
                    refine N.istore C (pc' := 359) (ls' := #[.val (.int start), .val (.int len), .val (.int gap), .val (.int craw), .val (.int mode), .val (.int (2 : Int32)), .val (.int wv), .val (.long l0), .second, .val (.long l1), .second, .val (.long l2), .second, .val (.long g1), .second, .val (.long g2), .second, .val (.long a0), .second, .val (.long b0), .second, .val (.long a1), .second, .val (.long b1), .second, .val (.long a2), .second, .val (.long b2), .second, .val (.long b1), .second, .val (.ref r), .val (.int (((mode.toUInt32 >>> ((3 : Int32) &&& 31).toUInt32).toInt32) &&& (7 : Int32))), .val (.long (((((mode.toUInt32 >>> ((6 : Int32) &&& 31).toUInt32).toInt32) &&& (3 : Int32)) - (1 : Int32)).toInt64)), .second, .val (.int ((b2 + (((((mode.toUInt32 >>> ((6 : Int32) &&& 31).toUInt32).toInt32) &&& (3 : Int32)) - (1 : Int32)).toInt64)).toInt32)), .unset, .unset, .unset, .unset]) at_357 rfl rfl ?_
                    refine N.goto C (pc' := 365) at_359 rfl ?_
                    exact j365 _
                · have hi330 : (((mode.toUInt32 >>> ((3 : Int32) &&& 31).toUInt32).toInt32) &&& (7 : Int32)).toInt = 5 := eqI hc330
                  refine N.lload C (pc' := 335) at_333 rfl rfl ?_
                  refine N.lload C (pc' := 337) at_335 rfl rfl ?_
                  refine N.ladd C (pc' := 338) at_337 rfl ?_
                  refine N.l2i C (pc' := 339) at_338 rfl ?_
                  refine N.istore C (pc' := 341) (ls' := #[.val (.int start), .val (.int len), .val (.int gap), .val (.int craw), .val (.int mode), .val (.int (2 : Int32)), .val (.int wv), .val (.long l0), .second, .val (.long l1), .second, .val (.long l2), .second, .val (.long g1), .second, .val (.long g2), .second, .val (.long a0), .second, .val (.long b0), .second, .val (.long a1), .second, .val (.long b1), .second, .val (.long a2), .second, .val (.long b2), .second, .val (.long b1), .second, .val (.ref r), .val (.int (((mode.toUInt32 >>> ((3 : Int32) &&& 31).toUInt32).toInt32) &&& (7 : Int32))), .val (.long (((((mode.toUInt32 >>> ((6 : Int32) &&& 31).toUInt32).toInt32) &&& (3 : Int32)) - (1 : Int32)).toInt64)), .second, .val (.int ((a2 + (((((mode.toUInt32 >>> ((6 : Int32) &&& 31).toUInt32).toInt32) &&& (3 : Int32)) - (1 : Int32)).toInt64)).toInt32)), .unset, .unset, .unset, .unset]) at_339 rfl rfl ?_
                  refine N.goto C (pc' := 365) at_341 rfl ?_
                  exact j365 _
              · have hi313 : (((mode.toUInt32 >>> ((3 : Int32) &&& 31).toUInt32).toInt32) &&& (7 : Int32)).toInt = 4 := eqI hc313
                refine N.lload C (pc' := 318) at_316 rfl rfl ?_
                refine N.lload C (pc' := 320) at_318 rfl rfl ?_
                refine N.ladd C (pc' := 321) at_320 rfl ?_
                refine N.l2i C (pc' := 322) at_321 rfl ?_
                refine N.istore C (pc' := 324) (ls' := #[.val (.int start), .val (.int len), .val (.int gap), .val (.int craw), .val (.int mode), .val (.int (2 : Int32)), .val (.int wv), .val (.long l0), .second, .val (.long l1), .second, .val (.long l2), .second, .val (.long g1), .second, .val (.long g2), .second, .val (.long a0), .second, .val (.long b0), .second, .val (.long a1), .second, .val (.long b1), .second, .val (.long a2), .second, .val (.long b2), .second, .val (.long b1), .second, .val (.ref r), .val (.int (((mode.toUInt32 >>> ((3 : Int32) &&& 31).toUInt32).toInt32) &&& (7 : Int32))), .val (.long (((((mode.toUInt32 >>> ((6 : Int32) &&& 31).toUInt32).toInt32) &&& (3 : Int32)) - (1 : Int32)).toInt64)), .second, .val (.int ((b1 + (((((mode.toUInt32 >>> ((6 : Int32) &&& 31).toUInt32).toInt32) &&& (3 : Int32)) - (1 : Int32)).toInt64)).toInt32)), .unset, .unset, .unset, .unset]) at_322 rfl rfl ?_
                refine N.goto C (pc' := 365) at_324 rfl ?_
                exact j365 _
            · have hi296 : (((mode.toUInt32 >>> ((3 : Int32) &&& 31).toUInt32).toInt32) &&& (7 : Int32)).toInt = 3 := eqI hc296
              refine N.lload C (pc' := 301) at_299 rfl rfl ?_
              refine N.lload C (pc' := 303) at_301 rfl rfl ?_
              refine N.ladd C (pc' := 304) at_303 rfl ?_
              refine N.l2i C (pc' := 305) at_304 rfl ?_
              refine N.istore C (pc' := 307) (ls' := #[.val (.int start), .val (.int len), .val (.int gap), .val (.int craw), .val (.int mode), .val (.int (2 : Int32)), .val (.int wv), .val (.long l0), .second, .val (.long l1), .second, .val (.long l2), .second, .val (.long g1), .second, .val (.long g2), .second, .val (.long a0), .second, .val (.long b0), .second, .val (.long a1), .second, .val (.long b1), .second, .val (.long a2), .second, .val (.long b2), .second, .val (.long b1), .second, .val (.ref r), .val (.int (((mode.toUInt32 >>> ((3 : Int32) &&& 31).toUInt32).toInt32) &&& (7 : Int32))), .val (.long (((((mode.toUInt32 >>> ((6 : Int32) &&& 31).toUInt32).toInt32) &&& (3 : Int32)) - (1 : Int32)).toInt64)), .second, .val (.int ((a1 + (((((mode.toUInt32 >>> ((6 : Int32) &&& 31).toUInt32).toInt32) &&& (3 : Int32)) - (1 : Int32)).toInt64)).toInt32)), .unset, .unset, .unset, .unset]) at_305 rfl rfl ?_
              refine N.goto C (pc' := 365) at_307 rfl ?_
              exact j365 _
          · have hi279 : (((mode.toUInt32 >>> ((3 : Int32) &&& 31).toUInt32).toInt32) &&& (7 : Int32)).toInt = 2 := eqI hc279
            refine N.lload C (pc' := 284) at_282 rfl rfl ?_
            refine N.lload C (pc' := 286) at_284 rfl rfl ?_
            refine N.ladd C (pc' := 287) at_286 rfl ?_
            refine N.l2i C (pc' := 288) at_287 rfl ?_
            refine N.istore C (pc' := 290) (ls' := #[.val (.int start), .val (.int len), .val (.int gap), .val (.int craw), .val (.int mode), .val (.int (2 : Int32)), .val (.int wv), .val (.long l0), .second, .val (.long l1), .second, .val (.long l2), .second, .val (.long g1), .second, .val (.long g2), .second, .val (.long a0), .second, .val (.long b0), .second, .val (.long a1), .second, .val (.long b1), .second, .val (.long a2), .second, .val (.long b2), .second, .val (.long b1), .second, .val (.ref r), .val (.int (((mode.toUInt32 >>> ((3 : Int32) &&& 31).toUInt32).toInt32) &&& (7 : Int32))), .val (.long (((((mode.toUInt32 >>> ((6 : Int32) &&& 31).toUInt32).toInt32) &&& (3 : Int32)) - (1 : Int32)).toInt64)), .second, .val (.int ((b0 + (((((mode.toUInt32 >>> ((6 : Int32) &&& 31).toUInt32).toInt32) &&& (3 : Int32)) - (1 : Int32)).toInt64)).toInt32)), .unset, .unset, .unset, .unset]) at_288 rfl rfl ?_
            refine N.goto C (pc' := 365) at_290 rfl ?_
            exact j365 _
        · have hi262 : (((mode.toUInt32 >>> ((3 : Int32) &&& 31).toUInt32).toInt32) &&& (7 : Int32)).toInt = 1 := eqI hc262
          refine N.lload C (pc' := 267) at_265 rfl rfl ?_
          refine N.lload C (pc' := 269) at_267 rfl rfl ?_
          refine N.ladd C (pc' := 270) at_269 rfl ?_
          refine N.l2i C (pc' := 271) at_270 rfl ?_
          refine N.istore C (pc' := 273) (ls' := #[.val (.int start), .val (.int len), .val (.int gap), .val (.int craw), .val (.int mode), .val (.int (2 : Int32)), .val (.int wv), .val (.long l0), .second, .val (.long l1), .second, .val (.long l2), .second, .val (.long g1), .second, .val (.long g2), .second, .val (.long a0), .second, .val (.long b0), .second, .val (.long a1), .second, .val (.long b1), .second, .val (.long a2), .second, .val (.long b2), .second, .val (.long b1), .second, .val (.ref r), .val (.int (((mode.toUInt32 >>> ((3 : Int32) &&& 31).toUInt32).toInt32) &&& (7 : Int32))), .val (.long (((((mode.toUInt32 >>> ((6 : Int32) &&& 31).toUInt32).toInt32) &&& (3 : Int32)) - (1 : Int32)).toInt64)), .second, .val (.int ((a0 + (((((mode.toUInt32 >>> ((6 : Int32) &&& 31).toUInt32).toInt32) &&& (3 : Int32)) - (1 : Int32)).toInt64)).toInt32)), .unset, .unset, .unset, .unset]) at_271 rfl rfl ?_
          refine N.goto C (pc' := 365) at_273 rfl ?_
          exact j365 _
      intro c
      have h_c : c.toInt64.toInt = c.toInt := c_i2l c
      refine N.iload C (pc' := 367) at_365 rfl rfl ?_
      refine N.i2l C (pc' := 368) at_367 rfl ?_
      refine N.lstore C (pc' := 370) (ls' := #[.val (.int start), .val (.int len), .val (.int gap), .val (.int craw), .val (.int mode), .val (.int (2 : Int32)), .val (.int wv), .val (.long l0), .second, .val (.long l1), .second, .val (.long l2), .second, .val (.long g1), .second, .val (.long g2), .second, .val (.long a0), .second, .val (.long b0), .second, .val (.long a1), .second, .val (.long b1), .second, .val (.long a2), .second, .val (.long b2), .second, .val (.long b1), .second, .val (.ref r), .val (.int (((mode.toUInt32 >>> ((3 : Int32) &&& 31).toUInt32).toInt32) &&& (7 : Int32))), .val (.long (((((mode.toUInt32 >>> ((6 : Int32) &&& 31).toUInt32).toInt32) &&& (3 : Int32)) - (1 : Int32)).toInt64)), .second, .val (.int c), .val (.long (c.toInt64)), .second, .unset, .unset]) at_368 rfl rfl ?_
      suffices j443 : ∀ (ev : Int32), (ev = (1 : Int32) ∧ ((a0.toInt ≤ c.toInt ∧ c.toInt ≤ b0.toInt) ∨ (a1.toInt ≤ c.toInt ∧ c.toInt ≤ b1.toInt))) ∨ (ev = (0 : Int32) ∧ ¬ ((a0.toInt ≤ c.toInt ∧ c.toInt ≤ b0.toInt) ∨ (a1.toInt ≤ c.toInt ∧ c.toInt ≤ b1.toInt))) → N G K room_1 Q h217_5 (0 + 1) (0 + 4) 443 #[.val (.int start), .val (.int len), .val (.int gap), .val (.int craw), .val (.int mode), .val (.int (2 : Int32)), .val (.int wv), .val (.long l0), .second, .val (.long l1), .second, .val (.long l2), .second, .val (.long g1), .second, .val (.long g2), .second, .val (.long a0), .second, .val (.long b0), .second, .val (.long a1), .second, .val (.long b1), .second, .val (.long a2), .second, .val (.long b2), .second, .val (.long b1), .second, .val (.ref r), .val (.int (((mode.toUInt32 >>> ((3 : Int32) &&& 31).toUInt32).toInt32) &&& (7 : Int32))), .val (.long (((((mode.toUInt32 >>> ((6 : Int32) &&& 31).toUInt32).toInt32) &&& (3 : Int32)) - (1 : Int32)).toInt64)), .second, .val (.int c), .val (.long (c.toInt64)), .second, .val (.int ev), .unset] [] by
        refine N.iload C (pc' := 372) at_370 rfl rfl ?_
        refine N.iconst C (pc' := 373) (z := 1) at_372 rfl rfl ?_
        refine N.icmp C (pt := 392) (pf := 376) at_373 rfl rfl (fun (q : 2 < 1) => absurd q (by decide)) (fun _ => ?_)
        refine N.lload C (pc' := 378) at_376 rfl rfl ?_
        refine N.lload C (pc' := 380) at_378 rfl rfl ?_
        refine N.lcmp C (pc' := 381) at_380 rfl ?_
        refine N.lif C (pt := 392) (pf := 384) at_381 rfl rfl (fun (hc381 : (c.toInt64).toInt < a0.toInt) => ?_) (fun (hc381 : a0.toInt ≤ (c.toInt64).toInt) => ?_)
        · refine N.iload C (pc' := 394) at_392 rfl rfl ?_
          refine N.iconst C (pc' := 395) (z := 2) at_394 rfl rfl ?_
          refine N.icmp C (pt := 414) (pf := 398) at_395 rfl rfl (fun (q : 2 < 2) => absurd q (by decide)) (fun _ => ?_)
          refine N.lload C (pc' := 400) at_398 rfl rfl ?_
          refine N.lload C (pc' := 402) at_400 rfl rfl ?_
          refine N.lcmp C (pc' := 403) at_402 rfl ?_
          refine N.lif C (pt := 414) (pf := 406) at_403 rfl rfl (fun (hc403 : (c.toInt64).toInt < a1.toInt) => ?_) (fun (hc403 : a1.toInt ≤ (c.toInt64).toInt) => ?_)
          · refine N.iload C (pc' := 416) at_414 rfl rfl ?_
            refine N.iconst C (pc' := 417) (z := 3) at_416 rfl rfl ?_
            refine N.icmp C (pt := 440) (pf := 420) at_417 rfl rfl (fun _ => ?_) (fun (q : 3 ≤ 2) => absurd q (by decide))
            refine N.iconst C (pc' := 441) (z := 0) at_440 rfl rfl ?_
            refine N.istore C (pc' := 443) (ls' := #[.val (.int start), .val (.int len), .val (.int gap), .val (.int craw), .val (.int mode), .val (.int (2 : Int32)), .val (.int wv), .val (.long l0), .second, .val (.long l1), .second, .val (.long l2), .second, .val (.long g1), .second, .val (.long g2), .second, .val (.long a0), .second, .val (.long b0), .second, .val (.long a1), .second, .val (.long b1), .second, .val (.long a2), .second, .val (.long b2), .second, .val (.long b1), .second, .val (.ref r), .val (.int (((mode.toUInt32 >>> ((3 : Int32) &&& 31).toUInt32).toInt32) &&& (7 : Int32))), .val (.long (((((mode.toUInt32 >>> ((6 : Int32) &&& 31).toUInt32).toInt32) &&& (3 : Int32)) - (1 : Int32)).toInt64)), .second, .val (.int c), .val (.long (c.toInt64)), .second, .val (.int (0 : Int32)), .unset]) at_441 rfl rfl ?_
            exact j443 _ (Or.inr ⟨rfl, by omega⟩)
          · refine N.lload C (pc' := 408) at_406 rfl rfl ?_
            refine N.lload C (pc' := 410) at_408 rfl rfl ?_
            refine N.lcmp C (pc' := 411) at_410 rfl ?_
            refine N.lif C (pt := 436) (pf := 414) at_411 rfl rfl (fun (hc411 : (c.toInt64).toInt ≤ b1.toInt) => ?_) (fun (hc411 : b1.toInt < (c.toInt64).toInt) => ?_)
            · refine N.iconst C (pc' := 437) (z := 1) at_436 rfl rfl ?_
              refine N.goto C (pc' := 441) at_437 rfl ?_
              refine N.istore C (pc' := 443) (ls' := #[.val (.int start), .val (.int len), .val (.int gap), .val (.int craw), .val (.int mode), .val (.int (2 : Int32)), .val (.int wv), .val (.long l0), .second, .val (.long l1), .second, .val (.long l2), .second, .val (.long g1), .second, .val (.long g2), .second, .val (.long a0), .second, .val (.long b0), .second, .val (.long a1), .second, .val (.long b1), .second, .val (.long a2), .second, .val (.long b2), .second, .val (.long b1), .second, .val (.ref r), .val (.int (((mode.toUInt32 >>> ((3 : Int32) &&& 31).toUInt32).toInt32) &&& (7 : Int32))), .val (.long (((((mode.toUInt32 >>> ((6 : Int32) &&& 31).toUInt32).toInt32) &&& (3 : Int32)) - (1 : Int32)).toInt64)), .second, .val (.int c), .val (.long (c.toInt64)), .second, .val (.int (1 : Int32)), .unset]) at_441 rfl rfl ?_
              exact j443 _ (Or.inl ⟨rfl, by omega⟩)
            · refine N.iload C (pc' := 416) at_414 rfl rfl ?_
              refine N.iconst C (pc' := 417) (z := 3) at_416 rfl rfl ?_
              refine N.icmp C (pt := 440) (pf := 420) at_417 rfl rfl (fun _ => ?_) (fun (q : 3 ≤ 2) => absurd q (by decide))
              refine N.iconst C (pc' := 441) (z := 0) at_440 rfl rfl ?_
              refine N.istore C (pc' := 443) (ls' := #[.val (.int start), .val (.int len), .val (.int gap), .val (.int craw), .val (.int mode), .val (.int (2 : Int32)), .val (.int wv), .val (.long l0), .second, .val (.long l1), .second, .val (.long l2), .second, .val (.long g1), .second, .val (.long g2), .second, .val (.long a0), .second, .val (.long b0), .second, .val (.long a1), .second, .val (.long b1), .second, .val (.long a2), .second, .val (.long b2), .second, .val (.long b1), .second, .val (.ref r), .val (.int (((mode.toUInt32 >>> ((3 : Int32) &&& 31).toUInt32).toInt32) &&& (7 : Int32))), .val (.long (((((mode.toUInt32 >>> ((6 : Int32) &&& 31).toUInt32).toInt32) &&& (3 : Int32)) - (1 : Int32)).toInt64)), .second, .val (.int c), .val (.long (c.toInt64)), .second, .val (.int (0 : Int32)), .unset]) at_441 rfl rfl ?_
              exact j443 _ (Or.inr ⟨rfl, by omega⟩)
        · refine N.lload C (pc' := 386) at_384 rfl rfl ?_
          refine N.lload C (pc' := 388) at_386 rfl rfl ?_
          refine N.lcmp C (pc' := 389) at_388 rfl ?_
          refine N.lif C (pt := 436) (pf := 392) at_389 rfl rfl (fun (hc389 : (c.toInt64).toInt ≤ b0.toInt) => ?_) (fun (hc389 : b0.toInt < (c.toInt64).toInt) => ?_)
          · refine N.iconst C (pc' := 437) (z := 1) at_436 rfl rfl ?_
            refine N.goto C (pc' := 441) at_437 rfl ?_
            refine N.istore C (pc' := 443) (ls' := #[.val (.int start), .val (.int len), .val (.int gap), .val (.int craw), .val (.int mode), .val (.int (2 : Int32)), .val (.int wv), .val (.long l0), .second, .val (.long l1), .second, .val (.long l2), .second, .val (.long g1), .second, .val (.long g2), .second, .val (.long a0), .second, .val (.long b0), .second, .val (.long a1), .second, .val (.long b1), .second, .val (.long a2), .second, .val (.long b2), .second, .val (.long b1), .second, .val (.ref r), .val (.int (((mode.toUInt32 >>> ((3 : Int32) &&& 31).toUInt32).toInt32) &&& (7 : Int32))), .val (.long (((((mode.toUInt32 >>> ((6 : Int32) &&& 31).toUInt32).toInt32) &&& (3 : Int32)) - (1 : Int32)).toInt64)), .second, .val (.int c), .val (.long (c.toInt64)), .second, .val (.int (1 : Int32)), .unset]) at_441 rfl rfl ?_
            exact j443 _ (Or.inl ⟨rfl, by omega⟩)
          · refine N.iload C (pc' := 394) at_392 rfl rfl ?_
            refine N.iconst C (pc' := 395) (z := 2) at_394 rfl rfl ?_
            refine N.icmp C (pt := 414) (pf := 398) at_395 rfl rfl (fun (q : 2 < 2) => absurd q (by decide)) (fun _ => ?_)
            refine N.lload C (pc' := 400) at_398 rfl rfl ?_
            refine N.lload C (pc' := 402) at_400 rfl rfl ?_
            refine N.lcmp C (pc' := 403) at_402 rfl ?_
            refine N.lif C (pt := 414) (pf := 406) at_403 rfl rfl (fun (hc403 : (c.toInt64).toInt < a1.toInt) => ?_) (fun (hc403 : a1.toInt ≤ (c.toInt64).toInt) => ?_)
            · refine N.iload C (pc' := 416) at_414 rfl rfl ?_
              refine N.iconst C (pc' := 417) (z := 3) at_416 rfl rfl ?_
              refine N.icmp C (pt := 440) (pf := 420) at_417 rfl rfl (fun _ => ?_) (fun (q : 3 ≤ 2) => absurd q (by decide))
              refine N.iconst C (pc' := 441) (z := 0) at_440 rfl rfl ?_
              refine N.istore C (pc' := 443) (ls' := #[.val (.int start), .val (.int len), .val (.int gap), .val (.int craw), .val (.int mode), .val (.int (2 : Int32)), .val (.int wv), .val (.long l0), .second, .val (.long l1), .second, .val (.long l2), .second, .val (.long g1), .second, .val (.long g2), .second, .val (.long a0), .second, .val (.long b0), .second, .val (.long a1), .second, .val (.long b1), .second, .val (.long a2), .second, .val (.long b2), .second, .val (.long b1), .second, .val (.ref r), .val (.int (((mode.toUInt32 >>> ((3 : Int32) &&& 31).toUInt32).toInt32) &&& (7 : Int32))), .val (.long (((((mode.toUInt32 >>> ((6 : Int32) &&& 31).toUInt32).toInt32) &&& (3 : Int32)) - (1 : Int32)).toInt64)), .second, .val (.int c), .val (.long (c.toInt64)), .second, .val (.int (0 : Int32)), .unset]) at_441 rfl rfl ?_
              exact j443 _ (Or.inr ⟨rfl, by omega⟩)
            · refine N.lload C (pc' := 408) at_406 rfl rfl ?_
              refine N.lload C (pc' := 410) at_408 rfl rfl ?_
              refine N.lcmp C (pc' := 411) at_410 rfl ?_
              refine N.lif C (pt := 436) (pf := 414) at_411 rfl rfl (fun (hc411 : (c.toInt64).toInt ≤ b1.toInt) => ?_) (fun (hc411 : b1.toInt < (c.toInt64).toInt) => ?_)
              · refine N.iconst C (pc' := 437) (z := 1) at_436 rfl rfl ?_
                refine N.goto C (pc' := 441) at_437 rfl ?_
                refine N.istore C (pc' := 443) (ls' := #[.val (.int start), .val (.int len), .val (.int gap), .val (.int craw), .val (.int mode), .val (.int (2 : Int32)), .val (.int wv), .val (.long l0), .second, .val (.long l1), .second, .val (.long l2), .second, .val (.long g1), .second, .val (.long g2), .second, .val (.long a0), .second, .val (.long b0), .second, .val (.long a1), .second, .val (.long b1), .second, .val (.long a2), .second, .val (.long b2), .second, .val (.long b1), .second, .val (.ref r), .val (.int (((mode.toUInt32 >>> ((3 : Int32) &&& 31).toUInt32).toInt32) &&& (7 : Int32))), .val (.long (((((mode.toUInt32 >>> ((6 : Int32) &&& 31).toUInt32).toInt32) &&& (3 : Int32)) - (1 : Int32)).toInt64)), .second, .val (.int c), .val (.long (c.toInt64)), .second, .val (.int (1 : Int32)), .unset]) at_441 rfl rfl ?_
                exact j443 _ (Or.inl ⟨rfl, by omega⟩)
              · refine N.iload C (pc' := 416) at_414 rfl rfl ?_
                refine N.iconst C (pc' := 417) (z := 3) at_416 rfl rfl ?_
                refine N.icmp C (pt := 440) (pf := 420) at_417 rfl rfl (fun _ => ?_) (fun (q : 3 ≤ 2) => absurd q (by decide))
                refine N.iconst C (pc' := 441) (z := 0) at_440 rfl rfl ?_
                refine N.istore C (pc' := 443) (ls' := #[.val (.int start), .val (.int len), .val (.int gap), .val (.int craw), .val (.int mode), .val (.int (2 : Int32)), .val (.int wv), .val (.long l0), .second, .val (.long l1), .second, .val (.long l2), .second, .val (.long g1), .second, .val (.long g2), .second, .val (.long a0), .second, .val (.long b0), .second, .val (.long a1), .second, .val (.long b1), .second, .val (.long a2), .second, .val (.long b2), .second, .val (.long b1), .second, .val (.ref r), .val (.int (((mode.toUInt32 >>> ((3 : Int32) &&& 31).toUInt32).toInt32) &&& (7 : Int32))), .val (.long (((((mode.toUInt32 >>> ((6 : Int32) &&& 31).toUInt32).toInt32) &&& (3 : Int32)) - (1 : Int32)).toInt64)), .second, .val (.int c), .val (.long (c.toInt64)), .second, .val (.int (0 : Int32)), .unset]) at_441 rfl rfl ?_
                exact j443 _ (Or.inr ⟨rfl, by omega⟩)
      intro ev hev
      show N G K room_1 Q h217_5 (0 + 1) (0 + 4) 443 #[.val (.int start), .val (.int len), .val (.int gap), .val (.int craw), .val (.int mode), .val (.int (2 : Int32)), .val (.int wv), .val (.long l0), .second, .val (.long l1), .second, .val (.long l2), .second, .val (.long g1), .second, .val (.long g2), .second, .val (.long a0), .second, .val (.long b0), .second, .val (.long a1), .second, .val (.long b1), .second, .val (.long a2), .second, .val (.long b2), .second, .val (.long b1), .second, .val (.ref r), .val (.int (((mode.toUInt32 >>> ((3 : Int32) &&& 31).toUInt32).toInt32) &&& (7 : Int32))), .val (.long (((((mode.toUInt32 >>> ((6 : Int32) &&& 31).toUInt32).toInt32) &&& (3 : Int32)) - (1 : Int32)).toInt64)), .second, .val (.int c), .val (.long (c.toInt64)), .second, .val (.int ev), .unset] []
      refine N.newO C (pc' := 446) at_443 (C.w (i := 3) rfl) (C.w (i := 4) rfl) (C.w (i := 5) rfl) (by decide) (by decide) rfl (fun h443_6 x hx_x Ex443 E_x D_x => ?_)
      have ne_r_x : r ≠ x := by rw [hx_x]; exact Nat.ne_of_lt A_r.lt
      have ne_x_r := Ne.symm ne_r_x
      have g_x : G.n0 ≤ x := by rw [hx_x]; exact Z0
      have Z0 := Nat.le_trans Z0 Ex443.1
      have A_r := A_r.ext Ex443
      have F_x_ranges : Fld G.Z h443_6 x "quadrille/CharacterClass$Span" "ranges" "[I" .null := D_x (Or.inr (C.w (i := 18) rfl)) (ty := (.array .int)) (by decide)
      refine N.dup C (pc' := 447) at_446 rfl rfl ?_
      refine N.aload C (pc' := 449) at_447 rfl rfl rfl ?_
      refine N.callI C (pc' := 452) x [(.ref r)] at_449 rfl (C.w (i := 6) rfl) (C.w (i := 7) rfl) (C.w (i := 5) rfl) (C.w (i := 8) rfl) (by decide) (con1 G hw x r h443_6 Z0 g_x E_x F_x_ranges) (lenOf pd___I_V rfl) rfl (by decide) (show 1 + (2 + 11) + _ ≤ _ from by decide) (by decide) (by decide) (rest := [(.ref x)]) rfl rfl ?_
      rintro _ h449_7 ⟨rfl, KpI, F1I⟩
      have Z0 := Nat.le_trans Z0 KpI.1
      have E_x := E_x.keep KpI
      have A_r := A_r.keep KpI (ninS ne_r_x nin0)
      have F_x_ranges := F1I
      show N G K room_1 Q h449_7 ((0 + 1) + 1) ((0 + 4) + 1) 452 #[.val (.int start), .val (.int len), .val (.int gap), .val (.int craw), .val (.int mode), .val (.int (2 : Int32)), .val (.int wv), .val (.long l0), .second, .val (.long l1), .second, .val (.long l2), .second, .val (.long g1), .second, .val (.long g2), .second, .val (.long a0), .second, .val (.long b0), .second, .val (.long a1), .second, .val (.long b1), .second, .val (.long a2), .second, .val (.long b2), .second, .val (.long b1), .second, .val (.ref r), .val (.int (((mode.toUInt32 >>> ((3 : Int32) &&& 31).toUInt32).toInt32) &&& (7 : Int32))), .val (.long (((((mode.toUInt32 >>> ((6 : Int32) &&& 31).toUInt32).toInt32) &&& (3 : Int32)) - (1 : Int32)).toInt64)), .second, .val (.int c), .val (.long (c.toInt64)), .second, .val (.int ev), .unset] [(.ref x)]
      refine N.iload C (pc' := 454) at_452 rfl rfl ?_
      have t_a0 : a0.toInt32.toInt = a0.toInt := own_l2i (by omega) (by omega)
      have t_b0 : b0.toInt32.toInt = b0.toInt := own_l2i (by omega) (by omega)
      have t_a1 : a1.toInt32.toInt = a1.toInt := own_l2i (by omega) (by omega)
      have t_b1 : b1.toInt32.toInt = b1.toInt := own_l2i (by omega) (by omega)
      have hsrt : own_srt [a0.toInt32, b0.toInt32, a1.toInt32, b1.toInt32] := (by
          intro i j x y hx hy hij
          have hi := (List.getElem?_eq_some_iff.mp hx).1
          have hj := (List.getElem?_eq_some_iff.mp hy).1
          simp only [List.length_cons, List.length_nil] at hi hj
          rcases (by omega : i = 0 ∨ i = 1 ∨ i = 2 ∨ i = 3) with rfl | rfl | rfl | rfl <;> rcases (by omega : j = 0 ∨ j = 1 ∨ j = 2 ∨ j = 3) with rfl | rfl | rfl | rfl <;> first | omega | (cases hx; cases hy; omega))
      refine N.callV C (pc' := 457) x [(.int c)] at_454 (C.w (i := 19) rfl) (C.w (i := 20) rfl) (C.w (i := 22) rfl) (C.w (i := 21) rfl) (C.w (i := 5) rfl) (C.w (i := 23) rfl) (by decide) E_x (con4 G hw x r c (4 : Int32) [a0.toInt32, b0.toInt32, a1.toInt32, b1.toInt32] h449_7 (show (4 : Int32).toInt = ((4 : Nat) : Int) from by decide) (show 4 ≤ 6 from by decide) hsrt F_x_ranges A_r) (lenOf pd__I_Z rfl) rfl (by decide) (show 0 + (5 + 11) + _ ≤ _ from by decide) (by decide) (by decide) (rest := []) rfl rfl ?_
      rintro _ h454_8 ⟨z, lo, y, rfl, rfl, hB, hy, hz⟩
      show N G K room_1 Q h449_7 ((0 + 1) + 1) ((0 + 4) + 1) 457 #[.val (.int start), .val (.int len), .val (.int gap), .val (.int craw), .val (.int mode), .val (.int (2 : Int32)), .val (.int wv), .val (.long l0), .second, .val (.long l1), .second, .val (.long l2), .second, .val (.long g1), .second, .val (.long g2), .second, .val (.long a0), .second, .val (.long b0), .second, .val (.long a1), .second, .val (.long b1), .second, .val (.long a2), .second, .val (.long b2), .second, .val (.long b1), .second, .val (.ref r), .val (.int (((mode.toUInt32 >>> ((3 : Int32) &&& 31).toUInt32).toInt32) &&& (7 : Int32))), .val (.long (((((mode.toUInt32 >>> ((6 : Int32) &&& 31).toUInt32).toInt32) &&& (3 : Int32)) - (1 : Int32)).toInt64)), .second, .val (.int c), .val (.long (c.toInt64)), .second, .val (.int ev), .unset] [(.int z)]
      refine N.istore C (pc' := 459) (ls' := #[.val (.int start), .val (.int len), .val (.int gap), .val (.int craw), .val (.int mode), .val (.int (2 : Int32)), .val (.int wv), .val (.long l0), .second, .val (.long l1), .second, .val (.long l2), .second, .val (.long g1), .second, .val (.long g2), .second, .val (.long a0), .second, .val (.long b0), .second, .val (.long a1), .second, .val (.long b1), .second, .val (.long a2), .second, .val (.long b2), .second, .val (.long b1), .second, .val (.ref r), .val (.int (((mode.toUInt32 >>> ((3 : Int32) &&& 31).toUInt32).toInt32) &&& (7 : Int32))), .val (.long (((((mode.toUInt32 >>> ((6 : Int32) &&& 31).toUInt32).toInt32) &&& (3 : Int32)) - (1 : Int32)).toInt64)), .second, .val (.int c), .val (.long (c.toInt64)), .second, .val (.int ev), .val (.int z)]) at_457 rfl rfl ?_
      have k0 := hB.2.2.1 0 _ rfl
      have m0 := hB.2.2.2 0 _ rfl
      have y0 := hy 0 _ rfl
      have k1 := hB.2.2.1 1 _ rfl
      have m1 := hB.2.2.2 1 _ rfl
      have y1 := hy 1 _ rfl
      have k2 := hB.2.2.1 2 _ rfl
      have m2 := hB.2.2.2 2 _ rfl
      have y2 := hy 2 _ rfl
      have k3 := hB.2.2.1 3 _ rfl
      have m3 := hB.2.2.2 3 _ rfl
      have y3 := hy 3 _ rfl
      have hlo := hB.2.1
      simp only [List.length_cons, List.length_nil] at hlo hz
      have hev2 : ev = (1 : Int32) ∨ ev = (0 : Int32) := hev.imp (·.1) (·.1)
      have hzz : z = ev := own_zz hz hev2 (fun e R => by
        rcases hev with ⟨-, q⟩ | ⟨e', -⟩
        · omega
        · rw [e'] at e; exact absurd e (by decide)) (fun e R => by
        rcases hev with ⟨e', -⟩ | ⟨-, q⟩
        · rw [e'] at e; exact absurd e (by decide)
        · omega)
      refine N.iload C (pc' := 461) at_459 rfl rfl ?_
      refine N.iload C (pc' := 463) at_461 rfl rfl ?_
      refine N.icmp C (pt := 470) (pf := 466) at_463 rfl rfl (fun (hc463 : ¬ z = ev) => absurd (show False from by exact hc463 hzz) id) (fun (hc463 : z = ev) => ?_)
      refine N.iconst C (pc' := 467) (z := 1) at_466 rfl rfl ?_
      refine N.goto C (pc' := 471) at_467 rfl ?_
      exact N.retN C (by simp) (z' := (1 : Int32)) rfl at_471 (by decide) (by decide) (by subst hQ; exact rfl)
    · refine N.iconst C (pc' := 169) (z := 1) at_168 rfl rfl ?_
      exact N.retN C (by simp) (z' := (1 : Int32)) rfl at_169 (by decide) (by decide) (by subst hQ; exact rfl)
  · rw [e]
    refine N.istore C (pc' := 6) (ls' := #[.val (.int start), .val (.int len), .val (.int gap), .val (.int craw), .val (.int mode), .val (.int (3 : Int32)), .unset, .unset, .unset, .unset, .unset, .unset, .unset, .unset, .unset, .unset, .unset, .unset, .unset, .unset, .unset, .unset, .unset, .unset, .unset, .unset, .unset, .unset, .unset, .unset, .unset, .unset, .unset, .unset, .unset, .unset, .unset, .unset, .unset, .unset]) at_4 rfl rfl ?_
    suffices j42 : ∀ (wv : Int32) (l0 : Int64), 0 ≤ l0.toInt ∧ l0.toInt ≤ 2147483647 → N G K room_1 Q h 0 0 42 #[.val (.int start), .val (.int len), .val (.int gap), .val (.int craw), .val (.int mode), .val (.int (3 : Int32)), .val (.int wv), .val (.long l0), .second, .unset, .unset, .unset, .unset, .unset, .unset, .unset, .unset, .unset, .unset, .unset, .unset, .unset, .unset, .unset, .unset, .unset, .unset, .unset, .unset, .unset, .unset, .unset, .unset, .unset, .unset, .unset, .unset, .unset, .unset, .unset] [] by
      refine N.iload C (pc' := 8) at_6 rfl rfl ?_
      refine N.iconst C (pc' := 9) (z := 4) at_8 rfl rfl ?_
      refine N.iand C (pc' := 10) at_9 rfl ?_
      refine N.ifc C (pt := 17) (pf := 13) at_10 rfl rfl (fun (hc10 : (mode &&& (4 : Int32)) = (0 : Int32)) => ?_) (fun (hc10 : ¬ (mode &&& (4 : Int32)) = (0 : Int32)) => ?_)
      · have hi10 : (mode &&& (4 : Int32)).toInt = 0 := eqI hc10
        refine N.iconst C (pc' := 18) (z := 0) at_17 rfl rfl ?_
        refine N.istore C (pc' := 20) (ls' := #[.val (.int start), .val (.int len), .val (.int gap), .val (.int craw), .val (.int mode), .val (.int (3 : Int32)), .val (.int (0 : Int32)), .unset, .unset, .unset, .unset, .unset, .unset, .unset, .unset, .unset, .unset, .unset, .unset, .unset, .unset, .unset, .unset, .unset, .unset, .unset, .unset, .unset, .unset, .unset, .unset, .unset, .unset, .unset, .unset, .unset, .unset, .unset, .unset, .unset]) at_18 rfl rfl ?_
        refine N.iload C (pc' := 22) at_20 rfl rfl ?_
        refine N.ifc C (pt := 34) (pf := 25) at_22 rfl rfl (fun _ => ?_) (fun (q : ¬ (0 : Int32) = (0 : Int32)) => absurd q (by decide))
        refine N.iloadN C (pc' := 35) at_34 rfl rfl ?_
        refine N.sipush C (pc' := 38) (z := 1023) at_35 rfl rfl ?_
        refine N.iand C (pc' := 39) at_38 rfl ?_
        refine N.i2l C (pc' := 40) at_39 rfl ?_
        refine N.lstore C (pc' := 42) (ls' := #[.val (.int start), .val (.int len), .val (.int gap), .val (.int craw), .val (.int mode), .val (.int (3 : Int32)), .val (.int (0 : Int32)), .val (.long ((len &&& (1023 : Int32)).toInt64)), .second, .unset, .unset, .unset, .unset, .unset, .unset, .unset, .unset, .unset, .unset, .unset, .unset, .unset, .unset, .unset, .unset, .unset, .unset, .unset, .unset, .unset, .unset, .unset, .unset, .unset, .unset, .unset, .unset, .unset, .unset, .unset]) at_40 rfl rfl ?_
        exact j42 _ _ (by have := own_and (x := len) (m := 1023) (k := 1023) (by decide) (by decide); omega)
      · have hi10 : ¬ (mode &&& (4 : Int32)).toInt = 0 := neI hc10
        refine N.iconst C (pc' := 14) (z := 1) at_13 rfl rfl ?_
        refine N.goto C (pc' := 18) at_14 rfl ?_
        refine N.istore C (pc' := 20) (ls' := #[.val (.int start), .val (.int len), .val (.int gap), .val (.int craw), .val (.int mode), .val (.int (3 : Int32)), .val (.int (1 : Int32)), .unset, .unset, .unset, .unset, .unset, .unset, .unset, .unset, .unset, .unset, .unset, .unset, .unset, .unset, .unset, .unset, .unset, .unset, .unset, .unset, .unset, .unset, .unset, .unset, .unset, .unset, .unset, .unset, .unset, .unset, .unset, .unset, .unset]) at_18 rfl rfl ?_
        refine N.iload C (pc' := 22) at_20 rfl rfl ?_
        refine N.ifc C (pt := 34) (pf := 25) at_22 rfl rfl (fun (q : (1 : Int32) = (0 : Int32)) => absurd q (by decide)) (fun _ => ?_)
        refine N.iloadN C (pc' := 26) at_25 rfl rfl ?_
        refine N.i2l C (pc' := 27) at_26 rfl ?_
        refine N.ldcL C (pc' := 30) (v := 2147483647) at_27 (C.w (i := 24) rfl) rfl ?_
        refine N.land C (pc' := 31) at_30 rfl ?_
        refine N.goto C (pc' := 40) at_31 rfl ?_
        refine N.lstore C (pc' := 42) (ls' := #[.val (.int start), .val (.int len), .val (.int gap), .val (.int craw), .val (.int mode), .val (.int (3 : Int32)), .val (.int (1 : Int32)), .val (.long ((len.toInt64) &&& (2147483647 : Int64))), .second, .unset, .unset, .unset, .unset, .unset, .unset, .unset, .unset, .unset, .unset, .unset, .unset, .unset, .unset, .unset, .unset, .unset, .unset, .unset, .unset, .unset, .unset, .unset, .unset, .unset, .unset, .unset, .unset, .unset, .unset, .unset]) at_40 rfl rfl ?_
        exact j42 _ _ (own_w _)
    intro wv l0 h_l0
    refine N.iloadN C (pc' := 43) at_42 rfl rfl ?_
    refine N.bipush C (pc' := 45) (z := 10) at_43 rfl rfl ?_
    refine N.iushr C (pc' := 46) at_45 rfl ?_
    refine N.sipush C (pc' := 49) (z := 1023) at_46 rfl rfl ?_
    refine N.iand C (pc' := 50) at_49 rfl ?_
    refine N.i2l C (pc' := 51) at_50 rfl ?_
    have h_l1 : 0 ≤ ((((len.toUInt32 >>> ((10 : Int32) &&& 31).toUInt32).toInt32) &&& (1023 : Int32)).toInt64).toInt ∧ ((((len.toUInt32 >>> ((10 : Int32) &&& 31).toUInt32).toInt32) &&& (1023 : Int32)).toInt64).toInt ≤ 1023 := own_and (by decide) (by decide)
    generalize hd_l1 : ((((len.toUInt32 >>> ((10 : Int32) &&& 31).toUInt32).toInt32) &&& (1023 : Int32)).toInt64) = l1 at *
    refine N.lstore C (pc' := 53) (ls' := #[.val (.int start), .val (.int len), .val (.int gap), .val (.int craw), .val (.int mode), .val (.int (3 : Int32)), .val (.int wv), .val (.long l0), .second, .val (.long l1), .second, .unset, .unset, .unset, .unset, .unset, .unset, .unset, .unset, .unset, .unset, .unset, .unset, .unset, .unset, .unset, .unset, .unset, .unset, .unset, .unset, .unset, .unset, .unset, .unset, .unset, .unset, .unset, .unset, .unset]) at_51 rfl rfl ?_
    refine N.iloadN C (pc' := 54) at_53 rfl rfl ?_
    refine N.bipush C (pc' := 56) (z := 20) at_54 rfl rfl ?_
    refine N.iushr C (pc' := 57) at_56 rfl ?_
    refine N.sipush C (pc' := 60) (z := 1023) at_57 rfl rfl ?_
    refine N.iand C (pc' := 61) at_60 rfl ?_
    refine N.i2l C (pc' := 62) at_61 rfl ?_
    have h_l2 : 0 ≤ ((((len.toUInt32 >>> ((20 : Int32) &&& 31).toUInt32).toInt32) &&& (1023 : Int32)).toInt64).toInt ∧ ((((len.toUInt32 >>> ((20 : Int32) &&& 31).toUInt32).toInt32) &&& (1023 : Int32)).toInt64).toInt ≤ 1023 := own_and (by decide) (by decide)
    generalize hd_l2 : ((((len.toUInt32 >>> ((20 : Int32) &&& 31).toUInt32).toInt32) &&& (1023 : Int32)).toInt64) = l2 at *
    refine N.lstore C (pc' := 64) (ls' := #[.val (.int start), .val (.int len), .val (.int gap), .val (.int craw), .val (.int mode), .val (.int (3 : Int32)), .val (.int wv), .val (.long l0), .second, .val (.long l1), .second, .val (.long l2), .second, .unset, .unset, .unset, .unset, .unset, .unset, .unset, .unset, .unset, .unset, .unset, .unset, .unset, .unset, .unset, .unset, .unset, .unset, .unset, .unset, .unset, .unset, .unset, .unset, .unset, .unset, .unset]) at_62 rfl rfl ?_
    refine N.iloadN C (pc' := 65) at_64 rfl rfl ?_
    refine N.ldcI C (pc' := 67) (v := 65535) at_65 (C.w (i := 0) rfl) rfl ?_
    refine N.iand C (pc' := 68) at_67 rfl ?_
    refine N.i2l C (pc' := 69) at_68 rfl ?_
    have h_g1 : 0 ≤ ((gap &&& (65535 : Int32)).toInt64).toInt ∧ ((gap &&& (65535 : Int32)).toInt64).toInt ≤ 65535 := own_and (by decide) (by decide)
    generalize hd_g1 : ((gap &&& (65535 : Int32)).toInt64) = g1 at *
    refine N.lstore C (pc' := 71) (ls' := #[.val (.int start), .val (.int len), .val (.int gap), .val (.int craw), .val (.int mode), .val (.int (3 : Int32)), .val (.int wv), .val (.long l0), .second, .val (.long l1), .second, .val (.long l2), .second, .val (.long g1), .second, .unset, .unset, .unset, .unset, .unset, .unset, .unset, .unset, .unset, .unset, .unset, .unset, .unset, .unset, .unset, .unset, .unset, .unset, .unset, .unset, .unset, .unset, .unset, .unset, .unset]) at_69 rfl rfl ?_
    refine N.iloadN C (pc' := 72) at_71 rfl rfl ?_
    refine N.bipush C (pc' := 74) (z := 16) at_72 rfl rfl ?_
    refine N.iushr C (pc' := 75) at_74 rfl ?_
    refine N.ldcI C (pc' := 77) (v := 65535) at_75 (C.w (i := 0) rfl) rfl ?_
    refine N.iand C (pc' := 78) at_77 rfl ?_
    refine N.i2l C (pc' := 79) at_78 rfl ?_
    have h_g2 : 0 ≤ ((((gap.toUInt32 >>> ((16 : Int32) &&& 31).toUInt32).toInt32) &&& (65535 : Int32)).toInt64).toInt ∧ ((((gap.toUInt32 >>> ((16 : Int32) &&& 31).toUInt32).toInt32) &&& (65535 : Int32)).toInt64).toInt ≤ 65535 := own_and (by decide) (by decide)
    generalize hd_g2 : ((((gap.toUInt32 >>> ((16 : Int32) &&& 31).toUInt32).toInt32) &&& (65535 : Int32)).toInt64) = g2 at *
    refine N.lstore C (pc' := 81) (ls' := #[.val (.int start), .val (.int len), .val (.int gap), .val (.int craw), .val (.int mode), .val (.int (3 : Int32)), .val (.int wv), .val (.long l0), .second, .val (.long l1), .second, .val (.long l2), .second, .val (.long g1), .second, .val (.long g2), .second, .unset, .unset, .unset, .unset, .unset, .unset, .unset, .unset, .unset, .unset, .unset, .unset, .unset, .unset, .unset, .unset, .unset, .unset, .unset, .unset, .unset, .unset, .unset]) at_79 rfl rfl ?_
    refine N.iloadN C (pc' := 82) at_81 rfl rfl ?_
    refine N.i2l C (pc' := 83) at_82 rfl ?_
    have h_a0 : start.toInt64.toInt = start.toInt := c_i2l start
    have r_a0 := rng32 start
    generalize hd_a0 : (start.toInt64) = a0 at *
    refine N.lstore C (pc' := 85) (ls' := #[.val (.int start), .val (.int len), .val (.int gap), .val (.int craw), .val (.int mode), .val (.int (3 : Int32)), .val (.int wv), .val (.long l0), .second, .val (.long l1), .second, .val (.long l2), .second, .val (.long g1), .second, .val (.long g2), .second, .val (.long a0), .second, .unset, .unset, .unset, .unset, .unset, .unset, .unset, .unset, .unset, .unset, .unset, .unset, .unset, .unset, .unset, .unset, .unset, .unset, .unset, .unset, .unset]) at_83 rfl rfl ?_
    refine N.lload C (pc' := 87) at_85 rfl rfl ?_
    refine N.lload C (pc' := 89) at_87 rfl rfl ?_
    refine N.ladd C (pc' := 90) at_89 rfl ?_
    have o2 := own_two
    have h_b0 : (a0 + l0).toInt = a0.toInt + l0.toInt := by
      rw [own_addL (by first | omega | (rw [own_addL (by omega) (by omega) (by omega) (by omega)]; omega)) (by first | omega | (rw [own_addL (by omega) (by omega) (by omega) (by omega)]; omega)) (by first | omega | (rw [own_addL (by omega) (by omega) (by omega) (by omega)]; omega)) (by first | omega | (rw [own_addL (by omega) (by omega) (by omega) (by omega)]; omega))]
    generalize hd_b0 : (a0 + l0) = b0 at *
    refine N.lstore C (pc' := 92) (ls' := #[.val (.int start), .val (.int len), .val (.int gap), .val (.int craw), .val (.int mode), .val (.int (3 : Int32)), .val (.int wv), .val (.long l0), .second, .val (.long l1), .second, .val (.long l2), .second, .val (.long g1), .second, .val (.long g2), .second, .val (.long a0), .second, .val (.long b0), .second, .unset, .unset, .unset, .unset, .unset, .unset, .unset, .unset, .unset, .unset, .unset, .unset, .unset, .unset, .unset, .unset, .unset, .unset, .unset]) at_90 rfl rfl ?_
    refine N.lload C (pc' := 94) at_92 rfl rfl ?_
    refine N.ldcL C (pc' := 97) (v := 2) at_94 (C.w (i := 1) rfl) rfl ?_
    refine N.ladd C (pc' := 98) at_97 rfl ?_
    refine N.lload C (pc' := 100) at_98 rfl rfl ?_
    refine N.ladd C (pc' := 101) at_100 rfl ?_
    have o2 := own_two
    have h_a1 : ((b0 + (2 : Int64)) + g1).toInt = b0.toInt + (2 : Int64).toInt + g1.toInt := by
      rw [own_addL (by first | omega | (rw [own_addL (by omega) (by omega) (by omega) (by omega)]; omega)) (by first | omega | (rw [own_addL (by omega) (by omega) (by omega) (by omega)]; omega)) (by first | omega | (rw [own_addL (by omega) (by omega) (by omega) (by omega)]; omega)) (by first | omega | (rw [own_addL (by omega) (by omega) (by omega) (by omega)]; omega))]; rw [own_addL (by first | omega | (rw [own_addL (by omega) (by omega) (by omega) (by omega)]; omega)) (by first | omega | (rw [own_addL (by omega) (by omega) (by omega) (by omega)]; omega)) (by first | omega | (rw [own_addL (by omega) (by omega) (by omega) (by omega)]; omega)) (by first | omega | (rw [own_addL (by omega) (by omega) (by omega) (by omega)]; omega))]
    generalize hd_a1 : ((b0 + (2 : Int64)) + g1) = a1 at *
    refine N.lstore C (pc' := 103) (ls' := #[.val (.int start), .val (.int len), .val (.int gap), .val (.int craw), .val (.int mode), .val (.int (3 : Int32)), .val (.int wv), .val (.long l0), .second, .val (.long l1), .second, .val (.long l2), .second, .val (.long g1), .second, .val (.long g2), .second, .val (.long a0), .second, .val (.long b0), .second, .val (.long a1), .second, .unset, .unset, .unset, .unset, .unset, .unset, .unset, .unset, .unset, .unset, .unset, .unset, .unset, .unset, .unset, .unset, .unset]) at_101 rfl rfl ?_
    refine N.lload C (pc' := 105) at_103 rfl rfl ?_
    refine N.lload C (pc' := 107) at_105 rfl rfl ?_
    refine N.ladd C (pc' := 108) at_107 rfl ?_
    have o2 := own_two
    have h_b1 : (a1 + l1).toInt = a1.toInt + l1.toInt := by
      rw [own_addL (by first | omega | (rw [own_addL (by omega) (by omega) (by omega) (by omega)]; omega)) (by first | omega | (rw [own_addL (by omega) (by omega) (by omega) (by omega)]; omega)) (by first | omega | (rw [own_addL (by omega) (by omega) (by omega) (by omega)]; omega)) (by first | omega | (rw [own_addL (by omega) (by omega) (by omega) (by omega)]; omega))]
    generalize hd_b1 : (a1 + l1) = b1 at *
    refine N.lstore C (pc' := 110) (ls' := #[.val (.int start), .val (.int len), .val (.int gap), .val (.int craw), .val (.int mode), .val (.int (3 : Int32)), .val (.int wv), .val (.long l0), .second, .val (.long l1), .second, .val (.long l2), .second, .val (.long g1), .second, .val (.long g2), .second, .val (.long a0), .second, .val (.long b0), .second, .val (.long a1), .second, .val (.long b1), .second, .unset, .unset, .unset, .unset, .unset, .unset, .unset, .unset, .unset, .unset, .unset, .unset, .unset, .unset, .unset]) at_108 rfl rfl ?_
    refine N.lload C (pc' := 112) at_110 rfl rfl ?_
    refine N.ldcL C (pc' := 115) (v := 2) at_112 (C.w (i := 1) rfl) rfl ?_
    refine N.ladd C (pc' := 116) at_115 rfl ?_
    refine N.lload C (pc' := 118) at_116 rfl rfl ?_
    refine N.ladd C (pc' := 119) at_118 rfl ?_
    have o2 := own_two
    have h_a2 : ((b1 + (2 : Int64)) + g2).toInt = b1.toInt + (2 : Int64).toInt + g2.toInt := by
      rw [own_addL (by first | omega | (rw [own_addL (by omega) (by omega) (by omega) (by omega)]; omega)) (by first | omega | (rw [own_addL (by omega) (by omega) (by omega) (by omega)]; omega)) (by first | omega | (rw [own_addL (by omega) (by omega) (by omega) (by omega)]; omega)) (by first | omega | (rw [own_addL (by omega) (by omega) (by omega) (by omega)]; omega))]; rw [own_addL (by first | omega | (rw [own_addL (by omega) (by omega) (by omega) (by omega)]; omega)) (by first | omega | (rw [own_addL (by omega) (by omega) (by omega) (by omega)]; omega)) (by first | omega | (rw [own_addL (by omega) (by omega) (by omega) (by omega)]; omega)) (by first | omega | (rw [own_addL (by omega) (by omega) (by omega) (by omega)]; omega))]
    generalize hd_a2 : ((b1 + (2 : Int64)) + g2) = a2 at *
    refine N.lstore C (pc' := 121) (ls' := #[.val (.int start), .val (.int len), .val (.int gap), .val (.int craw), .val (.int mode), .val (.int (3 : Int32)), .val (.int wv), .val (.long l0), .second, .val (.long l1), .second, .val (.long l2), .second, .val (.long g1), .second, .val (.long g2), .second, .val (.long a0), .second, .val (.long b0), .second, .val (.long a1), .second, .val (.long b1), .second, .val (.long a2), .second, .unset, .unset, .unset, .unset, .unset, .unset, .unset, .unset, .unset, .unset, .unset, .unset, .unset]) at_119 rfl rfl ?_
    refine N.lload C (pc' := 123) at_121 rfl rfl ?_
    refine N.lload C (pc' := 125) at_123 rfl rfl ?_
    refine N.ladd C (pc' := 126) at_125 rfl ?_
    have o2 := own_two
    have h_b2 : (a2 + l2).toInt = a2.toInt + l2.toInt := by
      rw [own_addL (by first | omega | (rw [own_addL (by omega) (by omega) (by omega) (by omega)]; omega)) (by first | omega | (rw [own_addL (by omega) (by omega) (by omega) (by omega)]; omega)) (by first | omega | (rw [own_addL (by omega) (by omega) (by omega) (by omega)]; omega)) (by first | omega | (rw [own_addL (by omega) (by omega) (by omega) (by omega)]; omega))]
    generalize hd_b2 : (a2 + l2) = b2 at *
    refine N.lstore C (pc' := 128) (ls' := #[.val (.int start), .val (.int len), .val (.int gap), .val (.int craw), .val (.int mode), .val (.int (3 : Int32)), .val (.int wv), .val (.long l0), .second, .val (.long l1), .second, .val (.long l2), .second, .val (.long g1), .second, .val (.long g2), .second, .val (.long a0), .second, .val (.long b0), .second, .val (.long a1), .second, .val (.long b1), .second, .val (.long a2), .second, .val (.long b2), .second, .unset, .unset, .unset, .unset, .unset, .unset, .unset, .unset, .unset, .unset, .unset]) at_126 rfl rfl ?_
    refine N.iload C (pc' := 130) at_128 rfl rfl ?_
    refine N.iconst C (pc' := 131) (z := 1) at_130 rfl rfl ?_
    refine N.icmp C (pt := 139) (pf := 134) at_131 rfl rfl (fun _ => ?_) (fun (q : (3 : Int32) = (1 : Int32)) => absurd q (by decide))
    refine N.iload C (pc' := 141) at_139 rfl rfl ?_
    refine N.iconst C (pc' := 142) (z := 2) at_141 rfl rfl ?_
    refine N.icmp C (pt := 150) (pf := 145) at_142 rfl rfl (fun _ => ?_) (fun (q : (3 : Int32) = (2 : Int32)) => absurd q (by decide))
    refine N.lload C (pc' := 152) at_150 rfl rfl ?_
    refine N.lstore C (pc' := 154) (ls' := #[.val (.int start), .val (.int len), .val (.int gap), .val (.int craw), .val (.int mode), .val (.int (3 : Int32)), .val (.int wv), .val (.long l0), .second, .val (.long l1), .second, .val (.long l2), .second, .val (.long g1), .second, .val (.long g2), .second, .val (.long a0), .second, .val (.long b0), .second, .val (.long a1), .second, .val (.long b1), .second, .val (.long a2), .second, .val (.long b2), .second, .val (.long b2), .second, .unset, .unset, .unset, .unset, .unset, .unset, .unset, .unset, .unset]) at_152 rfl rfl ?_
    refine N.iload C (pc' := 156) at_154 rfl rfl ?_
    refine N.ifc C (pt := 170) (pf := 159) at_156 rfl rfl (fun (q : 3 ≤ 0) => absurd q (by decide)) (fun _ => ?_)
    refine N.lload C (pc' := 161) at_159 rfl rfl ?_
    refine N.ldcL C (pc' := 164) (v := 2147483647) at_161 (C.w (i := 24) rfl) rfl ?_
    refine N.lcmp C (pc' := 165) at_164 rfl ?_
    refine N.lif C (pt := 170) (pf := 168) at_165 rfl rfl (fun (hc165 : b2.toInt ≤ 2147483647) => ?_) (fun (hc165 : 2147483647 < b2.toInt) => ?_)
    · refine N.iconst C (pc' := 171) (z := 2) at_170 rfl rfl ?_
      refine N.iload C (pc' := 173) at_171 rfl rfl ?_
      refine N.imul C (pc' := 174) at_173 rfl ?_
      show N G K room_1 Q h 0 0 174 #[.val (.int start), .val (.int len), .val (.int gap), .val (.int craw), .val (.int mode), .val (.int (3 : Int32)), .val (.int wv), .val (.long l0), .second, .val (.long l1), .second, .val (.long l2), .second, .val (.long g1), .second, .val (.long g2), .second, .val (.long a0), .second, .val (.long b0), .second, .val (.long a1), .second, .val (.long b1), .second, .val (.long a2), .second, .val (.long b2), .second, .val (.long b2), .second, .unset, .unset, .unset, .unset, .unset, .unset, .unset, .unset, .unset] [(.int (6 : Int32))]
      refine N.newP C (pc' := 176) (n := (6 : Int32)) 6 at_174 (C.w (i := 2) rfl) (by decide) (by decide) (by decide) (by decide) (by decide) rfl (fun h174_1 r hx_r Ex174 A'_r => ?_)
      have g_r : G.n0 ≤ r := by rw [hx_r]; exact Z0
      have Z0 := Nat.le_trans Z0 Ex174.1
      have A_r : Av G.Z h174_1 r .int [(.int (0 : Int32)), (.int (0 : Int32)), (.int (0 : Int32)), (.int (0 : Int32)), (.int (0 : Int32)), (.int (0 : Int32))] := A'_r
      refine N.astore C (pc' := 178) (ls' := #[.val (.int start), .val (.int len), .val (.int gap), .val (.int craw), .val (.int mode), .val (.int (3 : Int32)), .val (.int wv), .val (.long l0), .second, .val (.long l1), .second, .val (.long l2), .second, .val (.long g1), .second, .val (.long g2), .second, .val (.long a0), .second, .val (.long b0), .second, .val (.long a1), .second, .val (.long b1), .second, .val (.long a2), .second, .val (.long b2), .second, .val (.long b2), .second, .val (.ref r), .unset, .unset, .unset, .unset, .unset, .unset, .unset, .unset]) at_176 rfl rfl rfl ?_
      refine N.iload C (pc' := 180) at_178 rfl rfl ?_
      refine N.iconst C (pc' := 181) (z := 1) at_180 rfl rfl ?_
      refine N.icmp C (pt := 198) (pf := 184) at_181 rfl rfl (fun (q : 3 < 1) => absurd q (by decide)) (fun _ => ?_)
      refine N.aload C (pc' := 186) at_184 rfl rfl rfl ?_
      refine N.iconst C (pc' := 187) (z := 0) at_186 rfl rfl ?_
      refine N.lload C (pc' := 189) at_187 rfl rfl ?_
      refine N.l2i C (pc' := 190) at_189 rfl ?_
      refine N.iastore C (pc' := 191) (i := 0) at_190 A_r rfl (show 0 < 6 from by decide) g_r rfl (fun h190_2 W190 A_r => ?_)
      have Z0 : G.n0 ≤ _ := (Wr.size W190).symm ▸ Z0
      have A_r : Av G.Z h190_2 r .int [(.int (a0.toInt32)), (.int (0 : Int32)), (.int (0 : Int32)), (.int (0 : Int32)), (.int (0 : Int32)), (.int (0 : Int32))] := A_r
      refine N.aload C (pc' := 193) at_191 rfl rfl rfl ?_
      refine N.iconst C (pc' := 194) (z := 1) at_193 rfl rfl ?_
      refine N.lload C (pc' := 196) at_194 rfl rfl ?_
      refine N.l2i C (pc' := 197) at_196 rfl ?_
      refine N.iastore C (pc' := 198) (i := 1) at_197 A_r rfl (show 1 < 6 from by decide) g_r rfl (fun h197_3 W197 A_r => ?_)
      have Z0 : G.n0 ≤ _ := (Wr.size W197).symm ▸ Z0
      have A_r : Av G.Z h197_3 r .int [(.int (a0.toInt32)), (.int (b0.toInt32)), (.int (0 : Int32)), (.int (0 : Int32)), (.int (0 : Int32)), (.int (0 : Int32))] := A_r
      refine N.iload C (pc' := 200) at_198 rfl rfl ?_
      refine N.iconst C (pc' := 201) (z := 2) at_200 rfl rfl ?_
      refine N.icmp C (pt := 218) (pf := 204) at_201 rfl rfl (fun (q : 3 < 2) => absurd q (by decide)) (fun _ => ?_)
      refine N.aload C (pc' := 206) at_204 rfl rfl rfl ?_
      refine N.iconst C (pc' := 207) (z := 2) at_206 rfl rfl ?_
      refine N.lload C (pc' := 209) at_207 rfl rfl ?_
      refine N.l2i C (pc' := 210) at_209 rfl ?_
      refine N.iastore C (pc' := 211) (i := 2) at_210 A_r rfl (show 2 < 6 from by decide) g_r rfl (fun h210_4 W210 A_r => ?_)
      have Z0 : G.n0 ≤ _ := (Wr.size W210).symm ▸ Z0
      have A_r : Av G.Z h210_4 r .int [(.int (a0.toInt32)), (.int (b0.toInt32)), (.int (a1.toInt32)), (.int (0 : Int32)), (.int (0 : Int32)), (.int (0 : Int32))] := A_r
      refine N.aload C (pc' := 213) at_211 rfl rfl rfl ?_
      refine N.iconst C (pc' := 214) (z := 3) at_213 rfl rfl ?_
      refine N.lload C (pc' := 216) at_214 rfl rfl ?_
      refine N.l2i C (pc' := 217) at_216 rfl ?_
      refine N.iastore C (pc' := 218) (i := 3) at_217 A_r rfl (show 3 < 6 from by decide) g_r rfl (fun h217_5 W217 A_r => ?_)
      have Z0 : G.n0 ≤ _ := (Wr.size W217).symm ▸ Z0
      have A_r : Av G.Z h217_5 r .int [(.int (a0.toInt32)), (.int (b0.toInt32)), (.int (a1.toInt32)), (.int (b1.toInt32)), (.int (0 : Int32)), (.int (0 : Int32))] := A_r
      refine N.iload C (pc' := 220) at_218 rfl rfl ?_
      refine N.iconst C (pc' := 221) (z := 3) at_220 rfl rfl ?_
      refine N.icmp C (pt := 238) (pf := 224) at_221 rfl rfl (fun (q : 3 < 3) => absurd q (by decide)) (fun _ => ?_)
      refine N.aload C (pc' := 226) at_224 rfl rfl rfl ?_
      refine N.iconst C (pc' := 227) (z := 4) at_226 rfl rfl ?_
      refine N.lload C (pc' := 229) at_227 rfl rfl ?_
      refine N.l2i C (pc' := 230) at_229 rfl ?_
      refine N.iastore C (pc' := 231) (i := 4) at_230 A_r rfl (show 4 < 6 from by decide) g_r rfl (fun h230_6 W230 A_r => ?_)
      have Z0 : G.n0 ≤ _ := (Wr.size W230).symm ▸ Z0
      have A_r : Av G.Z h230_6 r .int [(.int (a0.toInt32)), (.int (b0.toInt32)), (.int (a1.toInt32)), (.int (b1.toInt32)), (.int (a2.toInt32)), (.int (0 : Int32))] := A_r
      refine N.aload C (pc' := 233) at_231 rfl rfl rfl ?_
      refine N.iconst C (pc' := 234) (z := 5) at_233 rfl rfl ?_
      refine N.lload C (pc' := 236) at_234 rfl rfl ?_
      refine N.l2i C (pc' := 237) at_236 rfl ?_
      refine N.iastore C (pc' := 238) (i := 5) at_237 A_r rfl (show 5 < 6 from by decide) g_r rfl (fun h237_7 W237 A_r => ?_)
      have Z0 : G.n0 ≤ _ := (Wr.size W237).symm ▸ Z0
      have A_r : Av G.Z h237_7 r .int [(.int (a0.toInt32)), (.int (b0.toInt32)), (.int (a1.toInt32)), (.int (b1.toInt32)), (.int (a2.toInt32)), (.int (b2.toInt32))] := A_r
      refine N.iload C (pc' := 240) at_238 rfl rfl ?_
      refine N.iconst C (pc' := 241) (z := 3) at_240 rfl rfl ?_
      refine N.iushr C (pc' := 242) at_241 rfl ?_
      refine N.bipush C (pc' := 244) (z := 7) at_242 rfl rfl ?_
      refine N.iand C (pc' := 245) at_244 rfl ?_
      refine N.istore C (pc' := 247) (ls' := #[.val (.int start), .val (.int len), .val (.int gap), .val (.int craw), .val (.int mode), .val (.int (3 : Int32)), .val (.int wv), .val (.long l0), .second, .val (.long l1), .second, .val (.long l2), .second, .val (.long g1), .second, .val (.long g2), .second, .val (.long a0), .second, .val (.long b0), .second, .val (.long a1), .second, .val (.long b1), .second, .val (.long a2), .second, .val (.long b2), .second, .val (.long b2), .second, .val (.ref r), .val (.int (((mode.toUInt32 >>> ((3 : Int32) &&& 31).toUInt32).toInt32) &&& (7 : Int32))), .unset, .unset, .unset, .unset, .unset, .unset, .unset]) at_245 rfl rfl ?_
      refine N.iload C (pc' := 249) at_247 rfl rfl ?_
      refine N.bipush C (pc' := 251) (z := 6) at_249 rfl rfl ?_
      refine N.iushr C (pc' := 252) at_251 rfl ?_
      refine N.iconst C (pc' := 253) (z := 3) at_252 rfl rfl ?_
      refine N.iand C (pc' := 254) at_253 rfl ?_
      refine N.iconst C (pc' := 255) (z := 1) at_254 rfl rfl ?_
      refine N.isub C (pc' := 256) at_255 rfl ?_
      refine N.i2l C (pc' := 257) at_256 rfl ?_
      refine N.lstore C (pc' := 259) (ls' := #[.val (.int start), .val (.int len), .val (.int gap), .val (.int craw), .val (.int mode), .val (.int (3 : Int32)), .val (.int wv), .val (.long l0), .second, .val (.long l1), .second, .val (.long l2), .second, .val (.long g1), .second, .val (.long g2), .second, .val (.long a0), .second, .val (.long b0), .second, .val (.long a1), .second, .val (.long b1), .second, .val (.long a2), .second, .val (.long b2), .second, .val (.long b2), .second, .val (.ref r), .val (.int (((mode.toUInt32 >>> ((3 : Int32) &&& 31).toUInt32).toInt32) &&& (7 : Int32))), .val (.long (((((mode.toUInt32 >>> ((6 : Int32) &&& 31).toUInt32).toInt32) &&& (3 : Int32)) - (1 : Int32)).toInt64)), .second, .unset, .unset, .unset, .unset, .unset]) at_257 rfl rfl ?_
      suffices j365 : ∀ (c : Int32), N G K room_1 Q h237_7 (0 + 1) (0 + 6) 365 #[.val (.int start), .val (.int len), .val (.int gap), .val (.int craw), .val (.int mode), .val (.int (3 : Int32)), .val (.int wv), .val (.long l0), .second, .val (.long l1), .second, .val (.long l2), .second, .val (.long g1), .second, .val (.long g2), .second, .val (.long a0), .second, .val (.long b0), .second, .val (.long a1), .second, .val (.long b1), .second, .val (.long a2), .second, .val (.long b2), .second, .val (.long b2), .second, .val (.ref r), .val (.int (((mode.toUInt32 >>> ((3 : Int32) &&& 31).toUInt32).toInt32) &&& (7 : Int32))), .val (.long (((((mode.toUInt32 >>> ((6 : Int32) &&& 31).toUInt32).toInt32) &&& (3 : Int32)) - (1 : Int32)).toInt64)), .second, .val (.int c), .unset, .unset, .unset, .unset] [] by
        refine N.iload C (pc' := 261) at_259 rfl rfl ?_
        refine N.iconst C (pc' := 262) (z := 1) at_261 rfl rfl ?_
        refine N.icmp C (pt := 276) (pf := 265) at_262 rfl rfl (fun (hc262 : ¬ (((mode.toUInt32 >>> ((3 : Int32) &&& 31).toUInt32).toInt32) &&& (7 : Int32)) = (1 : Int32)) => ?_) (fun (hc262 : (((mode.toUInt32 >>> ((3 : Int32) &&& 31).toUInt32).toInt32) &&& (7 : Int32)) = (1 : Int32)) => ?_)
        · have hi262 : ¬ (((mode.toUInt32 >>> ((3 : Int32) &&& 31).toUInt32).toInt32) &&& (7 : Int32)).toInt = 1 := neI hc262
          refine N.iload C (pc' := 278) at_276 rfl rfl ?_
          refine N.iconst C (pc' := 279) (z := 2) at_278 rfl rfl ?_
          refine N.icmp C (pt := 293) (pf := 282) at_279 rfl rfl (fun (hc279 : ¬ (((mode.toUInt32 >>> ((3 : Int32) &&& 31).toUInt32).toInt32) &&& (7 : Int32)) = (2 : Int32)) => ?_) (fun (hc279 : (((mode.toUInt32 >>> ((3 : Int32) &&& 31).toUInt32).toInt32) &&& (7 : Int32)) = (2 : Int32)) => ?_)
          · have hi279 : ¬ (((mode.toUInt32 >>> ((3 : Int32) &&& 31).toUInt32).toInt32) &&& (7 : Int32)).toInt = 2 := neI hc279
            refine N.iload C (pc' := 295) at_293 rfl rfl ?_
            refine N.iconst C (pc' := 296) (z := 3) at_295 rfl rfl ?_
            refine N.icmp C (pt := 310) (pf := 299) at_296 rfl rfl (fun (hc296 : ¬ (((mode.toUInt32 >>> ((3 : Int32) &&& 31).toUInt32).toInt32) &&& (7 : Int32)) = (3 : Int32)) => ?_) (fun (hc296 : (((mode.toUInt32 >>> ((3 : Int32) &&& 31).toUInt32).toInt32) &&& (7 : Int32)) = (3 : Int32)) => ?_)
            · have hi296 : ¬ (((mode.toUInt32 >>> ((3 : Int32) &&& 31).toUInt32).toInt32) &&& (7 : Int32)).toInt = 3 := neI hc296
              refine N.iload C (pc' := 312) at_310 rfl rfl ?_
              refine N.iconst C (pc' := 313) (z := 4) at_312 rfl rfl ?_
              refine N.icmp C (pt := 327) (pf := 316) at_313 rfl rfl (fun (hc313 : ¬ (((mode.toUInt32 >>> ((3 : Int32) &&& 31).toUInt32).toInt32) &&& (7 : Int32)) = (4 : Int32)) => ?_) (fun (hc313 : (((mode.toUInt32 >>> ((3 : Int32) &&& 31).toUInt32).toInt32) &&& (7 : Int32)) = (4 : Int32)) => ?_)
              · have hi313 : ¬ (((mode.toUInt32 >>> ((3 : Int32) &&& 31).toUInt32).toInt32) &&& (7 : Int32)).toInt = 4 := neI hc313
                refine N.iload C (pc' := 329) at_327 rfl rfl ?_
                refine N.iconst C (pc' := 330) (z := 5) at_329 rfl rfl ?_
                refine N.icmp C (pt := 344) (pf := 333) at_330 rfl rfl (fun (hc330 : ¬ (((mode.toUInt32 >>> ((3 : Int32) &&& 31).toUInt32).toInt32) &&& (7 : Int32)) = (5 : Int32)) => ?_) (fun (hc330 : (((mode.toUInt32 >>> ((3 : Int32) &&& 31).toUInt32).toInt32) &&& (7 : Int32)) = (5 : Int32)) => ?_)
                · have hi330 : ¬ (((mode.toUInt32 >>> ((3 : Int32) &&& 31).toUInt32).toInt32) &&& (7 : Int32)).toInt = 5 := neI hc330
                  refine N.iload C (pc' := 346) at_344 rfl rfl ?_
                  refine N.bipush C (pc' := 348) (z := 6) at_346 rfl rfl ?_
                  refine N.icmp C (pt := 362) (pf := 351) at_348 rfl rfl (fun (hc348 : ¬ (((mode.toUInt32 >>> ((3 : Int32) &&& 31).toUInt32).toInt32) &&& (7 : Int32)) = (6 : Int32)) => ?_) (fun (hc348 : (((mode.toUInt32 >>> ((3 : Int32) &&& 31).toUInt32).toInt32) &&& (7 : Int32)) = (6 : Int32)) => ?_)
                  · have hi348 : ¬ (((mode.toUInt32 >>> ((3 : Int32) &&& 31).toUInt32).toInt32) &&& (7 : Int32)).toInt = 6 := neI hc348
                    refine N.iloadN C (pc' := 363) at_362 rfl rfl ?_
                    refine N.istore C (pc' := 365) (ls' := #[.val (.int start), .val (.int len), .val (.int gap), .val (.int craw), .val (.int mode), .val (.int (3 : Int32)), .val (.int wv), .val (.long l0), .second, .val (.long l1), .second, .val (.long l2), .second, .val (.long g1), .second, .val (.long g2), .second, .val (.long a0), .second, .val (.long b0), .second, .val (.long a1), .second, .val (.long b1), .second, .val (.long a2), .second, .val (.long b2), .second, .val (.long b2), .second, .val (.ref r), .val (.int (((mode.toUInt32 >>> ((3 : Int32) &&& 31).toUInt32).toInt32) &&& (7 : Int32))), .val (.long (((((mode.toUInt32 >>> ((6 : Int32) &&& 31).toUInt32).toInt32) &&& (3 : Int32)) - (1 : Int32)).toInt64)), .second, .val (.int craw), .unset, .unset, .unset, .unset]) at_363 rfl rfl ?_
                    exact j365 _
                  · have hi348 : (((mode.toUInt32 >>> ((3 : Int32) &&& 31).toUInt32).toInt32) &&& (7 : Int32)).toInt = 6 := eqI hc348
                    refine N.lload C (pc' := 353) at_351 rfl rfl ?_
                    refine N.lload C (pc' := 355) at_353 rfl rfl ?_
                    refine N.ladd C (pc' := 356) at_355 rfl ?_
                    refine N.l2i C (pc' := 357) at_356 rfl ?_
                    refine N.istore C (pc' := 359) (ls' := #[.val (.int start), .val (.int len), .val (.int gap), .val (.int craw), .val (.int mode), .val (.int (3 : Int32)), .val (.int wv), .val (.long l0), .second, .val (.long l1), .second, .val (.long l2), .second, .val (.long g1), .second, .val (.long g2), .second, .val (.long a0), .second, .val (.long b0), .second, .val (.long a1), .second, .val (.long b1), .second, .val (.long a2), .second, .val (.long b2), .second, .val (.long b2), .second, .val (.ref r), .val (.int (((mode.toUInt32 >>> ((3 : Int32) &&& 31).toUInt32).toInt32) &&& (7 : Int32))), .val (.long (((((mode.toUInt32 >>> ((6 : Int32) &&& 31).toUInt32).toInt32) &&& (3 : Int32)) - (1 : Int32)).toInt64)), .second, .val (.int ((b2 + (((((mode.toUInt32 >>> ((6 : Int32) &&& 31).toUInt32).toInt32) &&& (3 : Int32)) - (1 : Int32)).toInt64)).toInt32)), .unset, .unset, .unset, .unset]) at_357 rfl rfl ?_
                    refine N.goto C (pc' := 365) at_359 rfl ?_
                    exact j365 _
                · have hi330 : (((mode.toUInt32 >>> ((3 : Int32) &&& 31).toUInt32).toInt32) &&& (7 : Int32)).toInt = 5 := eqI hc330
                  refine N.lload C (pc' := 335) at_333 rfl rfl ?_
                  refine N.lload C (pc' := 337) at_335 rfl rfl ?_
                  refine N.ladd C (pc' := 338) at_337 rfl ?_
                  refine N.l2i C (pc' := 339) at_338 rfl ?_
                  refine N.istore C (pc' := 341) (ls' := #[.val (.int start), .val (.int len), .val (.int gap), .val (.int craw), .val (.int mode), .val (.int (3 : Int32)), .val (.int wv), .val (.long l0), .second, .val (.long l1), .second, .val (.long l2), .second, .val (.long g1), .second, .val (.long g2), .second, .val (.long a0), .second, .val (.long b0), .second, .val (.long a1), .second, .val (.long b1), .second, .val (.long a2), .second, .val (.long b2), .second, .val (.long b2), .second, .val (.ref r), .val (.int (((mode.toUInt32 >>> ((3 : Int32) &&& 31).toUInt32).toInt32) &&& (7 : Int32))), .val (.long (((((mode.toUInt32 >>> ((6 : Int32) &&& 31).toUInt32).toInt32) &&& (3 : Int32)) - (1 : Int32)).toInt64)), .second, .val (.int ((a2 + (((((mode.toUInt32 >>> ((6 : Int32) &&& 31).toUInt32).toInt32) &&& (3 : Int32)) - (1 : Int32)).toInt64)).toInt32)), .unset, .unset, .unset, .unset]) at_339 rfl rfl ?_
                  refine N.goto C (pc' := 365) at_341 rfl ?_
                  exact j365 _
              · have hi313 : (((mode.toUInt32 >>> ((3 : Int32) &&& 31).toUInt32).toInt32) &&& (7 : Int32)).toInt = 4 := eqI hc313
                refine N.lload C (pc' := 318) at_316 rfl rfl ?_
                refine N.lload C (pc' := 320) at_318 rfl rfl ?_
                refine N.ladd C (pc' := 321) at_320 rfl ?_
                refine N.l2i C (pc' := 322) at_321 rfl ?_
                refine N.istore C (pc' := 324) (ls' := #[.val (.int start), .val (.int len), .val (.int gap), .val (.int craw), .val (.int mode), .val (.int (3 : Int32)), .val (.int wv), .val (.long l0), .second, .val (.long l1), .second, .val (.long l2), .second, .val (.long g1), .second, .val (.long g2), .second, .val (.long a0), .second, .val (.long b0), .second, .val (.long a1), .second, .val (.long b1), .second, .val (.long a2), .second, .val (.long b2), .second, .val (.long b2), .second, .val (.ref r), .val (.int (((mode.toUInt32 >>> ((3 : Int32) &&& 31).toUInt32).toInt32) &&& (7 : Int32))), .val (.long (((((mode.toUInt32 >>> ((6 : Int32) &&& 31).toUInt32).toInt32) &&& (3 : Int32)) - (1 : Int32)).toInt64)), .second, .val (.int ((b1 + (((((mode.toUInt32 >>> ((6 : Int32) &&& 31).toUInt32).toInt32) &&& (3 : Int32)) - (1 : Int32)).toInt64)).toInt32)), .unset, .unset, .unset, .unset]) at_322 rfl rfl ?_
                refine N.goto C (pc' := 365) at_324 rfl ?_
                exact j365 _
            · have hi296 : (((mode.toUInt32 >>> ((3 : Int32) &&& 31).toUInt32).toInt32) &&& (7 : Int32)).toInt = 3 := eqI hc296
              refine N.lload C (pc' := 301) at_299 rfl rfl ?_
              refine N.lload C (pc' := 303) at_301 rfl rfl ?_
              refine N.ladd C (pc' := 304) at_303 rfl ?_
              refine N.l2i C (pc' := 305) at_304 rfl ?_
              refine N.istore C (pc' := 307) (ls' := #[.val (.int start), .val (.int len), .val (.int gap), .val (.int craw), .val (.int mode), .val (.int (3 : Int32)), .val (.int wv), .val (.long l0), .second, .val (.long l1), .second, .val (.long l2), .second, .val (.long g1), .second, .val (.long g2), .second, .val (.long a0), .second, .val (.long b0), .second, .val (.long a1), .second, .val (.long b1), .second, .val (.long a2), .second, .val (.long b2), .second, .val (.long b2), .second, .val (.ref r), .val (.int (((mode.toUInt32 >>> ((3 : Int32) &&& 31).toUInt32).toInt32) &&& (7 : Int32))), .val (.long (((((mode.toUInt32 >>> ((6 : Int32) &&& 31).toUInt32).toInt32) &&& (3 : Int32)) - (1 : Int32)).toInt64)), .second, .val (.int ((a1 + (((((mode.toUInt32 >>> ((6 : Int32) &&& 31).toUInt32).toInt32) &&& (3 : Int32)) - (1 : Int32)).toInt64)).toInt32)), .unset, .unset, .unset, .unset]) at_305 rfl rfl ?_
              refine N.goto C (pc' := 365) at_307 rfl ?_
              exact j365 _
          · have hi279 : (((mode.toUInt32 >>> ((3 : Int32) &&& 31).toUInt32).toInt32) &&& (7 : Int32)).toInt = 2 := eqI hc279
            refine N.lload C (pc' := 284) at_282 rfl rfl ?_
            refine N.lload C (pc' := 286) at_284 rfl rfl ?_
            refine N.ladd C (pc' := 287) at_286 rfl ?_
            refine N.l2i C (pc' := 288) at_287 rfl ?_
            refine N.istore C (pc' := 290) (ls' := #[.val (.int start), .val (.int len), .val (.int gap), .val (.int craw), .val (.int mode), .val (.int (3 : Int32)), .val (.int wv), .val (.long l0), .second, .val (.long l1), .second, .val (.long l2), .second, .val (.long g1), .second, .val (.long g2), .second, .val (.long a0), .second, .val (.long b0), .second, .val (.long a1), .second, .val (.long b1), .second, .val (.long a2), .second, .val (.long b2), .second, .val (.long b2), .second, .val (.ref r), .val (.int (((mode.toUInt32 >>> ((3 : Int32) &&& 31).toUInt32).toInt32) &&& (7 : Int32))), .val (.long (((((mode.toUInt32 >>> ((6 : Int32) &&& 31).toUInt32).toInt32) &&& (3 : Int32)) - (1 : Int32)).toInt64)), .second, .val (.int ((b0 + (((((mode.toUInt32 >>> ((6 : Int32) &&& 31).toUInt32).toInt32) &&& (3 : Int32)) - (1 : Int32)).toInt64)).toInt32)), .unset, .unset, .unset, .unset]) at_288 rfl rfl ?_
            refine N.goto C (pc' := 365) at_290 rfl ?_
            exact j365 _
        · have hi262 : (((mode.toUInt32 >>> ((3 : Int32) &&& 31).toUInt32).toInt32) &&& (7 : Int32)).toInt = 1 := eqI hc262
          refine N.lload C (pc' := 267) at_265 rfl rfl ?_
          refine N.lload C (pc' := 269) at_267 rfl rfl ?_
          refine N.ladd C (pc' := 270) at_269 rfl ?_
          refine N.l2i C (pc' := 271) at_270 rfl ?_
          refine N.istore C (pc' := 273) (ls' := #[.val (.int start), .val (.int len), .val (.int gap), .val (.int craw), .val (.int mode), .val (.int (3 : Int32)), .val (.int wv), .val (.long l0), .second, .val (.long l1), .second, .val (.long l2), .second, .val (.long g1), .second, .val (.long g2), .second, .val (.long a0), .second, .val (.long b0), .second, .val (.long a1), .second, .val (.long b1), .second, .val (.long a2), .second, .val (.long b2), .second, .val (.long b2), .second, .val (.ref r), .val (.int (((mode.toUInt32 >>> ((3 : Int32) &&& 31).toUInt32).toInt32) &&& (7 : Int32))), .val (.long (((((mode.toUInt32 >>> ((6 : Int32) &&& 31).toUInt32).toInt32) &&& (3 : Int32)) - (1 : Int32)).toInt64)), .second, .val (.int ((a0 + (((((mode.toUInt32 >>> ((6 : Int32) &&& 31).toUInt32).toInt32) &&& (3 : Int32)) - (1 : Int32)).toInt64)).toInt32)), .unset, .unset, .unset, .unset]) at_271 rfl rfl ?_
          refine N.goto C (pc' := 365) at_273 rfl ?_
          exact j365 _
      intro c
      have h_c : c.toInt64.toInt = c.toInt := c_i2l c
      refine N.iload C (pc' := 367) at_365 rfl rfl ?_
      refine N.i2l C (pc' := 368) at_367 rfl ?_
      refine N.lstore C (pc' := 370) (ls' := #[.val (.int start), .val (.int len), .val (.int gap), .val (.int craw), .val (.int mode), .val (.int (3 : Int32)), .val (.int wv), .val (.long l0), .second, .val (.long l1), .second, .val (.long l2), .second, .val (.long g1), .second, .val (.long g2), .second, .val (.long a0), .second, .val (.long b0), .second, .val (.long a1), .second, .val (.long b1), .second, .val (.long a2), .second, .val (.long b2), .second, .val (.long b2), .second, .val (.ref r), .val (.int (((mode.toUInt32 >>> ((3 : Int32) &&& 31).toUInt32).toInt32) &&& (7 : Int32))), .val (.long (((((mode.toUInt32 >>> ((6 : Int32) &&& 31).toUInt32).toInt32) &&& (3 : Int32)) - (1 : Int32)).toInt64)), .second, .val (.int c), .val (.long (c.toInt64)), .second, .unset, .unset]) at_368 rfl rfl ?_
      suffices j443 : ∀ (ev : Int32), (ev = (1 : Int32) ∧ ((a0.toInt ≤ c.toInt ∧ c.toInt ≤ b0.toInt) ∨ (a1.toInt ≤ c.toInt ∧ c.toInt ≤ b1.toInt) ∨ (a2.toInt ≤ c.toInt ∧ c.toInt ≤ b2.toInt))) ∨ (ev = (0 : Int32) ∧ ¬ ((a0.toInt ≤ c.toInt ∧ c.toInt ≤ b0.toInt) ∨ (a1.toInt ≤ c.toInt ∧ c.toInt ≤ b1.toInt) ∨ (a2.toInt ≤ c.toInt ∧ c.toInt ≤ b2.toInt))) → N G K room_1 Q h237_7 (0 + 1) (0 + 6) 443 #[.val (.int start), .val (.int len), .val (.int gap), .val (.int craw), .val (.int mode), .val (.int (3 : Int32)), .val (.int wv), .val (.long l0), .second, .val (.long l1), .second, .val (.long l2), .second, .val (.long g1), .second, .val (.long g2), .second, .val (.long a0), .second, .val (.long b0), .second, .val (.long a1), .second, .val (.long b1), .second, .val (.long a2), .second, .val (.long b2), .second, .val (.long b2), .second, .val (.ref r), .val (.int (((mode.toUInt32 >>> ((3 : Int32) &&& 31).toUInt32).toInt32) &&& (7 : Int32))), .val (.long (((((mode.toUInt32 >>> ((6 : Int32) &&& 31).toUInt32).toInt32) &&& (3 : Int32)) - (1 : Int32)).toInt64)), .second, .val (.int c), .val (.long (c.toInt64)), .second, .val (.int ev), .unset] [] by
        refine N.iload C (pc' := 372) at_370 rfl rfl ?_
        refine N.iconst C (pc' := 373) (z := 1) at_372 rfl rfl ?_
        refine N.icmp C (pt := 392) (pf := 376) at_373 rfl rfl (fun (q : 3 < 1) => absurd q (by decide)) (fun _ => ?_)
        refine N.lload C (pc' := 378) at_376 rfl rfl ?_
        refine N.lload C (pc' := 380) at_378 rfl rfl ?_
        refine N.lcmp C (pc' := 381) at_380 rfl ?_
        refine N.lif C (pt := 392) (pf := 384) at_381 rfl rfl (fun (hc381 : (c.toInt64).toInt < a0.toInt) => ?_) (fun (hc381 : a0.toInt ≤ (c.toInt64).toInt) => ?_)
        · refine N.iload C (pc' := 394) at_392 rfl rfl ?_
          refine N.iconst C (pc' := 395) (z := 2) at_394 rfl rfl ?_
          refine N.icmp C (pt := 414) (pf := 398) at_395 rfl rfl (fun (q : 3 < 2) => absurd q (by decide)) (fun _ => ?_)
          refine N.lload C (pc' := 400) at_398 rfl rfl ?_
          refine N.lload C (pc' := 402) at_400 rfl rfl ?_
          refine N.lcmp C (pc' := 403) at_402 rfl ?_
          refine N.lif C (pt := 414) (pf := 406) at_403 rfl rfl (fun (hc403 : (c.toInt64).toInt < a1.toInt) => ?_) (fun (hc403 : a1.toInt ≤ (c.toInt64).toInt) => ?_)
          · refine N.iload C (pc' := 416) at_414 rfl rfl ?_
            refine N.iconst C (pc' := 417) (z := 3) at_416 rfl rfl ?_
            refine N.icmp C (pt := 440) (pf := 420) at_417 rfl rfl (fun (q : 3 < 3) => absurd q (by decide)) (fun _ => ?_)
            refine N.lload C (pc' := 422) at_420 rfl rfl ?_
            refine N.lload C (pc' := 424) at_422 rfl rfl ?_
            refine N.lcmp C (pc' := 425) at_424 rfl ?_
            refine N.lif C (pt := 440) (pf := 428) at_425 rfl rfl (fun (hc425 : (c.toInt64).toInt < a2.toInt) => ?_) (fun (hc425 : a2.toInt ≤ (c.toInt64).toInt) => ?_)
            · refine N.iconst C (pc' := 441) (z := 0) at_440 rfl rfl ?_
              refine N.istore C (pc' := 443) (ls' := #[.val (.int start), .val (.int len), .val (.int gap), .val (.int craw), .val (.int mode), .val (.int (3 : Int32)), .val (.int wv), .val (.long l0), .second, .val (.long l1), .second, .val (.long l2), .second, .val (.long g1), .second, .val (.long g2), .second, .val (.long a0), .second, .val (.long b0), .second, .val (.long a1), .second, .val (.long b1), .second, .val (.long a2), .second, .val (.long b2), .second, .val (.long b2), .second, .val (.ref r), .val (.int (((mode.toUInt32 >>> ((3 : Int32) &&& 31).toUInt32).toInt32) &&& (7 : Int32))), .val (.long (((((mode.toUInt32 >>> ((6 : Int32) &&& 31).toUInt32).toInt32) &&& (3 : Int32)) - (1 : Int32)).toInt64)), .second, .val (.int c), .val (.long (c.toInt64)), .second, .val (.int (0 : Int32)), .unset]) at_441 rfl rfl ?_
              exact j443 _ (Or.inr ⟨rfl, by omega⟩)
            · refine N.lload C (pc' := 430) at_428 rfl rfl ?_
              refine N.lload C (pc' := 432) at_430 rfl rfl ?_
              refine N.lcmp C (pc' := 433) at_432 rfl ?_
              refine N.lif C (pt := 440) (pf := 436) at_433 rfl rfl (fun (hc433 : b2.toInt < (c.toInt64).toInt) => ?_) (fun (hc433 : (c.toInt64).toInt ≤ b2.toInt) => ?_)
              · refine N.iconst C (pc' := 441) (z := 0) at_440 rfl rfl ?_
                refine N.istore C (pc' := 443) (ls' := #[.val (.int start), .val (.int len), .val (.int gap), .val (.int craw), .val (.int mode), .val (.int (3 : Int32)), .val (.int wv), .val (.long l0), .second, .val (.long l1), .second, .val (.long l2), .second, .val (.long g1), .second, .val (.long g2), .second, .val (.long a0), .second, .val (.long b0), .second, .val (.long a1), .second, .val (.long b1), .second, .val (.long a2), .second, .val (.long b2), .second, .val (.long b2), .second, .val (.ref r), .val (.int (((mode.toUInt32 >>> ((3 : Int32) &&& 31).toUInt32).toInt32) &&& (7 : Int32))), .val (.long (((((mode.toUInt32 >>> ((6 : Int32) &&& 31).toUInt32).toInt32) &&& (3 : Int32)) - (1 : Int32)).toInt64)), .second, .val (.int c), .val (.long (c.toInt64)), .second, .val (.int (0 : Int32)), .unset]) at_441 rfl rfl ?_
                exact j443 _ (Or.inr ⟨rfl, by omega⟩)
              · refine N.iconst C (pc' := 437) (z := 1) at_436 rfl rfl ?_
                refine N.goto C (pc' := 441) at_437 rfl ?_
                refine N.istore C (pc' := 443) (ls' := #[.val (.int start), .val (.int len), .val (.int gap), .val (.int craw), .val (.int mode), .val (.int (3 : Int32)), .val (.int wv), .val (.long l0), .second, .val (.long l1), .second, .val (.long l2), .second, .val (.long g1), .second, .val (.long g2), .second, .val (.long a0), .second, .val (.long b0), .second, .val (.long a1), .second, .val (.long b1), .second, .val (.long a2), .second, .val (.long b2), .second, .val (.long b2), .second, .val (.ref r), .val (.int (((mode.toUInt32 >>> ((3 : Int32) &&& 31).toUInt32).toInt32) &&& (7 : Int32))), .val (.long (((((mode.toUInt32 >>> ((6 : Int32) &&& 31).toUInt32).toInt32) &&& (3 : Int32)) - (1 : Int32)).toInt64)), .second, .val (.int c), .val (.long (c.toInt64)), .second, .val (.int (1 : Int32)), .unset]) at_441 rfl rfl ?_
                exact j443 _ (Or.inl ⟨rfl, by omega⟩)
          · refine N.lload C (pc' := 408) at_406 rfl rfl ?_
            refine N.lload C (pc' := 410) at_408 rfl rfl ?_
            refine N.lcmp C (pc' := 411) at_410 rfl ?_
            refine N.lif C (pt := 436) (pf := 414) at_411 rfl rfl (fun (hc411 : (c.toInt64).toInt ≤ b1.toInt) => ?_) (fun (hc411 : b1.toInt < (c.toInt64).toInt) => ?_)
            · refine N.iconst C (pc' := 437) (z := 1) at_436 rfl rfl ?_
              refine N.goto C (pc' := 441) at_437 rfl ?_
              refine N.istore C (pc' := 443) (ls' := #[.val (.int start), .val (.int len), .val (.int gap), .val (.int craw), .val (.int mode), .val (.int (3 : Int32)), .val (.int wv), .val (.long l0), .second, .val (.long l1), .second, .val (.long l2), .second, .val (.long g1), .second, .val (.long g2), .second, .val (.long a0), .second, .val (.long b0), .second, .val (.long a1), .second, .val (.long b1), .second, .val (.long a2), .second, .val (.long b2), .second, .val (.long b2), .second, .val (.ref r), .val (.int (((mode.toUInt32 >>> ((3 : Int32) &&& 31).toUInt32).toInt32) &&& (7 : Int32))), .val (.long (((((mode.toUInt32 >>> ((6 : Int32) &&& 31).toUInt32).toInt32) &&& (3 : Int32)) - (1 : Int32)).toInt64)), .second, .val (.int c), .val (.long (c.toInt64)), .second, .val (.int (1 : Int32)), .unset]) at_441 rfl rfl ?_
              exact j443 _ (Or.inl ⟨rfl, by omega⟩)
            · refine N.iload C (pc' := 416) at_414 rfl rfl ?_
              refine N.iconst C (pc' := 417) (z := 3) at_416 rfl rfl ?_
              refine N.icmp C (pt := 440) (pf := 420) at_417 rfl rfl (fun (q : 3 < 3) => absurd q (by decide)) (fun _ => ?_)
              refine N.lload C (pc' := 422) at_420 rfl rfl ?_
              refine N.lload C (pc' := 424) at_422 rfl rfl ?_
              refine N.lcmp C (pc' := 425) at_424 rfl ?_
              refine N.lif C (pt := 440) (pf := 428) at_425 rfl rfl (fun (hc425 : (c.toInt64).toInt < a2.toInt) => ?_) (fun (hc425 : a2.toInt ≤ (c.toInt64).toInt) => ?_)
              · refine N.iconst C (pc' := 441) (z := 0) at_440 rfl rfl ?_
                refine N.istore C (pc' := 443) (ls' := #[.val (.int start), .val (.int len), .val (.int gap), .val (.int craw), .val (.int mode), .val (.int (3 : Int32)), .val (.int wv), .val (.long l0), .second, .val (.long l1), .second, .val (.long l2), .second, .val (.long g1), .second, .val (.long g2), .second, .val (.long a0), .second, .val (.long b0), .second, .val (.long a1), .second, .val (.long b1), .second, .val (.long a2), .second, .val (.long b2), .second, .val (.long b2), .second, .val (.ref r), .val (.int (((mode.toUInt32 >>> ((3 : Int32) &&& 31).toUInt32).toInt32) &&& (7 : Int32))), .val (.long (((((mode.toUInt32 >>> ((6 : Int32) &&& 31).toUInt32).toInt32) &&& (3 : Int32)) - (1 : Int32)).toInt64)), .second, .val (.int c), .val (.long (c.toInt64)), .second, .val (.int (0 : Int32)), .unset]) at_441 rfl rfl ?_
                exact j443 _ (Or.inr ⟨rfl, by omega⟩)
              · refine N.lload C (pc' := 430) at_428 rfl rfl ?_
                refine N.lload C (pc' := 432) at_430 rfl rfl ?_
                refine N.lcmp C (pc' := 433) at_432 rfl ?_
                refine N.lif C (pt := 440) (pf := 436) at_433 rfl rfl (fun (hc433 : b2.toInt < (c.toInt64).toInt) => ?_) (fun (hc433 : (c.toInt64).toInt ≤ b2.toInt) => ?_)
                · refine N.iconst C (pc' := 441) (z := 0) at_440 rfl rfl ?_
                  refine N.istore C (pc' := 443) (ls' := #[.val (.int start), .val (.int len), .val (.int gap), .val (.int craw), .val (.int mode), .val (.int (3 : Int32)), .val (.int wv), .val (.long l0), .second, .val (.long l1), .second, .val (.long l2), .second, .val (.long g1), .second, .val (.long g2), .second, .val (.long a0), .second, .val (.long b0), .second, .val (.long a1), .second, .val (.long b1), .second, .val (.long a2), .second, .val (.long b2), .second, .val (.long b2), .second, .val (.ref r), .val (.int (((mode.toUInt32 >>> ((3 : Int32) &&& 31).toUInt32).toInt32) &&& (7 : Int32))), .val (.long (((((mode.toUInt32 >>> ((6 : Int32) &&& 31).toUInt32).toInt32) &&& (3 : Int32)) - (1 : Int32)).toInt64)), .second, .val (.int c), .val (.long (c.toInt64)), .second, .val (.int (0 : Int32)), .unset]) at_441 rfl rfl ?_
                  exact j443 _ (Or.inr ⟨rfl, by omega⟩)
                · refine N.iconst C (pc' := 437) (z := 1) at_436 rfl rfl ?_
                  refine N.goto C (pc' := 441) at_437 rfl ?_
                  refine N.istore C (pc' := 443) (ls' := #[.val (.int start), .val (.int len), .val (.int gap), .val (.int craw), .val (.int mode), .val (.int (3 : Int32)), .val (.int wv), .val (.long l0), .second, .val (.long l1), .second, .val (.long l2), .second, .val (.long g1), .second, .val (.long g2), .second, .val (.long a0), .second, .val (.long b0), .second, .val (.long a1), .second, .val (.long b1), .second, .val (.long a2), .second, .val (.long b2), .second, .val (.long b2), .second, .val (.ref r), .val (.int (((mode.toUInt32 >>> ((3 : Int32) &&& 31).toUInt32).toInt32) &&& (7 : Int32))), .val (.long (((((mode.toUInt32 >>> ((6 : Int32) &&& 31).toUInt32).toInt32) &&& (3 : Int32)) - (1 : Int32)).toInt64)), .second, .val (.int c), .val (.long (c.toInt64)), .second, .val (.int (1 : Int32)), .unset]) at_441 rfl rfl ?_
                  exact j443 _ (Or.inl ⟨rfl, by omega⟩)
        · refine N.lload C (pc' := 386) at_384 rfl rfl ?_
          refine N.lload C (pc' := 388) at_386 rfl rfl ?_
          refine N.lcmp C (pc' := 389) at_388 rfl ?_
          refine N.lif C (pt := 436) (pf := 392) at_389 rfl rfl (fun (hc389 : (c.toInt64).toInt ≤ b0.toInt) => ?_) (fun (hc389 : b0.toInt < (c.toInt64).toInt) => ?_)
          · refine N.iconst C (pc' := 437) (z := 1) at_436 rfl rfl ?_
            refine N.goto C (pc' := 441) at_437 rfl ?_
            refine N.istore C (pc' := 443) (ls' := #[.val (.int start), .val (.int len), .val (.int gap), .val (.int craw), .val (.int mode), .val (.int (3 : Int32)), .val (.int wv), .val (.long l0), .second, .val (.long l1), .second, .val (.long l2), .second, .val (.long g1), .second, .val (.long g2), .second, .val (.long a0), .second, .val (.long b0), .second, .val (.long a1), .second, .val (.long b1), .second, .val (.long a2), .second, .val (.long b2), .second, .val (.long b2), .second, .val (.ref r), .val (.int (((mode.toUInt32 >>> ((3 : Int32) &&& 31).toUInt32).toInt32) &&& (7 : Int32))), .val (.long (((((mode.toUInt32 >>> ((6 : Int32) &&& 31).toUInt32).toInt32) &&& (3 : Int32)) - (1 : Int32)).toInt64)), .second, .val (.int c), .val (.long (c.toInt64)), .second, .val (.int (1 : Int32)), .unset]) at_441 rfl rfl ?_
            exact j443 _ (Or.inl ⟨rfl, by omega⟩)
          · refine N.iload C (pc' := 394) at_392 rfl rfl ?_
            refine N.iconst C (pc' := 395) (z := 2) at_394 rfl rfl ?_
            refine N.icmp C (pt := 414) (pf := 398) at_395 rfl rfl (fun (q : 3 < 2) => absurd q (by decide)) (fun _ => ?_)
            refine N.lload C (pc' := 400) at_398 rfl rfl ?_
            refine N.lload C (pc' := 402) at_400 rfl rfl ?_
            refine N.lcmp C (pc' := 403) at_402 rfl ?_
            refine N.lif C (pt := 414) (pf := 406) at_403 rfl rfl (fun (hc403 : (c.toInt64).toInt < a1.toInt) => ?_) (fun (hc403 : a1.toInt ≤ (c.toInt64).toInt) => ?_)
            · refine N.iload C (pc' := 416) at_414 rfl rfl ?_
              refine N.iconst C (pc' := 417) (z := 3) at_416 rfl rfl ?_
              refine N.icmp C (pt := 440) (pf := 420) at_417 rfl rfl (fun (q : 3 < 3) => absurd q (by decide)) (fun _ => ?_)
              refine N.lload C (pc' := 422) at_420 rfl rfl ?_
              refine N.lload C (pc' := 424) at_422 rfl rfl ?_
              refine N.lcmp C (pc' := 425) at_424 rfl ?_
              refine N.lif C (pt := 440) (pf := 428) at_425 rfl rfl (fun (hc425 : (c.toInt64).toInt < a2.toInt) => ?_) (fun (hc425 : a2.toInt ≤ (c.toInt64).toInt) => ?_)
              · refine N.iconst C (pc' := 441) (z := 0) at_440 rfl rfl ?_
                refine N.istore C (pc' := 443) (ls' := #[.val (.int start), .val (.int len), .val (.int gap), .val (.int craw), .val (.int mode), .val (.int (3 : Int32)), .val (.int wv), .val (.long l0), .second, .val (.long l1), .second, .val (.long l2), .second, .val (.long g1), .second, .val (.long g2), .second, .val (.long a0), .second, .val (.long b0), .second, .val (.long a1), .second, .val (.long b1), .second, .val (.long a2), .second, .val (.long b2), .second, .val (.long b2), .second, .val (.ref r), .val (.int (((mode.toUInt32 >>> ((3 : Int32) &&& 31).toUInt32).toInt32) &&& (7 : Int32))), .val (.long (((((mode.toUInt32 >>> ((6 : Int32) &&& 31).toUInt32).toInt32) &&& (3 : Int32)) - (1 : Int32)).toInt64)), .second, .val (.int c), .val (.long (c.toInt64)), .second, .val (.int (0 : Int32)), .unset]) at_441 rfl rfl ?_
                exact j443 _ (Or.inr ⟨rfl, by omega⟩)
              · refine N.lload C (pc' := 430) at_428 rfl rfl ?_
                refine N.lload C (pc' := 432) at_430 rfl rfl ?_
                refine N.lcmp C (pc' := 433) at_432 rfl ?_
                refine N.lif C (pt := 440) (pf := 436) at_433 rfl rfl (fun (hc433 : b2.toInt < (c.toInt64).toInt) => ?_) (fun (hc433 : (c.toInt64).toInt ≤ b2.toInt) => ?_)
                · refine N.iconst C (pc' := 441) (z := 0) at_440 rfl rfl ?_
                  refine N.istore C (pc' := 443) (ls' := #[.val (.int start), .val (.int len), .val (.int gap), .val (.int craw), .val (.int mode), .val (.int (3 : Int32)), .val (.int wv), .val (.long l0), .second, .val (.long l1), .second, .val (.long l2), .second, .val (.long g1), .second, .val (.long g2), .second, .val (.long a0), .second, .val (.long b0), .second, .val (.long a1), .second, .val (.long b1), .second, .val (.long a2), .second, .val (.long b2), .second, .val (.long b2), .second, .val (.ref r), .val (.int (((mode.toUInt32 >>> ((3 : Int32) &&& 31).toUInt32).toInt32) &&& (7 : Int32))), .val (.long (((((mode.toUInt32 >>> ((6 : Int32) &&& 31).toUInt32).toInt32) &&& (3 : Int32)) - (1 : Int32)).toInt64)), .second, .val (.int c), .val (.long (c.toInt64)), .second, .val (.int (0 : Int32)), .unset]) at_441 rfl rfl ?_
                  exact j443 _ (Or.inr ⟨rfl, by omega⟩)
                · refine N.iconst C (pc' := 437) (z := 1) at_436 rfl rfl ?_
                  refine N.goto C (pc' := 441) at_437 rfl ?_
                  refine N.istore C (pc' := 443) (ls' := #[.val (.int start), .val (.int len), .val (.int gap), .val (.int craw), .val (.int mode), .val (.int (3 : Int32)), .val (.int wv), .val (.long l0), .second, .val (.long l1), .second, .val (.long l2), .second, .val (.long g1), .second, .val (.long g2), .second, .val (.long a0), .second, .val (.long b0), .second, .val (.long a1), .second, .val (.long b1), .second, .val (.long a2), .second, .val (.long b2), .second, .val (.long b2), .second, .val (.ref r), .val (.int (((mode.toUInt32 >>> ((3 : Int32) &&& 31).toUInt32).toInt32) &&& (7 : Int32))), .val (.long (((((mode.toUInt32 >>> ((6 : Int32) &&& 31).toUInt32).toInt32) &&& (3 : Int32)) - (1 : Int32)).toInt64)), .second, .val (.int c), .val (.long (c.toInt64)), .second, .val (.int (1 : Int32)), .unset]) at_441 rfl rfl ?_
                  exact j443 _ (Or.inl ⟨rfl, by omega⟩)
            · refine N.lload C (pc' := 408) at_406 rfl rfl ?_
              refine N.lload C (pc' := 410) at_408 rfl rfl ?_
              refine N.lcmp C (pc' := 411) at_410 rfl ?_
              refine N.lif C (pt := 436) (pf := 414) at_411 rfl rfl (fun (hc411 : (c.toInt64).toInt ≤ b1.toInt) => ?_) (fun (hc411 : b1.toInt < (c.toInt64).toInt) => ?_)
              · refine N.iconst C (pc' := 437) (z := 1) at_436 rfl rfl ?_
                refine N.goto C (pc' := 441) at_437 rfl ?_
                refine N.istore C (pc' := 443) (ls' := #[.val (.int start), .val (.int len), .val (.int gap), .val (.int craw), .val (.int mode), .val (.int (3 : Int32)), .val (.int wv), .val (.long l0), .second, .val (.long l1), .second, .val (.long l2), .second, .val (.long g1), .second, .val (.long g2), .second, .val (.long a0), .second, .val (.long b0), .second, .val (.long a1), .second, .val (.long b1), .second, .val (.long a2), .second, .val (.long b2), .second, .val (.long b2), .second, .val (.ref r), .val (.int (((mode.toUInt32 >>> ((3 : Int32) &&& 31).toUInt32).toInt32) &&& (7 : Int32))), .val (.long (((((mode.toUInt32 >>> ((6 : Int32) &&& 31).toUInt32).toInt32) &&& (3 : Int32)) - (1 : Int32)).toInt64)), .second, .val (.int c), .val (.long (c.toInt64)), .second, .val (.int (1 : Int32)), .unset]) at_441 rfl rfl ?_
                exact j443 _ (Or.inl ⟨rfl, by omega⟩)
              · refine N.iload C (pc' := 416) at_414 rfl rfl ?_
                refine N.iconst C (pc' := 417) (z := 3) at_416 rfl rfl ?_
                refine N.icmp C (pt := 440) (pf := 420) at_417 rfl rfl (fun (q : 3 < 3) => absurd q (by decide)) (fun _ => ?_)
                refine N.lload C (pc' := 422) at_420 rfl rfl ?_
                refine N.lload C (pc' := 424) at_422 rfl rfl ?_
                refine N.lcmp C (pc' := 425) at_424 rfl ?_
                refine N.lif C (pt := 440) (pf := 428) at_425 rfl rfl (fun (hc425 : (c.toInt64).toInt < a2.toInt) => ?_) (fun (hc425 : a2.toInt ≤ (c.toInt64).toInt) => ?_)
                · refine N.iconst C (pc' := 441) (z := 0) at_440 rfl rfl ?_
                  refine N.istore C (pc' := 443) (ls' := #[.val (.int start), .val (.int len), .val (.int gap), .val (.int craw), .val (.int mode), .val (.int (3 : Int32)), .val (.int wv), .val (.long l0), .second, .val (.long l1), .second, .val (.long l2), .second, .val (.long g1), .second, .val (.long g2), .second, .val (.long a0), .second, .val (.long b0), .second, .val (.long a1), .second, .val (.long b1), .second, .val (.long a2), .second, .val (.long b2), .second, .val (.long b2), .second, .val (.ref r), .val (.int (((mode.toUInt32 >>> ((3 : Int32) &&& 31).toUInt32).toInt32) &&& (7 : Int32))), .val (.long (((((mode.toUInt32 >>> ((6 : Int32) &&& 31).toUInt32).toInt32) &&& (3 : Int32)) - (1 : Int32)).toInt64)), .second, .val (.int c), .val (.long (c.toInt64)), .second, .val (.int (0 : Int32)), .unset]) at_441 rfl rfl ?_
                  exact j443 _ (Or.inr ⟨rfl, by omega⟩)
                · refine N.lload C (pc' := 430) at_428 rfl rfl ?_
                  refine N.lload C (pc' := 432) at_430 rfl rfl ?_
                  refine N.lcmp C (pc' := 433) at_432 rfl ?_
                  refine N.lif C (pt := 440) (pf := 436) at_433 rfl rfl (fun (hc433 : b2.toInt < (c.toInt64).toInt) => ?_) (fun (hc433 : (c.toInt64).toInt ≤ b2.toInt) => ?_)
                  · refine N.iconst C (pc' := 441) (z := 0) at_440 rfl rfl ?_
                    refine N.istore C (pc' := 443) (ls' := #[.val (.int start), .val (.int len), .val (.int gap), .val (.int craw), .val (.int mode), .val (.int (3 : Int32)), .val (.int wv), .val (.long l0), .second, .val (.long l1), .second, .val (.long l2), .second, .val (.long g1), .second, .val (.long g2), .second, .val (.long a0), .second, .val (.long b0), .second, .val (.long a1), .second, .val (.long b1), .second, .val (.long a2), .second, .val (.long b2), .second, .val (.long b2), .second, .val (.ref r), .val (.int (((mode.toUInt32 >>> ((3 : Int32) &&& 31).toUInt32).toInt32) &&& (7 : Int32))), .val (.long (((((mode.toUInt32 >>> ((6 : Int32) &&& 31).toUInt32).toInt32) &&& (3 : Int32)) - (1 : Int32)).toInt64)), .second, .val (.int c), .val (.long (c.toInt64)), .second, .val (.int (0 : Int32)), .unset]) at_441 rfl rfl ?_
                    exact j443 _ (Or.inr ⟨rfl, by omega⟩)
                  · refine N.iconst C (pc' := 437) (z := 1) at_436 rfl rfl ?_
                    refine N.goto C (pc' := 441) at_437 rfl ?_
                    refine N.istore C (pc' := 443) (ls' := #[.val (.int start), .val (.int len), .val (.int gap), .val (.int craw), .val (.int mode), .val (.int (3 : Int32)), .val (.int wv), .val (.long l0), .second, .val (.long l1), .second, .val (.long l2), .second, .val (.long g1), .second, .val (.long g2), .second, .val (.long a0), .second, .val (.long b0), .second, .val (.long a1), .second, .val (.long b1), .second, .val (.long a2), .second, .val (.long b2), .second, .val (.long b2), .second, .val (.ref r), .val (.int (((mode.toUInt32 >>> ((3 : Int32) &&& 31).toUInt32).toInt32) &&& (7 : Int32))), .val (.long (((((mode.toUInt32 >>> ((6 : Int32) &&& 31).toUInt32).toInt32) &&& (3 : Int32)) - (1 : Int32)).toInt64)), .second, .val (.int c), .val (.long (c.toInt64)), .second, .val (.int (1 : Int32)), .unset]) at_441 rfl rfl ?_
                    exact j443 _ (Or.inl ⟨rfl, by omega⟩)
      intro ev hev
      show N G K room_1 Q h237_7 (0 + 1) (0 + 6) 443 #[.val (.int start), .val (.int len), .val (.int gap), .val (.int craw), .val (.int mode), .val (.int (3 : Int32)), .val (.int wv), .val (.long l0), .second, .val (.long l1), .second, .val (.long l2), .second, .val (.long g1), .second, .val (.long g2), .second, .val (.long a0), .second, .val (.long b0), .second, .val (.long a1), .second, .val (.long b1), .second, .val (.long a2), .second, .val (.long b2), .second, .val (.long b2), .second, .val (.ref r), .val (.int (((mode.toUInt32 >>> ((3 : Int32) &&& 31).toUInt32).toInt32) &&& (7 : Int32))), .val (.long (((((mode.toUInt32 >>> ((6 : Int32) &&& 31).toUInt32).toInt32) &&& (3 : Int32)) - (1 : Int32)).toInt64)), .second, .val (.int c), .val (.long (c.toInt64)), .second, .val (.int ev), .unset] []
      refine N.newO C (pc' := 446) at_443 (C.w (i := 3) rfl) (C.w (i := 4) rfl) (C.w (i := 5) rfl) (by decide) (by decide) rfl (fun h443_8 x hx_x Ex443 E_x D_x => ?_)
      have ne_r_x : r ≠ x := by rw [hx_x]; exact Nat.ne_of_lt A_r.lt
      have ne_x_r := Ne.symm ne_r_x
      have g_x : G.n0 ≤ x := by rw [hx_x]; exact Z0
      have Z0 := Nat.le_trans Z0 Ex443.1
      have A_r := A_r.ext Ex443
      have F_x_ranges : Fld G.Z h443_8 x "quadrille/CharacterClass$Span" "ranges" "[I" .null := D_x (Or.inr (C.w (i := 18) rfl)) (ty := (.array .int)) (by decide)
      refine N.dup C (pc' := 447) at_446 rfl rfl ?_
      refine N.aload C (pc' := 449) at_447 rfl rfl rfl ?_
      refine N.callI C (pc' := 452) x [(.ref r)] at_449 rfl (C.w (i := 6) rfl) (C.w (i := 7) rfl) (C.w (i := 5) rfl) (C.w (i := 8) rfl) (by decide) (con1 G hw x r h443_8 Z0 g_x E_x F_x_ranges) (lenOf pd___I_V rfl) rfl (by decide) (show 1 + (2 + 11) + _ ≤ _ from by decide) (by decide) (by decide) (rest := [(.ref x)]) rfl rfl ?_
      rintro _ h449_9 ⟨rfl, KpI, F1I⟩
      have Z0 := Nat.le_trans Z0 KpI.1
      have E_x := E_x.keep KpI
      have A_r := A_r.keep KpI (ninS ne_r_x nin0)
      have F_x_ranges := F1I
      show N G K room_1 Q h449_9 ((0 + 1) + 1) ((0 + 6) + 1) 452 #[.val (.int start), .val (.int len), .val (.int gap), .val (.int craw), .val (.int mode), .val (.int (3 : Int32)), .val (.int wv), .val (.long l0), .second, .val (.long l1), .second, .val (.long l2), .second, .val (.long g1), .second, .val (.long g2), .second, .val (.long a0), .second, .val (.long b0), .second, .val (.long a1), .second, .val (.long b1), .second, .val (.long a2), .second, .val (.long b2), .second, .val (.long b2), .second, .val (.ref r), .val (.int (((mode.toUInt32 >>> ((3 : Int32) &&& 31).toUInt32).toInt32) &&& (7 : Int32))), .val (.long (((((mode.toUInt32 >>> ((6 : Int32) &&& 31).toUInt32).toInt32) &&& (3 : Int32)) - (1 : Int32)).toInt64)), .second, .val (.int c), .val (.long (c.toInt64)), .second, .val (.int ev), .unset] [(.ref x)]
      refine N.iload C (pc' := 454) at_452 rfl rfl ?_
      have t_a0 : a0.toInt32.toInt = a0.toInt := own_l2i (by omega) (by omega)
      have t_b0 : b0.toInt32.toInt = b0.toInt := own_l2i (by omega) (by omega)
      have t_a1 : a1.toInt32.toInt = a1.toInt := own_l2i (by omega) (by omega)
      have t_b1 : b1.toInt32.toInt = b1.toInt := own_l2i (by omega) (by omega)
      have t_a2 : a2.toInt32.toInt = a2.toInt := own_l2i (by omega) (by omega)
      have t_b2 : b2.toInt32.toInt = b2.toInt := own_l2i (by omega) (by omega)
      have hsrt : own_srt [a0.toInt32, b0.toInt32, a1.toInt32, b1.toInt32, a2.toInt32, b2.toInt32] := (by
          intro i j x y hx hy hij
          have hi := (List.getElem?_eq_some_iff.mp hx).1
          have hj := (List.getElem?_eq_some_iff.mp hy).1
          simp only [List.length_cons, List.length_nil] at hi hj
          rcases (by omega : i = 0 ∨ i = 1 ∨ i = 2 ∨ i = 3 ∨ i = 4 ∨ i = 5) with rfl | rfl | rfl | rfl | rfl | rfl <;> rcases (by omega : j = 0 ∨ j = 1 ∨ j = 2 ∨ j = 3 ∨ j = 4 ∨ j = 5) with rfl | rfl | rfl | rfl | rfl | rfl <;> first | omega | (cases hx; cases hy; omega))
      refine N.callV C (pc' := 457) x [(.int c)] at_454 (C.w (i := 19) rfl) (C.w (i := 20) rfl) (C.w (i := 22) rfl) (C.w (i := 21) rfl) (C.w (i := 5) rfl) (C.w (i := 23) rfl) (by decide) E_x (con4 G hw x r c (6 : Int32) [a0.toInt32, b0.toInt32, a1.toInt32, b1.toInt32, a2.toInt32, b2.toInt32] h449_9 (show (6 : Int32).toInt = ((6 : Nat) : Int) from by decide) (show 6 ≤ 6 from by decide) hsrt F_x_ranges A_r) (lenOf pd__I_Z rfl) rfl (by decide) (show 0 + (5 + 11) + _ ≤ _ from by decide) (by decide) (by decide) (rest := []) rfl rfl ?_
      rintro _ h454_10 ⟨z, lo, y, rfl, rfl, hB, hy, hz⟩
      show N G K room_1 Q h449_9 ((0 + 1) + 1) ((0 + 6) + 1) 457 #[.val (.int start), .val (.int len), .val (.int gap), .val (.int craw), .val (.int mode), .val (.int (3 : Int32)), .val (.int wv), .val (.long l0), .second, .val (.long l1), .second, .val (.long l2), .second, .val (.long g1), .second, .val (.long g2), .second, .val (.long a0), .second, .val (.long b0), .second, .val (.long a1), .second, .val (.long b1), .second, .val (.long a2), .second, .val (.long b2), .second, .val (.long b2), .second, .val (.ref r), .val (.int (((mode.toUInt32 >>> ((3 : Int32) &&& 31).toUInt32).toInt32) &&& (7 : Int32))), .val (.long (((((mode.toUInt32 >>> ((6 : Int32) &&& 31).toUInt32).toInt32) &&& (3 : Int32)) - (1 : Int32)).toInt64)), .second, .val (.int c), .val (.long (c.toInt64)), .second, .val (.int ev), .unset] [(.int z)]
      refine N.istore C (pc' := 459) (ls' := #[.val (.int start), .val (.int len), .val (.int gap), .val (.int craw), .val (.int mode), .val (.int (3 : Int32)), .val (.int wv), .val (.long l0), .second, .val (.long l1), .second, .val (.long l2), .second, .val (.long g1), .second, .val (.long g2), .second, .val (.long a0), .second, .val (.long b0), .second, .val (.long a1), .second, .val (.long b1), .second, .val (.long a2), .second, .val (.long b2), .second, .val (.long b2), .second, .val (.ref r), .val (.int (((mode.toUInt32 >>> ((3 : Int32) &&& 31).toUInt32).toInt32) &&& (7 : Int32))), .val (.long (((((mode.toUInt32 >>> ((6 : Int32) &&& 31).toUInt32).toInt32) &&& (3 : Int32)) - (1 : Int32)).toInt64)), .second, .val (.int c), .val (.long (c.toInt64)), .second, .val (.int ev), .val (.int z)]) at_457 rfl rfl ?_
      have k0 := hB.2.2.1 0 _ rfl
      have m0 := hB.2.2.2 0 _ rfl
      have y0 := hy 0 _ rfl
      have k1 := hB.2.2.1 1 _ rfl
      have m1 := hB.2.2.2 1 _ rfl
      have y1 := hy 1 _ rfl
      have k2 := hB.2.2.1 2 _ rfl
      have m2 := hB.2.2.2 2 _ rfl
      have y2 := hy 2 _ rfl
      have k3 := hB.2.2.1 3 _ rfl
      have m3 := hB.2.2.2 3 _ rfl
      have y3 := hy 3 _ rfl
      have k4 := hB.2.2.1 4 _ rfl
      have m4 := hB.2.2.2 4 _ rfl
      have y4 := hy 4 _ rfl
      have k5 := hB.2.2.1 5 _ rfl
      have m5 := hB.2.2.2 5 _ rfl
      have y5 := hy 5 _ rfl
      have hlo := hB.2.1
      simp only [List.length_cons, List.length_nil] at hlo hz
      have hev2 : ev = (1 : Int32) ∨ ev = (0 : Int32) := hev.imp (·.1) (·.1)
      have hzz : z = ev := own_zz hz hev2 (fun e R => by
        rcases hev with ⟨-, q⟩ | ⟨e', -⟩
        · omega
        · rw [e'] at e; exact absurd e (by decide)) (fun e R => by
        rcases hev with ⟨e', -⟩ | ⟨-, q⟩
        · rw [e'] at e; exact absurd e (by decide)
        · omega)
      refine N.iload C (pc' := 461) at_459 rfl rfl ?_
      refine N.iload C (pc' := 463) at_461 rfl rfl ?_
      refine N.icmp C (pt := 470) (pf := 466) at_463 rfl rfl (fun (hc463 : ¬ z = ev) => absurd (show False from by exact hc463 hzz) id) (fun (hc463 : z = ev) => ?_)
      refine N.iconst C (pc' := 467) (z := 1) at_466 rfl rfl ?_
      refine N.goto C (pc' := 471) at_467 rfl ?_
      exact N.retN C (by simp) (z' := (1 : Int32)) rfl at_471 (by decide) (by decide) (by subst hQ; exact rfl)
    · refine N.iconst C (pc' := 169) (z := 1) at_168 rfl rfl ?_
      exact N.retN C (by simp) (z' := (1 : Int32)) rfl at_169 (by decide) (by decide) (by subst hQ; exact rfl)
set_option maxRecDepth 65536 in
set_option maxHeartbeats 40000000 in
theorem comes_1 {Post : Tables → Env → Array Value → State → Outcome → State → Prop} (hpost : ∀ tb e args s v u, (limb_1_1.after args s (.returned v) u = true ∧ limb_1_2.after args s (.returned v) u = true ∧ True) → FrameEnd s (.returned v) u (Jvm.fieldLocs frame_1_writes args s ++ Jvm.arrayLocs frame_1_arrays args s ++ Jvm.staticLocs frame_1_statics s) 16 128 → Post tb e args s (.returned v) u) :
    ArmFor flags0 classFile x code maxLocals ret World_1 tables_1 room_1 Calls_1 rest_1 Pre_1 Post := by
  intro l hfl _ _ p e ha hc hk s m args below hf hA hF happ hP
  obtain ⟨hcalls, hrest, hpre⟩ := hP
  obtain ⟨-, -, -, hnamed, -, -, -, hat⟩ := (Spec.applies_iff hf).mp happ
  obtain ⟨hg, hn⟩ := and_e (Cond.before_iff.mp (show (Jvm.Cond.and given_1 narrow_1).before args s = true from hpre))
  obtain ⟨hcount, hrow⟩ := and_e hg
  obtain ⟨ha0, hrow⟩ := and_e hrow
  obtain ⟨ha1, hrow⟩ := and_e hrow
  obtain ⟨ha2, hrow⟩ := and_e hrow
  obtain ⟨ha3, hrow⟩ := and_e hrow
  have ha4 := hrow
  obtain ⟨w0, w1, w2, w3, w4, rfl⟩ : ∃ w0 w1 w2 w3 w4 : Value, args = #[w0, w1, w2, w3, w4] := by
    have hs : args.size = 5 := by simpa [Cond.value, given_1] using hcount
    obtain ⟨L⟩ := args
    match L, hs with
    | [w0, w1, w2, w3, w4], _ => exact ⟨w0, w1, w2, w3, w4, rfl⟩
  have hw := fun d (hd : d ∈ tables_1) => atoms_spec (ws := Jvm.Cond.code x code maxLocals ret :: tables_1) hat d (List.mem_cons_of_mem _ hd)
  have hfit : Fit s := fun {y c} hc i hi => by
    obtain ⟨ha, rfl⟩ := Array.getElem?_eq_some_iff.mp hc
    have q := List.all_eq_true.mp ((Array.all_eq_true_iff_forall_mem.mp hF) _ (Array.getElem_mem ha)) i (List.mem_range.mpr hi)
    simpa [Array.getElem?_eq_getElem hi] using q
  obtain ⟨i0, ei0⟩ := is_v ha0
  obtain rfl : w0 = (.int i0) := Option.some.inj ei0
  obtain ⟨i1, ei1⟩ := is_v ha1
  obtain rfl : w1 = (.int i1) := Option.some.inj ei1
  obtain ⟨i2, ei2⟩ := is_v ha2
  obtain rfl : w2 = (.int i2) := Option.some.inj ei2
  obtain ⟨i3, ei3⟩ := is_v ha3
  obtain rfl : w3 = (.int i3) := Option.some.inj ei3
  obtain ⟨i4, ei4⟩ := is_v ha4
  obtain rfl : w4 = (.int i4) := Option.some.inj ei4
  obtain ⟨n, o, h1, h2, h3, _, L, rfl, ⟨rfl, N⟩, hq⟩ := con0 (l, s, _, s.heap.size) hw i0 i1 i2 i3 i4 s.heap (Nat.le_refl _) tables_1 p e ha hc hk s m _ below hf ((Spec.applies_iff_loose hf).mp happ).1 ⟨rfl, State.Warmed39.refl s, rfl⟩ trivial
  refine ⟨n, _, h1, h2, h3, hpost _ _ _ _ _ _ ⟨Cond.after_iff.mpr rfl, Cond.after_iff.mpr (eq_i res_at (Term.int_eval (1)) rfl), trivial⟩ ⟨hq.1, hq.2.1, (hq.2.2.sift fun y hy => Or.inr (N y hy)).mono (by decide) (by decide)⟩⟩
theorem main_1_1 : Claimed_1_1 := comes_1 fun _ _ _ _ _ _ h hF => ⟨h.1, hF⟩
theorem main_1_2 : Claimed_1_2 := comes_1 fun _ _ _ _ _ _ h hF => ⟨h.2.1, hF⟩
end Jvm.Pilot.@@N@@
namespace Jvm.Pilot.@@N@@
open Jvm Jvm.ClassFile Sem Op Lib Jvm.Free Jvm.Stand Jvm.Pilot.@@N@@.Jvm.D
/-! MADE BY PROGRAM (witnessworld.py) out of the Statement's table words and the real class files: 11 classes; the members and pool entries that the words name. The judged class is class 1, her method 1. -/
namespace start1
open Jvm.ClassFile
def u (s : String) : CpInfo := .utf8 (stringToUtf16 s)
/-- a pool by its gaps: so many unusable entries, then the entry; so many at the end -/
def gap : Nat → List CpInfo → List CpInfo
  | 0, r => r
  | n + 1, r => .unusable :: gap n r
def poolList (es : List (Nat × CpInfo)) (last : Nat) : List CpInfo := es.foldr (fun e r => gap e.1 (e.2 :: r)) (gap last [])
def pool (es : List (Nat × CpInfo)) (last : Nat) : Array CpInfo := ⟨poolList es last⟩
def fileOf (pool : Array CpInfo) (this : Nat) (attrs : Array Attribute := #[]) (ms : Array MethodInfo := #[]) (fl : Nat := 33) (sup : Nat := 0) (ifs : Array Nat := #[]) (fds : Array FieldInfo := #[]) : ClassFile where
  minorVersion := 0
  majorVersion := 65
  constantPool := pool
  accessFlags := fl
  thisClass := this
  superClass := sup
  interfaces := ifs
  fields := fds
  methods := ms
  attributes := attrs
def plain (name : String) (sup : Option ClassId) : Class where
  name := name
  kind := .ordinary
  loader := none
  accessFlags := 33
  super := sup
  interfaces := #[]
  cf := none
  fields := #[]
  methods := #[]
  instanceTypes := #[]
  staticTypes := #[]
  resolved := #[]
  callSites := []
  init := .initialized
  statics := none
  mirror := none

def pool0 : Array CpInfo := pool [(5, u "<init>"), (0, u "()V"), (1, .class_ 10), (1, u "java/lang/Object")] 113

def k0c0 : Code := { maxStack := 0, maxLocals := 1, code := object_method_1_code, exceptionTable := #[], attributes := #[] }
def k0m0 : Method := { name := "<init>", desc := "()V", sig := { parameters := [], returnType := none }, accessFlags := 1, code := some k0c0 }
/-- java/lang/Object -/
def k0 : Class := { plain "java/lang/Object" none with
  accessFlags := 33
  interfaces := #[]
  cf := some (fileOf pool0 8 #[] #[{ accessFlags := 1, nameIndex := 5, descriptorIndex := 6, attributes := #[] }] 33 0 #[] #[])
  fields := #[]
  methods := #[k0m0]
  instanceTypes := #[]
  staticTypes := #[]
  resolved := Array.replicate 124 none
  statics := none }

def pool1 : Array CpInfo := pool [(2, .class_ 4), (1, u "java/lang/Object"), (0, u "<init>"), (0, u "()V"), (0, .long 2147483647), (1, .integer 65535), (0, .long 2), (1, .class_ 13), (0, u "quadrille/CharacterClass$Span"), (0, .methodref 12 15), (0, .nameAndType 5 16), (0, u "([I)V"), (0, .methodref 12 18), (0, .nameAndType 19 20), (0, u "contains"), (0, u "(I)Z"), (0, .class_ 22), (0, u "quadrille/SpanContainsPinLaw"), (2, u "law"), (0, u "(IIIII)Z")] 9

def k1m0 : Method := { name := "<init>", desc := "()V", sig := { parameters := [], returnType := none }, accessFlags := 1, code := none }
def k1c1 : Code := { maxStack := 4, maxLocals := 40, code := code, exceptionTable := #[], attributes := #[] }
def k1m1 : Method := { name := "law", desc := "(IIIII)Z", sig := { parameters := [.int, .int, .int, .int, .int], returnType := some .boolean }, accessFlags := 9, code := some k1c1 }
/-- quadrille/SpanContainsPinLaw -/
def k1 : Class := { plain "quadrille/SpanContainsPinLaw" (some 0) with
  accessFlags := 49
  interfaces := #[]
  cf := some (fileOf pool1 21 #[] #[{ accessFlags := 1, nameIndex := 5, descriptorIndex := 6, attributes := #[] }, { accessFlags := 9, nameIndex := 25, descriptorIndex := 26, attributes := #[] }] 49 2 #[] #[])
  fields := #[]
  methods := #[k1m0, k1m1]
  instanceTypes := #[]
  staticTypes := #[]
  resolved := Array.replicate 36 none
  statics := none }

def pool2 : Array CpInfo := pool [(1, .methodref 2 3), (0, .class_ 4), (0, .nameAndType 5 6), (0, u "java/lang/Object"), (0, u "<init>"), (0, u "()V"), (0, .class_ 8), (0, u "java/lang/Record")] 13

def k2c0 : Code := { maxStack := 1, maxLocals := 1, code := jdk_30_method_1_code, exceptionTable := #[], attributes := #[] }
def k2m0 : Method := { name := "<init>", desc := "()V", sig := { parameters := [], returnType := none }, accessFlags := 4, code := some k2c0 }
/-- java/lang/Record -/
def k2 : Class := { plain "java/lang/Record" (some 0) with
  accessFlags := 1057
  interfaces := #[]
  cf := some (fileOf pool2 7 #[] #[{ accessFlags := 4, nameIndex := 5, descriptorIndex := 6, attributes := #[] }] 1057 2 #[] #[])
  fields := #[]
  methods := #[k2m0]
  instanceTypes := #[]
  staticTypes := #[]
  resolved := Array.replicate 22 none
  statics := none }

def pool3 : Array CpInfo := pool [(8, .class_ 10), (1, u "quadrille/CharacterClass"), (15, .class_ 28), (1, u "quadrille/CharacterClass$CaseVariants"), (7, .class_ 38), (1, u "quadrille/CharacterClass$Span"), (2, .class_ 43), (1, u "quadrille/CharacterClass$Category"), (17, .class_ 62), (0, u "quadrille/CharacterClass$Block"), (41, .class_ 105), (0, u "quadrille/CharacterClass$Union"), (7, .class_ 114), (0, u "java/lang/Object"), (19, .class_ 135), (0, u "quadrille/CharacterClass$Difference"), (0, .class_ 137), (0, u "quadrille/CharacterClass$Complement")] 12

/-- quadrille/CharacterClass -/
def k3 : Class := { plain "quadrille/CharacterClass" (some 0) with
  accessFlags := 1536
  interfaces := #[]
  cf := some (fileOf pool3 8 #[.nestMembers #[26, 134, 104, 136, 61, 41, 36]] #[] 1536 113 #[] #[])
  fields := #[]
  methods := #[]
  instanceTypes := #[]
  staticTypes := #[]
  resolved := Array.replicate 150 none
  statics := none }

def pool4 : Array CpInfo := pool [(1, .methodref 2 3), (0, .class_ 4), (0, .nameAndType 5 6), (0, u "java/lang/Record"), (0, u "<init>"), (0, u "()V"), (0, .fieldref 8 9), (0, .class_ 10), (0, .nameAndType 11 12), (0, u "quadrille/CharacterClass$Span"), (0, u "ranges"), (0, u "[I"), (43, u "([I)V"), (35, .class_ 93), (0, u "quadrille/CharacterClass"), (8, u "contains"), (0, u "(I)Z")] 41

def k4c0 : Code := { maxStack := 2, maxLocals := 2, code := prog_23_method_1_code, exceptionTable := #[], attributes := #[] }
def k4m0 : Method := { name := "<init>", desc := "([I)V", sig := { parameters := [(.array .int)], returnType := none }, accessFlags := 1, code := some k4c0 }
def k4c1 : Code := { maxStack := 2, maxLocals := 5, code := prog_23_method_3_code, exceptionTable := #[], attributes := #[] }
def k4m1 : Method := { name := "contains", desc := "(I)Z", sig := { parameters := [.int], returnType := some .boolean }, accessFlags := 1, code := some k4c1 }
/-- quadrille/CharacterClass$Span -/
def k4 : Class := { plain "quadrille/CharacterClass$Span" (some 2) with
  accessFlags := 49
  interfaces := #[3]
  cf := some (fileOf pool4 8 #[.nestHost 92] #[{ accessFlags := 1, nameIndex := 5, descriptorIndex := 56, attributes := #[] }, { accessFlags := 1, nameIndex := 102, descriptorIndex := 103, attributes := #[] }] 49 2 #[92] #[{ accessFlags := 18, nameIndex := 11, descriptorIndex := 12, attributes := #[] }])
  fields := #[{ name := "ranges", type := (.array .int), accessFlags := 18, slot := 0, constantValue := 0 }]
  methods := #[k4m0, k4m1]
  instanceTypes := #[(.array .int)]
  staticTypes := #[]
  resolved := Array.replicate 145 none
  statics := none }

def pool5 : Array CpInfo := pool [(1, u "java/lang/Cloneable"), (0, .class_ 1), (0, u "java/lang/Object"), (0, .class_ 3)] 3

/-- java/lang/Cloneable -/
def k5 : Class := { plain "java/lang/Cloneable" (some 0) with
  accessFlags := 1537
  interfaces := #[]
  cf := some (fileOf pool5 2 #[] #[] 1537 4 #[] #[])
  fields := #[]
  methods := #[]
  instanceTypes := #[]
  staticTypes := #[]
  resolved := Array.replicate 8 none
  statics := none }

def pool6 : Array CpInfo := pool [(1, u "java/io/Serializable"), (0, .class_ 1), (0, u "java/lang/Object"), (0, .class_ 3)] 3

/-- java/io/Serializable -/
def k6 : Class := { plain "java/io/Serializable" (some 0) with
  accessFlags := 1537
  interfaces := #[]
  cf := some (fileOf pool6 2 #[] #[] 1537 4 #[] #[])
  fields := #[]
  methods := #[]
  instanceTypes := #[]
  staticTypes := #[]
  resolved := Array.replicate 8 none
  statics := none }

/-- the primitive byte -/
def k7 : Class := { plain "byte" none with kind := .primitive 'B', accessFlags := 0x411 }
/-- [B -/
def k8 : Class := { plain "[B" (some 0) with kind := .array 7 .byte, interfaces := #[5, 6], accessFlags := 1041 }

/-- the primitive int -/
def k9 : Class := { plain "int" none with kind := .primitive 'I', accessFlags := 0x411 }
/-- [I -/
def k10 : Class := { plain "[I" (some 0) with kind := .array 9 .int, interfaces := #[5, 6], accessFlags := 1041 }

def heap : Heap := #[]
def classes : Array Class := #[k0, k1, k2, k3, k4, k5, k6, k7, k8, k9, k10]
def interned : List (Array UInt16 × Addr) := []
def slotsUsed : Nat := 0
def theMethod : MethodId := ⟨1, 1⟩
def args0 : Array Value := #[.int 5, .int 6, .int 7, .int 1, .int 2]
def aboutOver (below : List Frame) : State where
  vm := { classes := classes, interned := interned.toArray }
  heap := heap
  slotsUsed := slotsUsed
  threads := #[{ frames := .invoking theMethod args0 :: below }]
def below0 : List Frame := [.native { method := ⟨0, 0⟩, args := #[] }]
def about1 : State := aboutOver below0
def p0 : Program := .bare "" "" ""
def e0 : Env := launch0.env 0 0 0
theorem w_frames : about1.frames = Frame.invoking theMethod args0 :: below0 := rfl
set_option maxRecDepth 65536 in
theorem w_args : argsFit about1.vm theMethod args0 = true := by decide +kernel
set_option maxRecDepth 65536 in
theorem w_heap : heapFits about1 = true := by decide +kernel
set_option maxRecDepth 65536 in
theorem w_runnable : about1.curStatus? = some .runnable := by decide +kernel
set_option maxRecDepth 65536 in
theorem w_alone : about1.alone = true := by decide +kernel
set_option maxRecDepth 65536 in
theorem w_named : about1.methodNamed? x = some theMethod := by decide +kernel
set_option maxRecDepth 65536 in
theorem w_hears : about1.hears theMethod below0 = true := by decide +kernel
set_option maxRecDepth 65536 in
theorem w_ripe : about1.ripe theMethod args0 below0 = true := by decide +kernel
theorem w_running : about1.status = .running := rfl
set_option maxRecDepth 65536 in
theorem w_room : about1.hasRoom e0.platform room_1 = true :=
  launch0.hasRoom_least _ room_1 (by decide +kernel) (by decide +kernel) (by decide +kernel) (by decide +kernel) (by decide +kernel) (by decide +kernel)
theorem allAtoms_all (ts : List Jvm.Cond) (a : Array Jvm.Value) (st : Jvm.State) : (allAtoms ts).before a st = ts.all (fun c => c.before a st) := by
  induction ts with
  | nil => rfl
  | cons c t ih =>
    show (Jvm.Cond.and c (allAtoms t)).before a st = _
    rw [Jvm.Cond.before_and, ih, List.all_cons]
def words1 : List Jvm.Cond := Jvm.Cond.code x code maxLocals ret :: tables_1
/-- a 'code' word, met by the world's own term for the bytes: nothing is compared byte by byte -/
theorem code_word {y : MethodName} {bytes : ByteArray} {mx : Nat} {rt : Option FieldType} {a : Array Value} {s : State} {m : MethodId} {meth : Method} {c : Code} (h1 : s.methodNamed? y = some m) (h2 : s.vm.method? m = some meth) (h3 : meth.code = some c) (h4 : c.code = bytes)
    (h5 : (c.maxLocals == mx && c.exceptionTable.isEmpty && decide (c.maxStack ≤ mostOperands) && decide (meth.sig.returnType = rt) && !meth.locks && decide (parseMethodDescriptor y.desc = some meth.sig)) = true) : (Jvm.Cond.code y bytes mx rt).before a s = true := by
  simp only [Bool.and_eq_true, beq_iff_eq, Bool.not_eq_true', decide_eq_true_eq] at h5
  obtain ⟨⟨⟨⟨⟨g1, g2⟩, g3⟩, g4⟩, g5⟩, g6⟩ := h5
  simp [Cond.before, Cond.holds, Cond.value, h1, h2, h3, h4, g1, g2, g3, g4, g5, g6]
def isCode : Jvm.Cond → Bool
  | .code _ _ _ _ => true
  | _ => false
theorem all_split {L : List Jvm.Cond} {P : Jvm.Cond → Bool} (h1 : L.all (fun c => isCode c || P c) = true) (h2 : ∀ c ∈ L.filter isCode, P c = true) : L.all P = true := by
  refine List.all_eq_true.mpr fun c hc => ?_
  have h := List.all_eq_true.mp h1 c hc
  rcases Bool.eq_false_or_eq_true (isCode c) with hi | hi
  · exact h2 c (List.mem_filter.mpr ⟨hc, hi⟩)
  · simpa [hi] using h
set_option maxRecDepth 65536 in
theorem w_c0 : (Jvm.Cond.code x code maxLocals ret).before args0 about1 = true := code_word (m := ⟨1, 1⟩) (meth := k1m1) (c := k1c1) (by decide +kernel) rfl rfl rfl (by decide +kernel)
set_option maxRecDepth 65536 in
theorem w_c1 : (Jvm.Cond.code ({ cls := "quadrille/CharacterClass$Span", name := "<init>", desc := "([I)V" } : Jvm.MethodName) prog_23_method_1_code (2 : Nat) (Option.none : Option Jvm.ClassFile.FieldType)).before args0 about1 = true := code_word (m := ⟨4, 0⟩) (meth := k4m0) (c := k4c0) (by decide +kernel) rfl rfl rfl (by decide +kernel)
set_option maxRecDepth 65536 in
theorem w_c2 : (Jvm.Cond.code ({ cls := "java/lang/Record", name := "<init>", desc := "()V" } : Jvm.MethodName) jdk_30_method_1_code (1 : Nat) (Option.none : Option Jvm.ClassFile.FieldType)).before args0 about1 = true := code_word (m := ⟨2, 0⟩) (meth := k2m0) (c := k2c0) (by decide +kernel) rfl rfl rfl (by decide +kernel)
set_option maxRecDepth 65536 in
theorem w_c3 : (Jvm.Cond.code ({ cls := "java/lang/Object", name := "<init>", desc := "()V" } : Jvm.MethodName) object_method_1_code (1 : Nat) (Option.none : Option Jvm.ClassFile.FieldType)).before args0 about1 = true := code_word (m := ⟨0, 0⟩) (meth := k0m0) (c := k0c0) (by decide +kernel) rfl rfl rfl (by decide +kernel)
set_option maxRecDepth 65536 in
theorem w_c4 : (Jvm.Cond.code ({ cls := "quadrille/CharacterClass$Span", name := "contains", desc := "(I)Z" } : Jvm.MethodName) prog_23_method_3_code (5 : Nat) (Option.some Jvm.ClassFile.FieldType.boolean)).before args0 about1 = true := code_word (m := ⟨4, 1⟩) (meth := k4m1) (c := k4c1) (by decide +kernel) rfl rfl rfl (by decide +kernel)
def codes1 : List Jvm.Cond := [Jvm.Cond.code x code maxLocals ret, Jvm.Cond.code ({ cls := "quadrille/CharacterClass$Span", name := "<init>", desc := "([I)V" } : Jvm.MethodName) prog_23_method_1_code (2 : Nat) (Option.none : Option Jvm.ClassFile.FieldType), Jvm.Cond.code ({ cls := "java/lang/Record", name := "<init>", desc := "()V" } : Jvm.MethodName) jdk_30_method_1_code (1 : Nat) (Option.none : Option Jvm.ClassFile.FieldType), Jvm.Cond.code ({ cls := "java/lang/Object", name := "<init>", desc := "()V" } : Jvm.MethodName) object_method_1_code (1 : Nat) (Option.none : Option Jvm.ClassFile.FieldType), Jvm.Cond.code ({ cls := "quadrille/CharacterClass$Span", name := "contains", desc := "(I)Z" } : Jvm.MethodName) prog_23_method_3_code (5 : Nat) (Option.some Jvm.ClassFile.FieldType.boolean)]
set_option maxRecDepth 65536 in
theorem codes_eq : words1.filter isCode = codes1 := rfl
theorem w_codes : ∀ c ∈ words1.filter isCode, c.before args0 about1 = true := by
  rw [codes_eq]
  intro c hc
  simp only [codes1, List.mem_cons, List.not_mem_nil, or_false] at hc
  rcases hc with rfl | rfl | rfl | rfl | rfl
  · exact w_c0
  · exact w_c1
  · exact w_c2
  · exact w_c3
  · exact w_c4
set_option maxRecDepth 65536 in
theorem w_t1 : (words1.take 24).all (fun c => isCode c || c.before args0 about1) = true := by decide +kernel
set_option maxRecDepth 65536 in
theorem w_t2 : (words1.drop 24).all (fun c => isCode c || c.before args0 about1) = true := by decide +kernel
theorem w_tables : (allAtoms (Jvm.Cond.code x code maxLocals ret :: tables_1)).before args0 about1 = true := by
  rw [allAtoms_all]
  show words1.all (fun c => c.before args0 about1) = true
  refine all_split ?_ w_codes
  rw [← List.take_append_drop 24 words1, List.all_append, w_t1, w_t2]
  rfl
set_option maxRecDepth 65536 in
theorem w_case : (Jvm.Cond.and given_1 narrow_1).before args0 about1 = true := by decide +kernel
theorem w_applies : (headSpec (Jvm.Cond.code x code maxLocals ret :: tables_1) room_1).applies x e0.platform about1 = true :=
  (Spec.applies_iff w_frames).mpr ⟨w_running, w_runnable, w_alone, w_named, w_hears, w_ripe, w_room, w_tables⟩
theorem atStart : AtStart classFile x code maxLocals ret World_1 tables_1 room_1 Calls_1 rest_1 Pre_1 launch0 p0 e0 about1 theMethod args0 below0 :=
  ⟨lists_1, trivial, launch0.admits_env _ _ _, launch0.least_env, fairChoices_fair.cas, fairChoices_fair.clock, w_frames, w_args, w_heap, w_applies, trivial, trivial, w_case⟩
end start1
theorem witness_1 : WitnessClaimed_1 := ⟨start1.p0, start1.e0, start1.about1, start1.theMethod, start1.args0, start1.below0, start1.atStart⟩
end Jvm.Pilot.@@N@@
