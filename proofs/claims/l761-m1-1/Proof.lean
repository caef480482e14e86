import JvmDerived
import JvmDerived.Pilot.@@N@@Statement
import JvmDerived.Pilot.@@N@@Code
set_option linter.unusedVariables false
set_option linter.unusedSimpArgs false
@@BLOCK:HandJ.lean.txt@@
@@BLOCK:SymMore.lean.txt@@
namespace Jvm.OwnKit
open Sem ClassFile Op Lib Jvm.Stand Jvm.Free Jvm.LawKit Jvm.RoadKit
/-- what is fixed in the whole proof: the launch, the start (whose tables the words speak of), its arguments, the least new address -/
abbrev Gx := Launch × State × Array Value × Nat
abbrev Gx.l (G : Gx) : Launch := G.1
abbrev Gx.Z (G : Gx) : State := G.2.1
abbrev Gx.a0 (G : Gx) : Array Value := G.2.2.1
abbrev Gx.n0 (G : Gx) : Nat := G.2.2.2
/-- what is fixed in one body's walk -/
abbrev Kx := Program × Env × State × MethodId × Array Value × List Frame × Method × Code
abbrev Kx.p (K : Kx) : Program := K.1
abbrev Kx.e (K : Kx) : Env := K.2.1
abbrev Kx.s (K : Kx) : State := K.2.2.1
abbrev Kx.m (K : Kx) : MethodId := K.2.2.2.1
abbrev Kx.args (K : Kx) : Array Value := K.2.2.2.2.1
abbrev Kx.below (K : Kx) : List Frame := K.2.2.2.2.2.1
abbrev Kx.meth (K : Kx) : Method := K.2.2.2.2.2.2.1
abbrev Kx.c (K : Kx) : Code := K.2.2.2.2.2.2.2
def Cx (G : Gx) (K : Kx) (own nm : String) (bytes : ByteArray) (maxL : Nat) (ret : Option FieldType) (W : List Jvm.Cond) : Prop :=
  K.p.tables.exec = Jvm.exec ∧ G.Z.Warmed39 K.s.vm ∧ K.c.code = bytes ∧ K.c.maxLocals = maxL ∧ K.s.vm.findClass own = some K.m.cls ∧ K.meth.name = nm ∧ K.meth.sig.returnType = ret ∧ K.meth.locks = false ∧ ∀ d ∈ W, d.before G.a0 G.Z = true
section Cxs
variable {G : Gx} {K : Kx} {own nm : String} {bytes : ByteArray} {maxL : Nat} {ret : Option FieldType} {W : List Jvm.Cond}
theorem Cx.hx (C : Cx G K own nm bytes maxL ret W) : K.p.tables.exec = Jvm.exec := C.1
theorem Cx.hZ (C : Cx G K own nm bytes maxL ret W) : G.Z.Warmed39 K.s.vm := C.2.1
theorem Cx.by (C : Cx G K own nm bytes maxL ret W) : K.c.code = bytes := C.2.2.1
theorem Cx.ml (C : Cx G K own nm bytes maxL ret W) : K.c.maxLocals = maxL := C.2.2.2.1
theorem Cx.ow (C : Cx G K own nm bytes maxL ret W) : K.s.vm.findClass own = some K.m.cls := C.2.2.2.2.1
theorem Cx.name (C : Cx G K own nm bytes maxL ret W) : K.meth.name = nm := C.2.2.2.2.2.1
theorem Cx.rt (C : Cx G K own nm bytes maxL ret W) : K.meth.sig.returnType = ret := C.2.2.2.2.2.2.1
theorem Cx.lk (C : Cx G K own nm bytes maxL ret W) : K.meth.locks = false := C.2.2.2.2.2.2.2.1
theorem Cx.w (C : Cx G K own nm bytes maxL ret W) {i : Nat} {d : Jvm.Cond} (h : W[i]? = some d) : d.before G.a0 G.Z = true := C.2.2.2.2.2.2.2.2 d (List.mem_of_getElem? h)
end Cxs
/-- the run stands in this body at pc with these locals and this stack, over the heap h, having made so many cells and slots: it ends as Q says -/
def N (G : Gx) (K : Kx) (rm : Room) (Q : Option Value → Heap → Prop) (h : Heap) (cells slots pc : Nat) (ls : Array Slot) (st : List Value) : Prop :=
  ∀ (T : State) (locs : List Loc), Stand K.p G.l K.e rm K.s K.m K.args K.below K.meth K.c T locs cells slots → T.heap = h → Fr G.n0 locs →
    ∃ s₂ o, Steps K.p.tables K.e K.below (T.setTop (mkF K.m pc ls st)) s₂ ∧ s₂.status = .running ∧ Ended s₂ K.below o ∧ ∃ v L, o = .returned v ∧ (Q v s₂.heap ∧ Fr G.n0 L) ∧ FrameEnd K.s o s₂ L rm.cells rm.slots
/-- a body's contract -/
def Con (G : Gx) (y : MethodName) (bytes : ByteArray) (maxL : Nat) (ret : Option FieldType) (rm : Room) (as : Array Value) (h : Heap) (Q : Option Value → Heap → Prop) : Prop :=
  ∀ ws : List Jvm.Cond, MetFree G.l y (head1 (Jvm.Cond.code y bytes maxL ret :: ws) rm) (fun a U => a = as ∧ G.Z.Warmed39 U.vm ∧ U.heap = h) (fun _ _ _ _ _ => True) (fun _ U o U' => ∃ v L, o = .returned v ∧ (Q v U'.heap ∧ Fr G.n0 L) ∧ FrameEnd U o U' L rm.cells rm.slots)
theorem Con.of {G : Gx} {y : MethodName} {bytes : ByteArray} {maxL : Nat} {ret : Option FieldType} {rm : Room} {as : Array Value} {h : Heap} {Q : Option Value → Heap → Prop} {W : List Jvm.Cond} {ls : Array Slot} (hpl : plainFor y = true) (hW : ∀ d ∈ W, d.before G.a0 G.Z = true)
    (he : ∀ m, entryFrame m as maxL = mkF m 0 ls []) (body : ∀ K : Kx, Cx G K y.cls y.name bytes maxL ret W → N G K rm Q h 0 0 0 ls []) : Con G y bytes maxL ret rm as h Q := fun ws => by
  refine MetFree.of_bodySF hpl hisR ?_
  intro p e s m args below meth c s₁ Bd hml hP hK
  obtain ⟨rfl, hZ, hh⟩ := hP
  have X0 : Stand p G.l e rm s m args below meth c s₁ [] 0 0 := Stand.of_body Bd
  obtain ⟨s₂, o, h1, h2, h3, h4⟩ := body (p, e, s, m, args, below, meth, c) ⟨Bd.exec, hZ, Bd.bytes, hml, findClass_of_methodNamed Bd.named, (name_of_methodNamed Bd.named Bd.method).1, Bd.returns, BodyLoose.notSynchronized Bd, hW⟩ s₁ [] X0 (by rw [← hh, Bd.state]; rfl) (Fr.nil _)
  exact ⟨s₂, o, castTop (he m) h1, h2, h3, h4⟩
theorem Con.mono {G : Gx} {y : MethodName} {bytes : ByteArray} {maxL : Nat} {ret : Option FieldType} {rm : Room} {as : Array Value} {h : Heap} {Q Q' : Option Value → Heap → Prop} (M : Con G y bytes maxL ret rm as h Q) (f : ∀ v h', Q v h' → Q' v h') : Con G y bytes maxL ret rm as h Q' := fun ws p e ha hc hk s m args below hf happ hP hK => by
  obtain ⟨n, o, h1, h2, h3, v, L, h4, ⟨h5, h6⟩, h7⟩ := M ws p e ha hc hk s m args below hf happ hP hK
  exact ⟨n, o, h1, h2, h3, v, L, h4, ⟨f _ _ h5, h6⟩, h7⟩
def cmpP : ClassFile.Cond → Int32 → Int32 → Prop
  | .eq, x, y => x = y
  | .ne, x, y => ¬ x = y
  | .lt, x, y => x.toInt < y.toInt
  | .ge, x, y => y.toInt ≤ x.toInt
  | .gt, x, y => y.toInt < x.toInt
  | .le, x, y => x.toInt ≤ y.toInt
def cmpN : ClassFile.Cond → Int32 → Int32 → Prop
  | .eq, x, y => ¬ x = y
  | .ne, x, y => x = y
  | .lt, x, y => y.toInt ≤ x.toInt
  | .ge, x, y => x.toInt < y.toInt
  | .gt, x, y => x.toInt ≤ y.toInt
  | .le, x, y => y.toInt < x.toInt
theorem cmp_or (cd : ClassFile.Cond) (x y : Int32) : (if_icmp.holds cd x y = true ∧ cmpP cd x y) ∨ (if_icmp.holds cd x y = false ∧ cmpN cd x y) := by
  have e1 := @Int32.lt_iff_toInt_lt x y
  have e2 := @Int32.lt_iff_toInt_lt y x
  by_cases h1 : x < y
  · obtain ⟨a1, a2, a3, a4⟩ := tlt h1
    have q := e1.mp h1
    have n : ¬ x = y := fun e => by subst e; omega
    obtain ⟨b1, b2⟩ := feq n
    have n' : ¬ y < x := fun z => by have := e2.mp z; omega
    obtain ⟨c1, c2, c3, c4⟩ := flt n'
    cases cd <;> simp only [cmpP, cmpN] <;> simp_all <;> omega
  · obtain ⟨a1, a2, a3, a4⟩ := flt h1
    have q : ¬ x.toInt < y.toInt := fun z => h1 (e1.mpr z)
    by_cases h2 : x = y
    · obtain ⟨b1, b2⟩ := teq h2
      subst h2
      obtain ⟨c1, c2, c3, c4⟩ := flt h1
      cases cd <;> simp only [cmpP, cmpN] <;> simp_all
    · obtain ⟨b1, b2⟩ := feq h2
      have q2 : ¬ x.toInt = y.toInt := fun z => h2 (Int32.toInt_inj.mp z)
      obtain ⟨c1, c2, c3, c4⟩ := tlt (e2.mpr (by omega : y.toInt < x.toInt))
      cases cd <;> simp only [cmpP, cmpN] <;> simp_all <;> omega
def cmpPL : ClassFile.Cond → Int64 → Int64 → Prop
  | .eq, x, y => x = y
  | .ne, x, y => ¬ x = y
  | .lt, x, y => x.toInt < y.toInt
  | .ge, x, y => y.toInt ≤ x.toInt
  | .gt, x, y => y.toInt < x.toInt
  | .le, x, y => x.toInt ≤ y.toInt
def cmpNL : ClassFile.Cond → Int64 → Int64 → Prop
  | .eq, x, y => ¬ x = y
  | .ne, x, y => x = y
  | .lt, x, y => y.toInt ≤ x.toInt
  | .ge, x, y => x.toInt < y.toInt
  | .gt, x, y => x.toInt ≤ y.toInt
  | .le, x, y => y.toInt < x.toInt
theorem cmp_orL (cd : ClassFile.Cond) (x y : Int64) : (ifCond.holds cd (lcmpW x y) = true ∧ cmpPL cd x y) ∨ (ifCond.holds cd (lcmpW x y) = false ∧ cmpNL cd x y) := by
  have hl : (lcmpW x y).toInt < (0 : Int32).toInt ↔ x.toInt < y.toInt := by rw [← Int32.lt_iff_toInt_lt, ← Int64.lt_iff_toInt_lt]; exact lw_lt x y
  have hg : (0 : Int32).toInt < (lcmpW x y).toInt ↔ y.toInt < x.toInt := by rw [← Int32.lt_iff_toInt_lt, ← Int64.lt_iff_toInt_lt]; exact lw_gt x y
  have he := lw_eq x y
  generalize lcmpW x y = z at *
  rw [if0]
  rcases cmp_or cd z 0 with ⟨h1, h2⟩ | ⟨h1, h2⟩
  · refine Or.inl ⟨h1, ?_⟩
    cases cd <;> simp only [cmpP, cmpPL] at h2 ⊢ <;> first | exact he.mp h2 | exact fun q => h2 (he.mpr q) | omega
  · refine Or.inr ⟨h1, ?_⟩
    cases cd <;> simp only [cmpN, cmpNL] at h2 ⊢ <;> first | exact he.mp h2 | exact fun q => h2 (he.mpr q) | omega
/-- the array at x, of that type, holds just these -/
def Av (Z : State) (h : Heap) (x : Addr) (ty : FieldType) (vs : List Value) : Prop := ∃ c : Cell, Arr Z h x c ty ∧ c.slots.toList = vs
theorem ix {j : Int32} {i : Nat} (h : j.toInt = (i : Int)) : ¬ j < 0 ∧ j.toNatClampNeg = i := by
  refine ⟨fun q => ?_, ?_⟩
  · have := Int32.lt_iff_toInt_lt.mp q
    have e0 : (0 : Int32).toInt = 0 := by decide
    omega
  · show j.toInt.toNat = i
    omega
theorem ixin {j : Int32} {i n : Nat} (h : j.toInt = (i : Int)) (hi : i < n) : ¬ (j < 0 ∨ n ≤ j.toNatClampNeg) := by
  obtain ⟨h1, h2⟩ := ix h
  rintro (q | q)
  · exact h1 q
  · omega
theorem eqI {x y : Int32} (h : x = y) : x.toInt = y.toInt := h ▸ rfl
theorem neI {x y : Int32} (h : ¬ x = y) : ¬ x.toInt = y.toInt := fun q => h (Int32.toInt_inj.mp q)
theorem eqL {x y : Int64} (h : x = y) : x.toInt = y.toInt := h ▸ rfl
theorem neL {x y : Int64} (h : ¬ x = y) : ¬ x.toInt = y.toInt := fun q => h (Int64.toInt_inj.mp q)
section Avs
variable {Z : State} {h h' : Heap} {x y : Addr} {ty : FieldType} {vs : List Value} {i : Nat} {v : Value} {sl : Nat} {ws : List Addr}
theorem Av.lt (A : Av Z h x ty vs) : x < h.size := by obtain ⟨c, A, -⟩ := A; exact A.lt
theorem Av.ext (A : Av Z h x ty vs) (E : Ext h h') : Av Z h' x ty vs := by obtain ⟨c, A, r⟩ := A; exact ⟨c, A.ext E, r⟩
theorem Av.other (A : Av Z h x ty vs) (W : Wr h h' y sl v) (q : x ≠ y) : Av Z h' x ty vs := by obtain ⟨c, A, r⟩ := A; exact ⟨c, A.other W q, r⟩
theorem Av.keep (A : Av Z h x ty vs) (K : Keep h h' ws) (q : x ∉ ws) : Av Z h' x ty vs := by obtain ⟨c, A, r⟩ := A; exact ⟨c, ⟨K.2.1 x c A.1 q, A.2⟩, r⟩
theorem Av.same (A : Av Z h x ty vs) (W : Wr h h' x i v) : Av Z h' x ty (vs.set i v) := by
  obtain ⟨c, A, rfl⟩ := A
  exact ⟨_, A.same W, by simp [Cell.setSlot]⟩
theorem Av.new {k : ClassId} {z : Int32} (A : Arr Z h x (newA k ty z) ty) : Av Z h x ty (List.replicate z.toNatClampNeg (defaultValue ty)) := ⟨_, A, by simp [newA]⟩
end Avs
section Rules
variable {G : Gx} {K : Kx} {rm : Room} {own nm : String} {bytes : ByteArray} {maxL : Nat} {ret : Option FieldType} {W : List Jvm.Cond} {Q Q' : Option Value → Heap → Prop} {h : Heap} {a b pc pc' : Nat} {ls ls' : Array Slot} {st st' : List Value}
theorem N.step (f : ∀ T, At T K.m K.c K.below → ∀ t, Steps K.p.tables K.e K.below (T.setTop (mkF K.m pc' ls' st')) t → Steps K.p.tables K.e K.below (T.setTop (mkF K.m pc ls st)) t) (k : N G K rm Q h a b pc' ls' st') : N G K rm Q h a b pc ls st := fun T locs X e F => by
  obtain ⟨s₂, o, hs, r⟩ := k T locs X e F
  exact ⟨s₂, o, f T X.here _ hs, r⟩
theorem N.stX (f : ∀ (T : State) (locs : List Loc), Stand K.p G.l K.e rm K.s K.m K.args K.below K.meth K.c T locs a b → T.heap = h → ∀ t, Steps K.p.tables K.e K.below (T.setTop (mkF K.m pc' ls' st')) t → Steps K.p.tables K.e K.below (T.setTop (mkF K.m pc ls st)) t) (k : N G K rm Q h a b pc' ls' st') : N G K rm Q h a b pc ls st := fun T locs X e F => by
  obtain ⟨s₂, o, hs, r⟩ := k T locs X e F
  exact ⟨s₂, o, f T locs X e _ hs, r⟩
theorem N.mono (k : N G K rm Q h a b pc ls st) (f : ∀ v h', Q v h' → Q' v h') : N G K rm Q' h a b pc ls st := fun T locs X e F => by
  obtain ⟨s₂, o, h1, h2, h3, v, L, h4, ⟨h5, h6⟩, h7⟩ := k T locs X e F
  exact ⟨s₂, o, h1, h2, h3, v, L, h4, ⟨f _ _ h5, h6⟩, h7⟩
theorem N.more {a' b' : Nat} (k : N G K rm Q h a' b' pc ls st) (ha : a ≤ a') (hb : b ≤ b') : N G K rm Q h a b pc ls st := fun T locs X e F => k T locs (X.more ha hb) e F

theorem N.iload (C : Cx G K own nm bytes maxL ret W) {k : Nat} {v : Int32} (hd : decode bytes pc = .ok (.iload k, 2)) (hl : ls[k]? = some (.val (.int v))) (hp : pc + 2 = pc') (k : N G K rm Q h a b pc' ls (.int v :: st)) : N G K rm Q h a b pc ls (st) := by
  subst hp; exact N.step (fun T A t ht => XS.iload A C.hx rfl (hb C.by hd) hl ht) k
theorem N.iloadN (C : Cx G K own nm bytes maxL ret W) {k : Fin 4} {v : Int32} (hd : decode bytes pc = .ok (.iload_n k, 1)) (hl : ls[k.val]? = some (.val (.int v))) (hp : pc + 1 = pc') (k : N G K rm Q h a b pc' ls (.int v :: st)) : N G K rm Q h a b pc ls (st) := by
  subst hp; exact N.step (fun T A t ht => XS.iloadN A C.hx rfl (hb C.by hd) hl ht) k
theorem N.istore (C : Cx G K own nm bytes maxL ret W) {k : Nat} {v : Int32} (hd : decode bytes pc = .ok (.istore k, 2)) (hl : storeLocals ls k (.int v) = some ls') (hp : pc + 2 = pc') (k : N G K rm Q h a b pc' ls' (st)) : N G K rm Q h a b pc ls (.int v :: st) := by
  subst hp; exact N.step (fun T A t ht => XS.istore A C.hx rfl (hb C.by hd) rfl hl ht) k
theorem N.istoreN (C : Cx G K own nm bytes maxL ret W) {k : Fin 4} {v : Int32} (hd : decode bytes pc = .ok (.istore_n k, 1)) (hl : storeLocals ls k.val (.int v) = some ls') (hp : pc + 1 = pc') (k : N G K rm Q h a b pc' ls' (st)) : N G K rm Q h a b pc ls (.int v :: st) := by
  subst hp; exact N.step (fun T A t ht => XS.istoreN A C.hx rfl (hb C.by hd) rfl hl ht) k
theorem N.iadd (C : Cx G K own nm bytes maxL ret W) {x y : Int32} (hd : decode bytes pc = .ok (.iadd, 1)) (hp : pc + 1 = pc') (k : N G K rm Q h a b pc' ls (.int (x + y) :: st)) : N G K rm Q h a b pc ls (.int y :: .int x :: st) := by
  subst hp; exact N.step (fun T A t ht => XS.iadd A C.hx rfl (hb C.by hd) rfl ht) k
theorem N.isub (C : Cx G K own nm bytes maxL ret W) {x y : Int32} (hd : decode bytes pc = .ok (.isub, 1)) (hp : pc + 1 = pc') (k : N G K rm Q h a b pc' ls (.int (x - y) :: st)) : N G K rm Q h a b pc ls (.int y :: .int x :: st) := by
  subst hp; exact N.step (fun T A t ht => XS.isub A C.hx rfl (hb C.by hd) rfl ht) k
theorem N.imul (C : Cx G K own nm bytes maxL ret W) {x y : Int32} (hd : decode bytes pc = .ok (.imul, 1)) (hp : pc + 1 = pc') (k : N G K rm Q h a b pc' ls (.int (x * y) :: st)) : N G K rm Q h a b pc ls (.int y :: .int x :: st) := by
  subst hp; exact N.step (fun T A t ht => XS.imul A C.hx rfl (hb C.by hd) rfl ht) k
theorem N.iand (C : Cx G K own nm bytes maxL ret W) {x y : Int32} (hd : decode bytes pc = .ok (.iand, 1)) (hp : pc + 1 = pc') (k : N G K rm Q h a b pc' ls (.int (x &&& y) :: st)) : N G K rm Q h a b pc ls (.int y :: .int x :: st) := by
  subst hp; exact N.step (fun T A t ht => XS.iand A C.hx rfl (hb C.by hd) rfl ht) k
theorem N.ior (C : Cx G K own nm bytes maxL ret W) {x y : Int32} (hd : decode bytes pc = .ok (.ior, 1)) (hp : pc + 1 = pc') (k : N G K rm Q h a b pc' ls (.int (x ||| y) :: st)) : N G K rm Q h a b pc ls (.int y :: .int x :: st) := by
  subst hp; exact N.step (fun T A t ht => XS.ior A C.hx rfl (hb C.by hd) rfl ht) k
theorem N.ixor (C : Cx G K own nm bytes maxL ret W) {x y : Int32} (hd : decode bytes pc = .ok (.ixor, 1)) (hp : pc + 1 = pc') (k : N G K rm Q h a b pc' ls (.int (x ^^^ y) :: st)) : N G K rm Q h a b pc ls (.int y :: .int x :: st) := by
  subst hp; exact N.step (fun T A t ht => XS.ixor A C.hx rfl (hb C.by hd) rfl ht) k
theorem N.idiv (C : Cx G K own nm bytes maxL ret W) {x y : Int32} (hd : decode bytes pc = .ok (.idiv, 1)) (hy : y ≠ 0) (hp : pc + 1 = pc') (k : N G K rm Q h a b pc' ls (.int (x / y) :: st)) : N G K rm Q h a b pc ls (.int y :: .int x :: st) := by
  subst hp; exact N.step (fun T A t ht => XS.idiv A C.hx rfl (hb C.by hd) rfl hy ht) k
theorem N.ineg (C : Cx G K own nm bytes maxL ret W) {x : Int32} (hd : decode bytes pc = .ok (.ineg, 1)) (hp : pc + 1 = pc') (k : N G K rm Q h a b pc' ls (.int (-x) :: st)) : N G K rm Q h a b pc ls (.int x :: st) := by
  subst hp; exact N.step (fun T A t ht => XS.ineg A C.hx rfl (hb C.by hd) rfl ht) k
theorem N.lload (C : Cx G K own nm bytes maxL ret W) {k : Nat} {v : Int64} (hd : decode bytes pc = .ok (.lload k, 2)) (hl : ls[k]? = some (.val (.long v))) (hp : pc + 2 = pc') (k : N G K rm Q h a b pc' ls (.long v :: st)) : N G K rm Q h a b pc ls (st) := by
  subst hp; exact N.step (fun T A t ht => XS.lload A C.hx rfl (hb C.by hd) hl ht) k
theorem N.lloadN (C : Cx G K own nm bytes maxL ret W) {k : Fin 4} {v : Int64} (hd : decode bytes pc = .ok (.lload_n k, 1)) (hl : ls[k.val]? = some (.val (.long v))) (hp : pc + 1 = pc') (k : N G K rm Q h a b pc' ls (.long v :: st)) : N G K rm Q h a b pc ls (st) := by
  subst hp; exact N.step (fun T A t ht => XS.lloadN A C.hx rfl (hb C.by hd) hl ht) k
theorem N.lstore (C : Cx G K own nm bytes maxL ret W) {k : Nat} {v : Int64} (hd : decode bytes pc = .ok (.lstore k, 2)) (hl : storeLocals ls k (.long v) = some ls') (hp : pc + 2 = pc') (k : N G K rm Q h a b pc' ls' (st)) : N G K rm Q h a b pc ls (.long v :: st) := by
  subst hp; exact N.step (fun T A t ht => XS.lstore A C.hx rfl (hb C.by hd) rfl hl ht) k
theorem N.lstoreN (C : Cx G K own nm bytes maxL ret W) {k : Fin 4} {v : Int64} (hd : decode bytes pc = .ok (.lstore_n k, 1)) (hl : storeLocals ls k.val (.long v) = some ls') (hp : pc + 1 = pc') (k : N G K rm Q h a b pc' ls' (st)) : N G K rm Q h a b pc ls (.long v :: st) := by
  subst hp; exact N.step (fun T A t ht => XS.lstoreN A C.hx rfl (hb C.by hd) rfl hl ht) k
theorem N.ladd (C : Cx G K own nm bytes maxL ret W) {x y : Int64} (hd : decode bytes pc = .ok (.ladd, 1)) (hp : pc + 1 = pc') (k : N G K rm Q h a b pc' ls (.long (x + y) :: st)) : N G K rm Q h a b pc ls (.long y :: .long x :: st) := by
  subst hp; exact N.step (fun T A t ht => XS.ladd A C.hx rfl (hb C.by hd) rfl ht) k
theorem N.lsub (C : Cx G K own nm bytes maxL ret W) {x y : Int64} (hd : decode bytes pc = .ok (.lsub, 1)) (hp : pc + 1 = pc') (k : N G K rm Q h a b pc' ls (.long (x - y) :: st)) : N G K rm Q h a b pc ls (.long y :: .long x :: st) := by
  subst hp; exact N.step (fun T A t ht => XS.lsub A C.hx rfl (hb C.by hd) rfl ht) k
theorem N.lmul (C : Cx G K own nm bytes maxL ret W) {x y : Int64} (hd : decode bytes pc = .ok (.lmul, 1)) (hp : pc + 1 = pc') (k : N G K rm Q h a b pc' ls (.long (x * y) :: st)) : N G K rm Q h a b pc ls (.long y :: .long x :: st) := by
  subst hp; exact N.step (fun T A t ht => XS.lmul A C.hx rfl (hb C.by hd) rfl ht) k
theorem N.land (C : Cx G K own nm bytes maxL ret W) {x y : Int64} (hd : decode bytes pc = .ok (.land, 1)) (hp : pc + 1 = pc') (k : N G K rm Q h a b pc' ls (.long (x &&& y) :: st)) : N G K rm Q h a b pc ls (.long y :: .long x :: st) := by
  subst hp; exact N.step (fun T A t ht => XS.land A C.hx rfl (hb C.by hd) rfl ht) k
theorem N.lor (C : Cx G K own nm bytes maxL ret W) {x y : Int64} (hd : decode bytes pc = .ok (.lor, 1)) (hp : pc + 1 = pc') (k : N G K rm Q h a b pc' ls (.long (x ||| y) :: st)) : N G K rm Q h a b pc ls (.long y :: .long x :: st) := by
  subst hp; exact N.step (fun T A t ht => XS.lor A C.hx rfl (hb C.by hd) rfl ht) k
theorem N.lxor (C : Cx G K own nm bytes maxL ret W) {x y : Int64} (hd : decode bytes pc = .ok (.lxor, 1)) (hp : pc + 1 = pc') (k : N G K rm Q h a b pc' ls (.long (x ^^^ y) :: st)) : N G K rm Q h a b pc ls (.long y :: .long x :: st) := by
  subst hp; exact N.step (fun T A t ht => XS.lxor A C.hx rfl (hb C.by hd) rfl ht) k
theorem N.ldiv (C : Cx G K own nm bytes maxL ret W) {x y : Int64} (hd : decode bytes pc = .ok (.ldiv, 1)) (hy : y ≠ 0) (hp : pc + 1 = pc') (k : N G K rm Q h a b pc' ls (.long (x / y) :: st)) : N G K rm Q h a b pc ls (.long y :: .long x :: st) := by
  subst hp; exact N.step (fun T A t ht => XS.ldiv A C.hx rfl (hb C.by hd) rfl hy ht) k
theorem N.lneg (C : Cx G K own nm bytes maxL ret W) {x : Int64} (hd : decode bytes pc = .ok (.lneg, 1)) (hp : pc + 1 = pc') (k : N G K rm Q h a b pc' ls (.long (-x) :: st)) : N G K rm Q h a b pc ls (.long x :: st) := by
  subst hp; exact N.step (fun T A t ht => XS.lneg A C.hx rfl (hb C.by hd) rfl ht) k
theorem N.irem (C : Cx G K own nm bytes maxL ret W) {x y : Int32} (hd : decode bytes pc = .ok (.irem, 1)) (hy : y ≠ 0) (hp : pc + 1 = pc') (k : N G K rm Q h a b pc' ls (.int (x % y) :: st)) : N G K rm Q h a b pc ls (.int y :: .int x :: st) := by
  subst hp; exact N.step (fun T A t ht => XS.irem A C.hx rfl (hb C.by hd) rfl hy (by rw [irem_eq_mod]; exact ht)) k
theorem N.lrem (C : Cx G K own nm bytes maxL ret W) {x y : Int64} (hd : decode bytes pc = .ok (.lrem, 1)) (hy : y ≠ 0) (hp : pc + 1 = pc') (k : N G K rm Q h a b pc' ls (.long (x % y) :: st)) : N G K rm Q h a b pc ls (.long y :: .long x :: st) := by
  subst hp; exact N.step (fun T A t ht => XS.lrem A C.hx rfl (hb C.by hd) rfl hy (by rw [lrem_mod]; exact ht)) k
theorem N.aload (C : Cx G K own nm bytes maxL ret W) {k : Nat} {v : Value} (hd : decode bytes pc = .ok (.aload k, 2)) (hl : ls[k]? = some (.val v)) (hv : v.isRef = true) (hp : pc + 2 = pc') (k : N G K rm Q h a b pc' ls (v :: st)) : N G K rm Q h a b pc ls (st) := by
  subst hp; exact N.step (fun T A t ht => XS.aload A C.hx rfl (hb C.by hd) hl hv ht) k
theorem N.aloadN (C : Cx G K own nm bytes maxL ret W) {k : Fin 4} {v : Value} (hd : decode bytes pc = .ok (.aload_n k, 1)) (hl : ls[k.val]? = some (.val v)) (hv : v.isRef = true) (hp : pc + 1 = pc') (k : N G K rm Q h a b pc' ls (v :: st)) : N G K rm Q h a b pc ls (st) := by
  subst hp; exact N.step (fun T A t ht => XS.aloadN A C.hx rfl (hb C.by hd) hl hv ht) k
theorem N.astore (C : Cx G K own nm bytes maxL ret W) {k : Nat} {v : Value} (hd : decode bytes pc = .ok (.astore k, 2)) (hv : v.isRef = true) (hl : storeLocals ls k v = some ls') (hp : pc + 2 = pc') (k : N G K rm Q h a b pc' ls' (st)) : N G K rm Q h a b pc ls (v :: st) := by
  subst hp; exact N.step (fun T A t ht => XS.astore A C.hx rfl (hb C.by hd) rfl hv hl ht) k
theorem N.astoreN (C : Cx G K own nm bytes maxL ret W) {k : Fin 4} {v : Value} (hd : decode bytes pc = .ok (.astore_n k, 1)) (hv : v.isRef = true) (hl : storeLocals ls k.val v = some ls') (hp : pc + 1 = pc') (k : N G K rm Q h a b pc' ls' (st)) : N G K rm Q h a b pc ls (v :: st) := by
  subst hp; exact N.step (fun T A t ht => XS.astoreN A C.hx rfl (hb C.by hd) rfl hv hl ht) k
theorem N.iconst (C : Cx G K own nm bytes maxL ret W) {i : Int} {z : Int32} (hd : decode bytes pc = .ok (.iconst i, 1)) (hz : Int32.ofInt i = z) (hp : pc + 1 = pc') (k : N G K rm Q h a b pc' ls (.int z :: st)) : N G K rm Q h a b pc ls st := by
  subst hp hz; exact N.step (fun T A t ht => XS.iconst A C.hx rfl (hb C.by hd) ht) k
theorem N.bipush (C : Cx G K own nm bytes maxL ret W) {i : Int} {z : Int32} (hd : decode bytes pc = .ok (.bipush i, 2)) (hz : (Int8.ofInt i).toInt32 = z) (hp : pc + 2 = pc') (k : N G K rm Q h a b pc' ls (.int z :: st)) : N G K rm Q h a b pc ls st := by
  subst hp hz; exact N.step (fun T A t ht => XS.bipush A C.hx rfl (hb C.by hd) ht) k
theorem N.sipush (C : Cx G K own nm bytes maxL ret W) {i : Int} {z : Int32} (hd : decode bytes pc = .ok (.sipush i, 3)) (hz : (Int16.ofInt i).toInt32 = z) (hp : pc + 3 = pc') (k : N G K rm Q h a b pc' ls (.int z :: st)) : N G K rm Q h a b pc ls st := by
  subst hp hz; exact N.step (fun T A t ht => XS.sipush A C.hx rfl (hb C.by hd) ht) k
theorem N.lconst (C : Cx G K own nm bytes maxL ret W) {k : Fin 2} {z : Int64} (hd : decode bytes pc = .ok (.lconst k, 1)) (hz : Int64.ofNat k = z) (hp : pc + 1 = pc') (k : N G K rm Q h a b pc' ls (.long z :: st)) : N G K rm Q h a b pc ls st := by
  subst hp hz; exact N.step (fun T A t ht => XS.lconst A C.hx rfl (hb C.by hd) ht) k
theorem N.aconst_null (C : Cx G K own nm bytes maxL ret W)  (hd : decode bytes pc = .ok (.aconst_null, 1)) (hp : pc + 1 = pc') (k : N G K rm Q h a b pc' ls (.null :: st)) : N G K rm Q h a b pc ls (st) := by
  subst hp; exact N.step (fun T A t ht => XS.aconstNull A C.hx rfl (hb C.by hd)  ht) k
theorem N.dup (C : Cx G K own nm bytes maxL ret W) {v : Value} (hd : decode bytes pc = .ok (.dup, 1)) (hc : v.category = 1) (hp : pc + 1 = pc') (k : N G K rm Q h a b pc' ls (v :: v :: st)) : N G K rm Q h a b pc ls (v :: st) := by
  subst hp; exact N.step (fun T A t ht => XS.dup A C.hx rfl (hb C.by hd) rfl hc ht) k
theorem N.pop (C : Cx G K own nm bytes maxL ret W) {v : Value} (hd : decode bytes pc = .ok (.pop, 1)) (hc : v.category = 1) (hp : pc + 1 = pc') (k : N G K rm Q h a b pc' ls (st)) : N G K rm Q h a b pc ls (v :: st) := by
  subst hp; exact N.step (fun T A t ht => XS.pop A C.hx rfl (hb C.by hd) rfl hc ht) k
theorem N.dup_x1 (C : Cx G K own nm bytes maxL ret W) {v w : Value} (hd : decode bytes pc = .ok (.dup_x1, 1)) (hc : v.category = 1) (hc' : w.category = 1) (hp : pc + 1 = pc') (k : N G K rm Q h a b pc' ls (v :: w :: v :: st)) : N G K rm Q h a b pc ls (v :: w :: st) := by
  subst hp; exact N.step (fun T A t ht => XS.dupX1 A C.hx rfl (hb C.by hd) rfl hc hc' ht) k
theorem N.dup2 (C : Cx G K own nm bytes maxL ret W) {v w : Value} (hd : decode bytes pc = .ok (.dup2, 1)) (hc : v.category = 1) (hc' : w.category = 1) (hp : pc + 1 = pc') (k : N G K rm Q h a b pc' ls (v :: w :: v :: w :: st)) : N G K rm Q h a b pc ls (v :: w :: st) := by
  subst hp; exact N.step (fun T A t ht => XT.dup2 A C.hx rfl (hb C.by hd) rfl hc hc' ht) k
theorem N.dup2L (C : Cx G K own nm bytes maxL ret W) {x : Int64} (hd : decode bytes pc = .ok (.dup2, 1)) (hp : pc + 1 = pc') (k : N G K rm Q h a b pc' ls (.long x :: .long x :: st)) : N G K rm Q h a b pc ls (.long x :: st) := by
  subst hp; exact N.step (fun T A t ht => XT.dup2L A C.hx rfl (hb C.by hd) rfl ht) k
theorem N.i2l (C : Cx G K own nm bytes maxL ret W) {x : Int32} (hd : decode bytes pc = .ok (.i2l, 1)) (hp : pc + 1 = pc') (k : N G K rm Q h a b pc' ls (.long (x.toInt64) :: st)) : N G K rm Q h a b pc ls (.int x :: st) := by
  subst hp; exact N.step (fun T A t ht => XS.i2l A C.hx rfl (hb C.by hd) rfl ht) k
theorem N.l2i (C : Cx G K own nm bytes maxL ret W) {x : Int64} (hd : decode bytes pc = .ok (.l2i, 1)) (hp : pc + 1 = pc') (k : N G K rm Q h a b pc' ls (.int (x.toInt32) :: st)) : N G K rm Q h a b pc ls (.long x :: st) := by
  subst hp; exact N.step (fun T A t ht => XS.l2i A C.hx rfl (hb C.by hd) rfl ht) k
theorem N.i2b (C : Cx G K own nm bytes maxL ret W) {x : Int32} (hd : decode bytes pc = .ok (.i2b, 1)) (hp : pc + 1 = pc') (k : N G K rm Q h a b pc' ls (.int (x.toInt8.toInt32) :: st)) : N G K rm Q h a b pc ls (.int x :: st) := by
  subst hp; exact N.step (fun T A t ht => XS.i2b A C.hx rfl (hb C.by hd) rfl ht) k
theorem N.i2s (C : Cx G K own nm bytes maxL ret W) {x : Int32} (hd : decode bytes pc = .ok (.i2s, 1)) (hp : pc + 1 = pc') (k : N G K rm Q h a b pc' ls (.int (x.toInt16.toInt32) :: st)) : N G K rm Q h a b pc ls (.int x :: st) := by
  subst hp; exact N.step (fun T A t ht => XS.i2s A C.hx rfl (hb C.by hd) rfl ht) k
theorem N.i2c (C : Cx G K own nm bytes maxL ret W) {x : Int32} (hd : decode bytes pc = .ok (.i2c, 1)) (hp : pc + 1 = pc') (k : N G K rm Q h a b pc' ls (.int (x.toUInt32.toUInt16.toUInt32.toInt32) :: st)) : N G K rm Q h a b pc ls (.int x :: st) := by
  subst hp; exact N.step (fun T A t ht => XS.i2c A C.hx rfl (hb C.by hd) rfl ht) k
theorem N.ishl (C : Cx G K own nm bytes maxL ret W) {x y : Int32} (hd : decode bytes pc = .ok (.ishl, 1)) (hp : pc + 1 = pc') (k : N G K rm Q h a b pc' ls (.int (x <<< (y &&& 31)) :: st)) : N G K rm Q h a b pc ls (.int y :: .int x :: st) := by
  subst hp; exact N.step (fun T A t ht => XS.ishl A C.hx rfl (hb C.by hd) rfl ht) k
theorem N.ishr (C : Cx G K own nm bytes maxL ret W) {x y : Int32} (hd : decode bytes pc = .ok (.ishr, 1)) (hp : pc + 1 = pc') (k : N G K rm Q h a b pc' ls (.int (x >>> (y &&& 31)) :: st)) : N G K rm Q h a b pc ls (.int y :: .int x :: st) := by
  subst hp; exact N.step (fun T A t ht => XS.ishr A C.hx rfl (hb C.by hd) rfl ht) k
theorem N.iushr (C : Cx G K own nm bytes maxL ret W) {x y : Int32} (hd : decode bytes pc = .ok (.iushr, 1)) (hp : pc + 1 = pc') (k : N G K rm Q h a b pc' ls (.int ((x.toUInt32 >>> (y &&& 31).toUInt32).toInt32) :: st)) : N G K rm Q h a b pc ls (.int y :: .int x :: st) := by
  subst hp; exact N.step (fun T A t ht => XS.iushr A C.hx rfl (hb C.by hd) rfl ht) k
theorem N.lshl (C : Cx G K own nm bytes maxL ret W) {x : Int64} {y : Int32} (hd : decode bytes pc = .ok (.lshl, 1)) (hp : pc + 1 = pc') (k : N G K rm Q h a b pc' ls (.long (x <<< (y &&& 0x3f).toInt64) :: st)) : N G K rm Q h a b pc ls (.int y :: .long x :: st) := by
  subst hp; exact N.step (fun T A t ht => XS.lshl A C.hx rfl (hb C.by hd) rfl ht) k
theorem N.lshr (C : Cx G K own nm bytes maxL ret W) {x : Int64} {y : Int32} (hd : decode bytes pc = .ok (.lshr, 1)) (hp : pc + 1 = pc') (k : N G K rm Q h a b pc' ls (.long (x >>> (y &&& 0x3f).toInt64) :: st)) : N G K rm Q h a b pc ls (.int y :: .long x :: st) := by
  subst hp; exact N.step (fun T A t ht => XS.lshr A C.hx rfl (hb C.by hd) rfl ht) k
theorem N.lushr (C : Cx G K own nm bytes maxL ret W) {x : Int64} {y : Int32} (hd : decode bytes pc = .ok (.lushr, 1)) (hp : pc + 1 = pc') (k : N G K rm Q h a b pc' ls (.long ((x.toUInt64 >>> (y &&& 0x3f).toInt64.toUInt64).toInt64) :: st)) : N G K rm Q h a b pc ls (.int y :: .long x :: st) := by
  subst hp; exact N.step (fun T A t ht => XS.lushr A C.hx rfl (hb C.by hd) rfl ht) k
theorem N.dload (C : Cx G K own nm bytes maxL ret W) {k : Nat} {v : UInt64} (hd : decode bytes pc = .ok (.dload k, 2)) (hl : ls[k]? = some (.val (.double v))) (hp : pc + 2 = pc') (k : N G K rm Q h a b pc' ls (.double v :: st)) : N G K rm Q h a b pc ls (st) := by
  subst hp; exact N.step (fun T A t ht => XS.dload A C.hx rfl (hb C.by hd) hl ht) k
theorem N.dloadN (C : Cx G K own nm bytes maxL ret W) {k : Fin 4} {v : UInt64} (hd : decode bytes pc = .ok (.dload_n k, 1)) (hl : ls[k.val]? = some (.val (.double v))) (hp : pc + 1 = pc') (k : N G K rm Q h a b pc' ls (.double v :: st)) : N G K rm Q h a b pc ls (st) := by
  subst hp; exact N.step (fun T A t ht => XS.dloadN A C.hx rfl (hb C.by hd) hl ht) k
theorem N.dstore (C : Cx G K own nm bytes maxL ret W) {k : Nat} {v : UInt64} (hd : decode bytes pc = .ok (.dstore k, 2)) (hl : storeLocals ls k (.double v) = some ls') (hp : pc + 2 = pc') (k : N G K rm Q h a b pc' ls' (st)) : N G K rm Q h a b pc ls (.double v :: st) := by
  subst hp; exact N.step (fun T A t ht => XS.dstore A C.hx rfl (hb C.by hd) rfl hl ht) k
theorem N.dstoreN (C : Cx G K own nm bytes maxL ret W) {k : Fin 4} {v : UInt64} (hd : decode bytes pc = .ok (.dstore_n k, 1)) (hl : storeLocals ls k.val (.double v) = some ls') (hp : pc + 1 = pc') (k : N G K rm Q h a b pc' ls' (st)) : N G K rm Q h a b pc ls (.double v :: st) := by
  subst hp; exact N.step (fun T A t ht => XS.dstoreN A C.hx rfl (hb C.by hd) rfl hl ht) k
theorem N.i2d (C : Cx G K own nm bytes maxL ret W) {x : Int32} (hd : decode bytes pc = .ok (.i2d, 1)) (hp : pc + 1 = pc') (k : N G K rm Q h a b pc' ls (.double (FP.i2d x) :: st)) : N G K rm Q h a b pc ls (.int x :: st) := by
  subst hp; exact N.step (fun T A t ht => XS.i2dS A C.hx rfl (hb C.by hd) rfl rfl ht) k
theorem N.dcmp (C : Cx G K own nm bytes maxL ret W) {o : CmpOp} {x y : UInt64} (hd : decode bytes pc = .ok (.dcmp o, 1)) (hp : pc + 1 = pc') (k : N G K rm Q h a b pc' ls (.int (cmpValue (FP.dcmp x y) o) :: st)) : N G K rm Q h a b pc ls (.double y :: .double x :: st) := by
  subst hp; exact N.step (fun T A t ht => XS.dcmpS A C.hx rfl (hb C.by hd) rfl rfl ht) k
theorem N.dup2_x1L (C : Cx G K own nm bytes maxL ret W) {x : Int64} {y : Addr} (hd : decode bytes pc = .ok (.dup2_x1, 1)) (hp : pc + 1 = pc') (k : N G K rm Q h a b pc' ls (.long x :: .ref y :: .long x :: st)) : N G K rm Q h a b pc ls (.long x :: .ref y :: st) := by
  subst hp
  refine N.step (fun T A t ht => ?_) k
  have hx := C.hx
  have hd' := hb C.by hd
  jvm_step A [A.top, hx, hd', Value.category]
  exact ht
theorem N.lcmp (C : Cx G K own nm bytes maxL ret W) {x y : Int64} (hd : decode bytes pc = .ok (.lcmp, 1)) (hp : pc + 1 = pc') (k : N G K rm Q h a b pc' ls (.int (lcmpW x y) :: st)) : N G K rm Q h a b pc ls (.long y :: .long x :: st) := by
  subst hp; exact N.step (fun T A t ht => XS.lcmp A C.hx rfl (hb C.by hd) rfl ht) k
theorem N.iinc (C : Cx G K own nm bytes maxL ret W) {k : Nat} {cst : Int} {x z : Int32} (hd : decode bytes pc = .ok (.iinc k cst, 3)) (hl : ls[k]? = some (.val (.int x))) (hz : Int32.ofInt cst = z) (hl' : storeLocals ls k (.int (x + z)) = some ls') (hp : pc + 3 = pc') (k : N G K rm Q h a b pc' ls' st) : N G K rm Q h a b pc ls st := by
  subst hp hz; exact N.step (fun T A t ht => XS.iinc A C.hx rfl (hb C.by hd) hl hl' ht) k
theorem N.goto (C : Cx G K own nm bytes maxL ret W) {o : Int} (hd : decode bytes pc = .ok (.goto o, 3)) (hp : (pc : Int) + o = (pc' : Nat)) (k : N G K rm Q h a b pc' ls st) : N G K rm Q h a b pc ls st :=
  N.step (fun T A t ht => XS.goto A C.hx rfl (pc0 := pc) rfl (hb C.by hd) (by omega) (by omega) ht) k
theorem N.icmp (C : Cx G K own nm bytes maxL ret W) {cd : ClassFile.Cond} {o : Int} {x y : Int32} {pt pf : Nat} (hd : decode bytes pc = .ok (.if_icmp cd o, 3)) (ht : (pc : Int) + o = (pt : Nat)) (hf : pc + 3 = pf) (kt : cmpP cd x y → N G K rm Q h a b pt ls st) (kf : cmpN cd x y → N G K rm Q h a b pf ls st) : N G K rm Q h a b pc ls (.int y :: .int x :: st) := by
  subst hf
  rcases cmp_or cd x y with ⟨h1, h2⟩ | ⟨h1, h2⟩
  · exact N.step (fun T A t k => XS.icmpYes A C.hx rfl (pc0 := pc) rfl (hb C.by hd) rfl h1 (by omega) (by omega) k) (kt h2)
  · exact N.step (fun T A t k => XS.icmpNo A C.hx rfl (hb C.by hd) rfl h1 k) (kf h2)
theorem N.ifc (C : Cx G K own nm bytes maxL ret W) {cd : ClassFile.Cond} {o : Int} {x : Int32} {pt pf : Nat} (hd : decode bytes pc = .ok (.ifCond cd o, 3)) (ht : (pc : Int) + o = (pt : Nat)) (hf : pc + 3 = pf) (kt : cmpP cd x 0 → N G K rm Q h a b pt ls st) (kf : cmpN cd x 0 → N G K rm Q h a b pf ls st) : N G K rm Q h a b pc ls (.int x :: st) := by
  subst hf
  rcases cmp_or cd x 0 with ⟨h1, h2⟩ | ⟨h1, h2⟩
  · exact N.step (fun T A t k => XS.ifYes A C.hx rfl (pc0 := pc) rfl (hb C.by hd) rfl ((if0 _ _).trans h1) (by omega) (by omega) k) (kt h2)
  · exact N.step (fun T A t k => XS.ifNo A C.hx rfl (hb C.by hd) rfl ((if0 _ _).trans h1) k) (kf h2)
/-- behind lcmp -/
theorem N.lif (C : Cx G K own nm bytes maxL ret W) {cd : ClassFile.Cond} {o : Int} {x y : Int64} {pt pf : Nat} (hd : decode bytes pc = .ok (.ifCond cd o, 3)) (ht : (pc : Int) + o = (pt : Nat)) (hf : pc + 3 = pf) (kt : cmpPL cd x y → N G K rm Q h a b pt ls st) (kf : cmpNL cd x y → N G K rm Q h a b pf ls st) : N G K rm Q h a b pc ls (.int (lcmpW x y) :: st) := by
  subst hf
  rcases cmp_orL cd x y with ⟨h1, h2⟩ | ⟨h1, h2⟩
  · exact N.step (fun T A t k => XS.ifYes A C.hx rfl (pc0 := pc) rfl (hb C.by hd) rfl h1 (by omega) (by omega) k) (kt h2)
  · exact N.step (fun T A t k => XS.ifNo A C.hx rfl (hb C.by hd) rfl h1 k) (kf h2)
theorem N.ifnull0 (C : Cx G K own nm bytes maxL ret W) {o : Int} (hd : decode bytes pc = .ok (.ifnull o, 3)) (ht : (pc : Int) + o = (pc' : Nat)) (k : N G K rm Q h a b pc' ls st) : N G K rm Q h a b pc ls (.null :: st) :=
  N.step (fun T A t k => XS.ifnullYes A C.hx rfl (pc0 := pc) rfl (hb C.by hd) rfl (by omega) (by omega) k) k
theorem N.ifnull1 (C : Cx G K own nm bytes maxL ret W) {o : Int} {x : Addr} (hd : decode bytes pc = .ok (.ifnull o, 3)) (hp : pc + 3 = pc') (k : N G K rm Q h a b pc' ls st) : N G K rm Q h a b pc ls (.ref x :: st) := by
  subst hp; exact N.step (fun T A t k => XS.ifnullNo A C.hx rfl (hb C.by hd) rfl k) k
theorem N.ifnonnull1 (C : Cx G K own nm bytes maxL ret W) {o : Int} {x : Addr} (hd : decode bytes pc = .ok (.ifnonnull o, 3)) (ht : (pc : Int) + o = (pc' : Nat)) (k : N G K rm Q h a b pc' ls st) : N G K rm Q h a b pc ls (.ref x :: st) :=
  N.step (fun T A t k => XS.ifnonnullYes A C.hx rfl (pc0 := pc) rfl (hb C.by hd) rfl (by omega) (by omega) k) k
theorem N.ifnonnull0 (C : Cx G K own nm bytes maxL ret W) {o : Int} (hd : decode bytes pc = .ok (.ifnonnull o, 3)) (hp : pc + 3 = pc') (k : N G K rm Q h a b pc' ls st) : N G K rm Q h a b pc ls (.null :: st) := by
  subst hp; exact N.step (fun T A t k => XS.ifnonnullNo A C.hx rfl (hb C.by hd) rfl k) k
theorem N.acmp (C : Cx G K own nm bytes maxL ret W) {cd : ACond} {o : Int} {v w : Value} (same : Bool) (hd : decode bytes pc = .ok (.if_acmp cd o, 3)) (h1 : v.isRef = true) (h2 : w.isRef = true) (hq : decide (v = w) = same) (ho : 0 ≤ (pc : Int) + o) (hp : pc' = if acV cd same = true then ((pc : Int) + o).toNat else pc + 3) (k : N G K rm Q h a b pc' ls st) : N G K rm Q h a b pc ls (w :: v :: st) :=
  N.stX (fun T locs X e t ht => Jvm.RoadKit.acmp (g := mkF K.m pc ls (w :: v :: st)) X C.hx rfl h1 h2 rfl (hb C.by hd) rfl hq ho hp ht) k
theorem N.ldcI (C : Cx G K own nm bytes maxL ret W) {i : Nat} {v : Int32} (hd : decode bytes pc = .ok (.ldc i, 2)) (w : (Jvm.Cond.constant own i v).before G.a0 G.Z = true) (hp : pc + 2 = pc') (k : N G K rm Q h a b pc' ls (.int v :: st)) : N G K rm Q h a b pc ls st := by
  subst hp; exact N.stX (fun T locs X e t ht => X.ldcInt C.hx C.ow (mvT C.hZ w) (g := mkF K.m pc ls st) rfl (hb C.by hd) t ht) k
theorem N.ldcwI (C : Cx G K own nm bytes maxL ret W) {i : Nat} {v : Int32} (hd : decode bytes pc = .ok (.ldc_w i, 3)) (w : (Jvm.Cond.constant own i v).before G.a0 G.Z = true) (hp : pc + 3 = pc') (k : N G K rm Q h a b pc' ls (.int v :: st)) : N G K rm Q h a b pc ls st := by
  subst hp; exact N.stX (fun T locs X e t ht => X.ldcwInt C.hx C.ow (mvT C.hZ w) (g := mkF K.m pc ls st) rfl (hb C.by hd) t ht) k
theorem N.ldcL (C : Cx G K own nm bytes maxL ret W) {i : Nat} {v : Int64} (hd : decode bytes pc = .ok (.ldc2_w i, 3)) (w : (Jvm.Cond.constantLong own i v).before G.a0 G.Z = true) (hp : pc + 3 = pc') (k : N G K rm Q h a b pc' ls (.long v :: st)) : N G K rm Q h a b pc ls st := by
  subst hp; exact N.stX (fun T locs X e t ht => X.ldc2Long C.hx C.ow (mvT C.hZ w) (g := mkF K.m pc ls st) rfl (hb C.by hd) t ht) k
theorem N.getF (C : Cx G K own nm bytes maxL ret W) {O n d : String} {i : Nat} {x : Addr} {v : Value} (hd : decode bytes pc = .ok (.getfield i, 3)) (w : (Jvm.Cond.fieldLink own i O n d).before G.a0 G.Z = true) (F : Fld G.Z h x O n d v) (hp : pc + 3 = pc') (k : N G K rm Q h a b pc' ls (v :: st)) : N G K rm Q h a b pc ls (.ref x :: st) := fun T locs X e N0 => by
  subst hp
  obtain ⟨T', X', e', s'⟩ := Jvm.RoadKit.getF X C.hx C.hZ C.ow (host := "") (Or.inl w) Via.refl e F (g := mkF K.m pc ls (.ref x :: st)) rfl rfl (hb C.by hd)
  obtain ⟨s₂, o, hs, r⟩ := k T' locs X' e' N0
  exact ⟨s₂, o, s' _ hs, r⟩
theorem N.getFN (C : Cx G K own nm bytes maxL ret W) {O n d host : String} {i : Nat} {x : Addr} {v : Value} (hd : decode bytes pc = .ok (.getfield i, 3)) (w : (Jvm.Cond.fieldLinkNest own i O n d host).before G.a0 G.Z = true) (F : Fld G.Z h x O n d v) (hp : pc + 3 = pc') (k : N G K rm Q h a b pc' ls (v :: st)) : N G K rm Q h a b pc ls (.ref x :: st) := fun T locs X e N0 => by
  subst hp
  obtain ⟨T', X', e', s'⟩ := Jvm.RoadKit.getF X C.hx C.hZ C.ow (Or.inr w) Via.refl e F (g := mkF K.m pc ls (.ref x :: st)) rfl rfl (hb C.by hd)
  obtain ⟨s₂, o, hs, r⟩ := k T' locs X' e' N0
  exact ⟨s₂, o, s' _ hs, r⟩
theorem N.putF (C : Cx G K own nm bytes maxL ret W) {O n d Cn : String} {i kk : Nat} {ty : FieldType} {x : Addr} {v old : Value} (hd : decode bytes pc = .ok (.putfield i, 3)) (w : (Jvm.Cond.fieldLink own i O n d).before G.a0 G.Z = true) (F : Fld G.Z h x O n d old) (E : Exa G.Z h x Cn)
    (L : (Jvm.Cond.lays Cn O n d).before G.a0 G.Z = true ∨ ((Jvm.Cond.laysFinal Cn O n d).before G.a0 G.Z = true ∧ own = O ∧ nm = "<init>")) (wi : (Jvm.Cond.instantiable Cn kk).before G.a0 G.Z = true) (hty : parseFieldDescriptor d = some ty) (hn : narrow ty v = v) (hf : fits ty v = true) (hx : G.n0 ≤ x) (hp : pc + 3 = pc')
    (k : ∀ h', Wr h h' x (Jvm.RoadKit.slotOf G.Z O n d) v → N G K rm Q h' a b pc' ls st) : N G K rm Q h a b pc ls (v :: .ref x :: st) := fun T locs X e N0 => by
  subst hp
  obtain ⟨T', h', X', e', W', s'⟩ := Jvm.RoadKit.putF X C.hx C.hZ C.ow (host := "") (Or.inl w) Via.refl e F E (L.imp id fun q => ⟨q.1, q.2.1, C.name.trans q.2.2⟩) wi hty hn hf (g := mkF K.m pc ls (v :: .ref x :: st)) rfl rfl (hb C.by hd)
  obtain ⟨s₂, o, hs, r⟩ := k h' W' T' _ X' e' (Fr.snoc X' N0 hx)
  exact ⟨s₂, o, s' _ hs, r⟩
theorem N.putFN (C : Cx G K own nm bytes maxL ret W) {O n d Cn : String} {i kk : Nat} {ty : FieldType} {x : Addr} {v v' old : Value} (hd : decode bytes pc = .ok (.putfield i, 3)) (w : (Jvm.Cond.fieldLink own i O n d).before G.a0 G.Z = true) (F : Fld G.Z h x O n d old) (E : Exa G.Z h x Cn)
    (L : (Jvm.Cond.lays Cn O n d).before G.a0 G.Z = true ∨ ((Jvm.Cond.laysFinal Cn O n d).before G.a0 G.Z = true ∧ own = O ∧ nm = "<init>")) (wi : (Jvm.Cond.instantiable Cn kk).before G.a0 G.Z = true) (hty : parseFieldDescriptor d = some ty) (hn : narrow ty v = v') (hf : fits ty v' = true) (hx : G.n0 ≤ x) (hp : pc + 3 = pc')
    (k : ∀ h', Wr h h' x (Jvm.RoadKit.slotOf G.Z O n d) v' → N G K rm Q h' a b pc' ls st) : N G K rm Q h a b pc ls (v :: .ref x :: st) := fun T locs X e N0 => by
  subst hp
  obtain ⟨T', h', X', e', W', s'⟩ := Jvm.RoadKit.putFN X C.hx C.hZ C.ow w Via.refl e F E (L.imp id fun q => ⟨q.1, q.2.1, C.name.trans q.2.2⟩) wi hty hn hf (g := mkF K.m pc ls (v :: .ref x :: st)) rfl rfl (hb C.by hd)
  obtain ⟨s₂, o, hs, r⟩ := k h' W' T' _ X' e' (Fr.snoc X' N0 hx)
  exact ⟨s₂, o, s' _ hs, r⟩
theorem N.getS (C : Cx G K own nm bytes maxL ret W) {O n d : String} {i : Nat} {v : Value} (hd : decode bytes pc = .ok (.getstatic i, 3)) (w : (Jvm.Cond.fieldLink own i O n d).before G.a0 G.Z = true) (F : Sta G.Z h O n d v) (hp : pc + 3 = pc') (k : N G K rm Q h a b pc' ls (v :: st)) : N G K rm Q h a b pc ls st := fun T locs X e N0 => by
  subst hp
  obtain ⟨T', X', e', s'⟩ := Jvm.RoadKit.getS X C.hx C.hZ (host := "") C.ow w Via.refl e F (g := mkF K.m pc ls st) rfl (hb C.by hd)
  obtain ⟨s₂, o, hs, r⟩ := k T' locs X' e' N0
  exact ⟨s₂, o, s' _ hs, r⟩
theorem N.newO (C : Cx G K own nm bytes maxL ret W) {Cn : String} {i n : Nat} (hd : decode bytes pc = .ok (.new i, 3)) (w : (Jvm.Cond.classLink own i Cn).before G.a0 G.Z = true) (wi : (Jvm.Cond.instantiable Cn n).before G.a0 G.Z = true) (wz : (Jvm.Cond.initialized Cn).before G.a0 G.Z = true) (hc : a + 1 ≤ rm.cells) (hl : b + n ≤ rm.slots) (hp : pc + 3 = pc')
    (k : ∀ (h' : Heap) (x : Addr), x = h.size → Ext h h' → Exa G.Z h' x Cn → (∀ {O f d : String} {ty : FieldType}, Laid G.Z G.a0 Cn O f d → parseFieldDescriptor d = some ty → Fld G.Z h' x O f d (defaultValue ty)) → N G K rm Q h' (a + 1) (b + n) pc' ls (.ref x :: st)) : N G K rm Q h a b pc ls st := fun T locs X e N0 => by
  subst hp
  obtain ⟨T', h', X', e', E', A', D', -, s'⟩ := Jvm.RoadKit.newO X C.hx C.hZ C.ow w wi wz e (g := mkF K.m pc ls st) rfl (hb C.by hd) hc hl
  obtain ⟨s₂, o, hs, r⟩ := k h' _ rfl E' A' D' T' locs X' e' N0
  exact ⟨s₂, o, s' _ hs, r⟩
theorem N.newP (C : Cx G K own nm bytes maxL ret W) {aty : ArrayType} {n : Int32} (cap : Nat) (hd : decode bytes pc = .ok (.newarray aty, 2)) (w : (Jvm.Cond.arrayClass (newarray.typeOf aty)).before G.a0 G.Z = true) (hn : 0 ≤ n.toInt) (hcap : n.toInt ≤ (cap : Int)) (hb8 : cap * 8 ≤ 536870912) (hc : a + 1 ≤ rm.cells) (hl : b + cap ≤ rm.slots) (hp : pc + 2 = pc')
    (k : ∀ (h' : Heap) (x : Addr), x = h.size → Ext h h' → Av G.Z h' x (newarray.typeOf aty) (List.replicate n.toInt.toNat (defaultValue (newarray.typeOf aty))) → N G K rm Q h' (a + 1) (b + cap) pc' ls (.ref x :: st)) : N G K rm Q h a b pc ls (.int n :: st) := fun T locs X e N0 => by
  subst hp
  have hneg : ¬ n < 0 := fun q => by
    have := Int32.lt_iff_toInt_lt.mp q
    have e0 : (0 : Int32).toInt = 0 := by decide
    omega
  obtain ⟨T', h', cA, X', e', E', A', s'⟩ := Jvm.RoadKit.newP X C.hx C.hZ w e (g := mkF K.m pc ls (.int n :: st)) rfl (hb C.by hd) rfl hneg (cap := cap) (by show n.toInt.toNat ≤ cap; omega) hb8 hc hl
  obtain ⟨s₂, o, hs, r⟩ := k h' _ rfl E' (Av.new A') T' locs X' e' N0
  exact ⟨s₂, o, s' _ hs, r⟩
theorem N.initO (C : Cx G K own nm bytes maxL ret W) {i : Nat} {x : Addr} (hd : decode bytes pc = .ok (.invokespecial i, 3)) (w1 : (Jvm.Cond.methodLink own i Lib.objectInit).before G.a0 G.Z = true) (w2 : (Jvm.Cond.instanceMethod Lib.objectInit).before G.a0 G.Z = true) (w3 : (Jvm.Cond.code Lib.objectInit ⟨#[0xb1]⟩ 1 none).before G.a0 G.Z = true) (hsz : ls.size = maxL) (hf : 1 ≤ rm.frames) (hl : (st.map fun v => v.category).sum + 12 ≤ rm.locals) (hp : pc + 3 = pc')
    (k : N G K rm Q h a b pc' ls st) : N G K rm Q h a b pc ls (.ref x :: st) := fun T locs X e N0 => by
  subst hp
  obtain ⟨T', X', e', s'⟩ := Jvm.RoadKit.initO X C.hx C.hZ C.ow w1 w2 w3 e (g := mkF K.m pc ls (.ref x :: st)) rfl (by rw [C.ml]; exact hsz) rfl (hb C.by hd) hf (W := (st.map fun v => v.category).sum) (by show 2 * 0 + _ ≤ _; omega) hl
  obtain ⟨s₂, o, hs, r⟩ := k T' locs X' e' N0
  exact ⟨s₂, o, s' _ hs, r⟩
theorem N.alen (C : Cx G K own nm bytes maxL ret W) {x : Addr} {ty : FieldType} {vs : List Value} {n : Int32} (hd : decode bytes pc = .ok (.arraylength, 1)) (A : Av G.Z h x ty vs) (hn : n.toInt = (vs.length : Nat)) (hp : pc + 1 = pc') (k : N G K rm Q h a b pc' ls (.int n :: st)) : N G K rm Q h a b pc ls (.ref x :: st) := by
  subst hp
  obtain ⟨c, A, rfl⟩ := A
  have hz : c.slots.size.toInt32 = n := by
    have h1 := n.toInt_lt
    apply Int32.toInt_inj.mp
    rw [hn]
    simp only [Array.length_toList] at hn ⊢
    show (Int32.ofNat c.slots.size).toInt = _
    rw [Int32.toInt_ofNat']
    have e32 : (Int32.size : Int) = 4294967296 := rfl
    exact Int.bmod_eq_of_le (by omega) (by omega)
  exact N.stX (fun T locs X e t ht => X.arraylength C.hx (by rw [e]; exact A.1) (State.isArrayOf_alike C.hZ.alike A.2.1) (g := mkF K.m pc ls (.ref x :: st)) rfl rfl (hb C.by hd) t (by rw [hz]; exact ht)) k

theorem N.iaload (C : Cx G K own nm bytes maxL ret W) {x : Addr} {vs : List Value} {j : Int32} {i : Nat} {v : Value} (hd : decode bytes pc = .ok (.iaload, 1)) (A : Av G.Z h x .int vs) (hj : j.toInt = (i : Nat)) (hv : vs[i]? = some v) (hp : pc + 1 = pc') (k : N G K rm Q h a b pc' ls (v :: st)) : N G K rm Q h a b pc ls (.int j :: .ref x :: st) := by
  subst hp
  obtain ⟨c, A, rfl⟩ := A
  have hi : i < c.slots.size := by have := (List.getElem?_eq_some_iff.mp hv).1; simpa using this
  have hv' : c.slots[j.toNatClampNeg]? = some v := by rw [(ix hj).2, ← Array.getElem?_toList]; exact hv
  exact N.stX (fun T locs X e t ht => X.iaload C.hx (by rw [e]; exact A.1) (State.isArrayOf_alike C.hZ.alike A.2.1) A.2.2 (ixin hj hi) hv' (g := mkF K.m pc ls (.int j :: .ref x :: st)) rfl rfl (hb C.by hd) t ht) k
theorem N.laload (C : Cx G K own nm bytes maxL ret W) {x : Addr} {vs : List Value} {j : Int32} {i : Nat} {v : Value} (hd : decode bytes pc = .ok (.laload, 1)) (A : Av G.Z h x .long vs) (hj : j.toInt = (i : Nat)) (hv : vs[i]? = some v) (hp : pc + 1 = pc') (k : N G K rm Q h a b pc' ls (v :: st)) : N G K rm Q h a b pc ls (.int j :: .ref x :: st) := by
  subst hp
  obtain ⟨c, A, rfl⟩ := A
  have hi : i < c.slots.size := by have := (List.getElem?_eq_some_iff.mp hv).1; simpa using this
  have hv' : c.slots[j.toNatClampNeg]? = some v := by rw [(ix hj).2, ← Array.getElem?_toList]; exact hv
  exact N.stX (fun T locs X e t ht => X.laload C.hx (by rw [e]; exact A.1) (State.isArrayOf_alike C.hZ.alike A.2.1) A.2.2 (ixin hj hi) hv' (g := mkF K.m pc ls (.int j :: .ref x :: st)) rfl rfl (hb C.by hd) t ht) k
theorem N.caload (C : Cx G K own nm bytes maxL ret W) {x : Addr} {vs : List Value} {j : Int32} {i : Nat} {v : Value} (hd : decode bytes pc = .ok (.caload, 1)) (A : Av G.Z h x .char vs) (hj : j.toInt = (i : Nat)) (hv : vs[i]? = some v) (hp : pc + 1 = pc') (k : N G K rm Q h a b pc' ls (v :: st)) : N G K rm Q h a b pc ls (.int j :: .ref x :: st) := by
  subst hp
  obtain ⟨c, A, rfl⟩ := A
  have hi : i < c.slots.size := by have := (List.getElem?_eq_some_iff.mp hv).1; simpa using this
  have hv' : c.slots[j.toNatClampNeg]? = some v := by rw [(ix hj).2, ← Array.getElem?_toList]; exact hv
  exact N.stX (fun T locs X e t ht => X.caload C.hx (by rw [e]; exact A.1) (State.isArrayOf_alike C.hZ.alike A.2.1) A.2.2 (ixin hj hi) hv' (g := mkF K.m pc ls (.int j :: .ref x :: st)) rfl rfl (hb C.by hd) t ht) k
theorem N.baload (C : Cx G K own nm bytes maxL ret W) {x : Addr} {vs : List Value} {j : Int32} {i : Nat} {v : Value} (hd : decode bytes pc = .ok (.baload, 1)) (A : Av G.Z h x .byte vs) (hj : j.toInt = (i : Nat)) (hv : vs[i]? = some v) (hp : pc + 1 = pc') (k : N G K rm Q h a b pc' ls (v :: st)) : N G K rm Q h a b pc ls (.int j :: .ref x :: st) := by
  subst hp
  obtain ⟨c, A, rfl⟩ := A
  have hi : i < c.slots.size := by have := (List.getElem?_eq_some_iff.mp hv).1; simpa using this
  have hv' : c.slots[j.toNatClampNeg]? = some v := by rw [(ix hj).2, ← Array.getElem?_toList]; exact hv
  exact N.stX (fun T locs X e t ht => X.baloadBytes C.hx (by rw [e]; exact A.1) (State.isArrayOf_alike C.hZ.alike A.2.1) A.2.2 (ixin hj hi) hv' (g := mkF K.m pc ls (.int j :: .ref x :: st)) rfl rfl (hb C.by hd) t ht) k
theorem N.zaload (C : Cx G K own nm bytes maxL ret W) {x : Addr} {vs : List Value} {j : Int32} {i : Nat} {v : Value} (hd : decode bytes pc = .ok (.baload, 1)) (A : Av G.Z h x .boolean vs) (hj : j.toInt = (i : Nat)) (hv : vs[i]? = some v) (hp : pc + 1 = pc') (k : N G K rm Q h a b pc' ls (v :: st)) : N G K rm Q h a b pc ls (.int j :: .ref x :: st) := by
  subst hp
  obtain ⟨c, A, rfl⟩ := A
  have hi : i < c.slots.size := by have := (List.getElem?_eq_some_iff.mp hv).1; simpa using this
  have hv' : c.slots[j.toNatClampNeg]? = some v := by rw [(ix hj).2, ← Array.getElem?_toList]; exact hv
  exact N.stX (fun T locs X e t ht => X.baloadBooleans C.hx (by rw [e]; exact A.1) (State.isArrayOf_alike C.hZ.alike A.2.1) A.2.2 (ixin hj hi) hv' (g := mkF K.m pc ls (.int j :: .ref x :: st)) rfl rfl (hb C.by hd) t ht) k
theorem N.daload (C : Cx G K own nm bytes maxL ret W) {x : Addr} {vs : List Value} {j : Int32} {i : Nat} {v : Value} (hd : decode bytes pc = .ok (.daload, 1)) (A : Av G.Z h x .double vs) (hj : j.toInt = (i : Nat)) (hv : vs[i]? = some v) (hp : pc + 1 = pc') (k : N G K rm Q h a b pc' ls (v :: st)) : N G K rm Q h a b pc ls (.int j :: .ref x :: st) := by
  subst hp
  obtain ⟨c, A, rfl⟩ := A
  have hi : i < c.slots.size := by have := (List.getElem?_eq_some_iff.mp hv).1; simpa using this
  have hv' : c.slots[j.toNatClampNeg]? = some v := by rw [(ix hj).2, ← Array.getElem?_toList]; exact hv
  exact N.stX (fun T locs X e t ht => X.daload C.hx (by rw [e]; exact A.1) (State.isArrayOf_alike C.hZ.alike A.2.1) A.2.2 (ixin hj hi) hv' (g := mkF K.m pc ls (.int j :: .ref x :: st)) rfl rfl (hb C.by hd) t ht) k
theorem N.iastore (C : Cx G K own nm bytes maxL ret W) {x : Addr} {vs : List Value} {j : Int32} {i : Nat} {v : Int32} (hd : decode bytes pc = .ok (.iastore, 1)) (A : Av G.Z h x .int vs) (hj : j.toInt = (i : Nat)) (hi : i < vs.length) (hx : G.n0 ≤ x) (hp : pc + 1 = pc') (k : ∀ h', Wr h h' x i (.int v) → Av G.Z h' x .int (vs.set i (.int v)) → N G K rm Q h' a b pc' ls st) : N G K rm Q h a b pc ls (.int v :: .int j :: .ref x :: st) := fun T locs X e N0 => by
  subst hp
  have A0 := A
  obtain ⟨c, A, rfl⟩ := A
  obtain ⟨T', h', X', e', W', s'⟩ := Jvm.RoadKit.stI X C.hx C.hZ e A (j := j) (ixin hj (by simpa using hi)) (g := mkF K.m pc ls (.int v :: .int j :: .ref x :: st)) rfl rfl (hb C.by hd)
  have F' := Fr.snoc X' N0 hx
  rw [(ix hj).2] at W'
  obtain ⟨s₂, o, hs, r⟩ := k h' W' (A0.same W') T' _ X' e' F'
  exact ⟨s₂, o, s' _ hs, r⟩
theorem N.lastore (C : Cx G K own nm bytes maxL ret W) {x : Addr} {vs : List Value} {j : Int32} {i : Nat} {v : Int64} (hd : decode bytes pc = .ok (.lastore, 1)) (A : Av G.Z h x .long vs) (hj : j.toInt = (i : Nat)) (hi : i < vs.length) (hx : G.n0 ≤ x) (hp : pc + 1 = pc') (k : ∀ h', Wr h h' x i (.long v) → Av G.Z h' x .long (vs.set i (.long v)) → N G K rm Q h' a b pc' ls st) : N G K rm Q h a b pc ls (.long v :: .int j :: .ref x :: st) := fun T locs X e N0 => by
  subst hp
  have A0 := A
  obtain ⟨c, A, rfl⟩ := A
  obtain ⟨T', h', X', e', W', s'⟩ := Jvm.RoadKit.stJ X C.hx C.hZ e A (j := j) (ixin hj (by simpa using hi)) (g := mkF K.m pc ls (.long v :: .int j :: .ref x :: st)) rfl rfl (hb C.by hd)
  have F' := Fr.snoc X' N0 hx
  rw [(ix hj).2] at W'
  obtain ⟨s₂, o, hs, r⟩ := k h' W' (A0.same W') T' _ X' e' F'
  exact ⟨s₂, o, s' _ hs, r⟩
theorem N.castore (C : Cx G K own nm bytes maxL ret W) {x : Addr} {vs : List Value} {j : Int32} {i : Nat} {v : Int32} (hd : decode bytes pc = .ok (.castore, 1)) (A : Av G.Z h x .char vs) (hj : j.toInt = (i : Nat)) (hi : i < vs.length) (hx : G.n0 ≤ x) (hp : pc + 1 = pc') (k : ∀ h', Wr h h' x i (.int (nar .char v)) → Av G.Z h' x .char (vs.set i (.int (nar .char v))) → N G K rm Q h' a b pc' ls st) : N G K rm Q h a b pc ls (.int v :: .int j :: .ref x :: st) := fun T locs X e N0 => by
  subst hp
  have A0 := A
  obtain ⟨c, A, rfl⟩ := A
  obtain ⟨T', h', X', e', W', s'⟩ := Jvm.RoadKit.stC X C.hx C.hZ e A (j := j) (ixin hj (by simpa using hi)) (g := mkF K.m pc ls (.int v :: .int j :: .ref x :: st)) rfl rfl (hb C.by hd)
  have F' := Fr.snoc X' N0 hx
  rw [(ix hj).2] at W'
  obtain ⟨s₂, o, hs, r⟩ := k h' W' (A0.same W') T' _ X' e' F'
  exact ⟨s₂, o, s' _ hs, r⟩
theorem N.bastore (C : Cx G K own nm bytes maxL ret W) {x : Addr} {vs : List Value} {j : Int32} {i : Nat} {v : Int32} (hd : decode bytes pc = .ok (.bastore, 1)) (A : Av G.Z h x .byte vs) (hj : j.toInt = (i : Nat)) (hi : i < vs.length) (hx : G.n0 ≤ x) (hp : pc + 1 = pc') (k : ∀ h', Wr h h' x i (.int (nar .byte v)) → Av G.Z h' x .byte (vs.set i (.int (nar .byte v))) → N G K rm Q h' a b pc' ls st) : N G K rm Q h a b pc ls (.int v :: .int j :: .ref x :: st) := fun T locs X e N0 => by
  subst hp
  have A0 := A
  obtain ⟨c, A, rfl⟩ := A
  obtain ⟨T', h', X', e', W', s'⟩ := Jvm.RoadKit.stB X C.hx C.hZ e A (j := j) (ixin hj (by simpa using hi)) (g := mkF K.m pc ls (.int v :: .int j :: .ref x :: st)) rfl rfl (hb C.by hd)
  have F' := Fr.snoc X' N0 hx
  rw [(ix hj).2] at W'
  obtain ⟨s₂, o, hs, r⟩ := k h' W' (A0.same W') T' _ X' e' F'
  exact ⟨s₂, o, s' _ hs, r⟩
theorem N.dastore (C : Cx G K own nm bytes maxL ret W) {x : Addr} {vs : List Value} {j : Int32} {i : Nat} {v : UInt64} (hd : decode bytes pc = .ok (.dastore, 1)) (A : Av G.Z h x .double vs) (hj : j.toInt = (i : Nat)) (hi : i < vs.length) (hx : G.n0 ≤ x) (hp : pc + 1 = pc') (k : ∀ h', Wr h h' x i (.double v) → Av G.Z h' x .double (vs.set i (.double v)) → N G K rm Q h' a b pc' ls st) : N G K rm Q h a b pc ls (.double v :: .int j :: .ref x :: st) := fun T locs X e N0 => by
  subst hp
  have A0 := A
  obtain ⟨c, A, rfl⟩ := A
  obtain ⟨T', h', X', e', W', s'⟩ := Jvm.RoadKit.stD X C.hx C.hZ e A (j := j) (ixin hj (by simpa using hi)) (g := mkF K.m pc ls (.double v :: .int j :: .ref x :: st)) rfl rfl (hb C.by hd)
  have F' := Fr.snoc X' N0 hx
  rw [(ix hj).2] at W'
  obtain ⟨s₂, o, hs, r⟩ := k h' W' (A0.same W') T' _ X' e' F'
  exact ⟨s₂, o, s' _ hs, r⟩
theorem N.zastore (C : Cx G K own nm bytes maxL ret W) {x : Addr} {vs : List Value} {j : Int32} {i : Nat} {v : Int32} (hd : decode bytes pc = .ok (.bastore, 1)) (A : Av G.Z h x .boolean vs) (hj : j.toInt = (i : Nat)) (hi : i < vs.length) (hx : G.n0 ≤ x) (hp : pc + 1 = pc') (k : ∀ h', Wr h h' x i (.int (nar .boolean v)) → Av G.Z h' x .boolean (vs.set i (.int (nar .boolean v))) → N G K rm Q h' a b pc' ls st) : N G K rm Q h a b pc ls (.int v :: .int j :: .ref x :: st) := fun T locs X e N0 => by
  subst hp
  have A0 := A
  obtain ⟨c, A, rfl⟩ := A
  obtain ⟨T', h', X', e', W', s'⟩ := Jvm.RoadKit.stZ X C.hx C.hZ e A (j := j) (ixin hj (by simpa using hi)) (g := mkF K.m pc ls (.int v :: .int j :: .ref x :: st)) rfl rfl (hb C.by hd)
  have F' := Fr.snoc X' N0 hx
  rw [(ix hj).2] at W'
  obtain ⟨s₂, o, hs, r⟩ := k h' W' (A0.same W') T' _ X' e' F'
  exact ⟨s₂, o, s' _ hs, r⟩

/-! returns -/
theorem N.ret0 (C : Cx G K own nm bytes maxL ret W) (hr : ret = none) (hd : decode bytes pc = .ok (.return_, 1)) (ha : a ≤ rm.cells) (hb' : b ≤ rm.slots) (hq : Q none h) : N G K rm Q h a b pc ls [] := fun T locs X e N0 => by
  obtain ⟨fs, hr', hrun, hended, hW, hsame⟩ := X.leave (v := none) (fun _ => rfl) (hlocks := C.lk)
  exact ⟨_, _, X.returnOut C.hx (C.rt.trans hr) (hb C.by hd) hr', hrun, hended, _, _, rfl, ⟨by show Q none T.heap; rw [e]; exact hq, N0⟩, ⟨_, rfl⟩, hW, hsame.mono ha hb'⟩
theorem N.retV (C : Cx G K own nm bytes maxL ret W) {w : Value} {t : FieldType} {i : Instr} (hr : ret = some t) (hn : narrow t w = w)
    (hi : (i = .ireturn ∧ (t = .int ∨ t = .boolean ∨ t = .byte ∨ t = .char ∨ t = .short) ∧ ∃ z, w = .int z) ∨ (i = .lreturn ∧ t = .long ∧ ∃ z, w = .long z) ∨ (i = .dreturn ∧ t = .double ∧ ∃ z, w = .double z) ∨ (i = .freturn ∧ t = .float ∧ ∃ z, w = .float z) ∨ (i = .areturn ∧ t.isReference = true ∧ w.isRef = true))
    (hd : decode bytes pc = .ok (i, 1)) (ha : a ≤ rm.cells) (hb' : b ≤ rm.slots) (hq : Q (some w) h) : N G K rm Q h a b pc ls (w :: st) := fun T locs X e N0 => by
  obtain ⟨fs, hr', hrun, hended, hW, hsame⟩ := X.leave (v := some w) (fun q => by rw [C.rt, hr] at q; cases q) (hlocks := C.lk)
  exact ⟨_, _, retOut X C.hx (C.rt.trans hr) hn hi (hb C.by hd) hr', hrun, hended, _, _, rfl, ⟨by show Q (some w) T.heap; rw [e]; exact hq, N0⟩, ⟨_, rfl⟩, hW, hsame.mono ha hb'⟩
theorem N.retI (C : Cx G K own nm bytes maxL (some .int) W) {z : Int32} (hd : decode bytes pc = .ok (.ireturn, 1)) (ha : a ≤ rm.cells) (hb' : b ≤ rm.slots) (hq : Q (some (.int z)) h) : N G K rm Q h a b pc ls (.int z :: st) :=
  N.retV C rfl rfl (Or.inl ⟨rfl, Or.inl rfl, z, rfl⟩) hd ha hb' hq
theorem N.retL (C : Cx G K own nm bytes maxL (some .long) W) {z : Int64} (hd : decode bytes pc = .ok (.lreturn, 1)) (ha : a ≤ rm.cells) (hb' : b ≤ rm.slots) (hq : Q (some (.long z)) h) : N G K rm Q h a b pc ls (.long z :: st) :=
  N.retV C rfl rfl (Or.inr (Or.inl ⟨rfl, rfl, z, rfl⟩)) hd ha hb' hq
theorem N.retA (C : Cx G K own nm bytes maxL (some t) W) {w : Value} (ht : t.isReference = true) (hw : w.isRef = true) (hd : decode bytes pc = .ok (.areturn, 1)) (ha : a ≤ rm.cells) (hb' : b ≤ rm.slots) (hq : Q (some w) h) : N G K rm Q h a b pc ls (w :: st) :=
  N.retV C rfl (by rcases ref_cases hw with rfl | ⟨z, rfl⟩ <;> cases t <;> first | rfl | (cases ht)) (Or.inr (Or.inr (Or.inr (Or.inr ⟨rfl, ht, hw⟩)))) hd ha hb' hq
theorem N.retN (C : Cx G K own nm bytes maxL (some t) W) {z z' : Int32} (ht : t = .boolean ∨ t = .byte ∨ t = .char ∨ t = .short) (hz : nar t z = z') (hd : decode bytes pc = .ok (.ireturn, 1)) (ha : a ≤ rm.cells) (hb' : b ≤ rm.slots) (hq : Q (some (.int z')) h) : N G K rm Q h a b pc ls (.int z :: st) := fun T locs X e N0 => by
  subst hz
  obtain ⟨fs, hr', hrun, hended, hW, hsame⟩ := X.leave (v := some (.int (nar t z))) (fun q => by rw [C.rt] at q; cases q) (hlocks := C.lk)
  exact ⟨_, _, Jvm.RoadKit.retN X C.hx C.rt ht (hb C.by hd) hr', hrun, hended, _, _, rfl, ⟨by show Q (some (.int (nar t z))) T.heap; rw [e]; exact hq, N0⟩, ⟨_, rfl⟩, hW, hsame.mono ha hb'⟩
/-! calls by the callee's contract -/
section Calls
variable {y : MethodName} {bytes' : ByteArray} {maxL' : Nat} {ret' : Option FieldType} {rm' : Room} {as : Array Value} {R' : Option Value → Heap → Prop} {stk rest : List Value}
theorem N.callS (C : Cx G K own nm bytes maxL ret W) {i : Nat} (argsL : List Value) (hd : decode bytes pc = .ok (.invokestatic i, 3)) (w1 : (Jvm.Cond.methodLink own i y).before G.a0 G.Z = true) (w2 : (Jvm.Cond.static y).before G.a0 G.Z = true) (w3 : (Jvm.Cond.initialized y.cls).before G.a0 G.Z = true) (w4 : (Jvm.Cond.code y bytes' maxL' ret').before G.a0 G.Z = true)
    (hy : y.cls ≠ "java/lang/invoke/MethodHandle" ∧ y.cls ≠ "java/lang/invoke/VarHandle") (M : Con G y bytes' maxL' ret' rm' argsL.toArray h R') (hlen : ∀ sig, parseMethodDescriptor y.desc = some sig → argsL.length = sig.parameters.length) (hsz : ls.size = maxL)
    (hf : rm'.frames + 1 ≤ rm.frames) (hl : (rest.map fun v => v.category).sum + (maxL' + 11) + rm'.locals ≤ rm.locals) (hc : a + rm'.cells ≤ rm.cells) (hs : b + rm'.slots ≤ rm.slots) (hst : stk = argsL.reverse ++ rest) (hp : pc + 3 = pc')
    (k : ∀ v h', R' v h' → N G K rm Q h' (a + rm'.cells) (b + rm'.slots) pc' ls (v.toList ++ rest)) : N G K rm Q h a b pc ls stk := fun T locs X e N0 => by
  subst hp
  obtain ⟨v, _, ⟨T', L', k', n'⟩, -, X', ⟨Lc, ⟨hQ, N1⟩, l', y', z'⟩, s'⟩ := Jvm.LawKit.callS X C.hx (y := y) C.ow (mvT C.hZ w1) (mvT C.hZ w2) (mvT C.hZ w3) (mvT C.hZ w4) hy (backOf (W := (rest.map fun v => v.category).sum) (Q := fun v h L => R' v h ∧ Fr G.n0 L) (M []) C.hZ w4 w3 hf hl) (g := mkF K.m pc ls stk) rfl (by rw [C.ml]; exact hsz) (argsL := argsL) (rest := rest) hlen hst (by show 2 * 0 + _ ≤ _; omega) (hb C.by hd) (fun _ _ => ⟨rfl, e, hc, hs⟩)
  dsimp only [Pt.U, Pt.locs, Pt.cells, Pt.slots] at X' l' y' z' s' hQ
  subst l' y' z'
  obtain ⟨s₂, o, hs', r⟩ := k v T'.heap hQ T' _ X' rfl (N0.app N1)
  exact ⟨s₂, o, s' _ hs', r⟩
theorem N.callI (C : Cx G K own nm bytes maxL ret W) {i : Nat} (x : Addr) (argsL : List Value) (hd : decode bytes pc = .ok (.invokespecial i, 3)) (hy1 : y.name = "<init>") (w1 : (Jvm.Cond.methodLink own i y).before G.a0 G.Z = true) (w2 : (Jvm.Cond.instanceMethod y).before G.a0 G.Z = true) (w3 : (Jvm.Cond.initialized y.cls).before G.a0 G.Z = true) (w4 : (Jvm.Cond.code y bytes' maxL' none).before G.a0 G.Z = true)
    (hy : y.cls ≠ "java/lang/invoke/MethodHandle" ∧ y.cls ≠ "java/lang/invoke/VarHandle") (M : Con G y bytes' maxL' none rm' (.ref x :: argsL).toArray h R') (hlen : ∀ sig, parseMethodDescriptor y.desc = some sig → argsL.length = sig.parameters.length) (hsz : ls.size = maxL)
    (hf : rm'.frames + 1 ≤ rm.frames) (hl : (rest.map fun v => v.category).sum + (maxL' + 11) + rm'.locals ≤ rm.locals) (hc : a + rm'.cells ≤ rm.cells) (hs : b + rm'.slots ≤ rm.slots) (hst : stk = argsL.reverse ++ .ref x :: rest) (hp : pc + 3 = pc')
    (k : ∀ v h', R' v h' → N G K rm Q h' (a + rm'.cells) (b + rm'.slots) pc' ls (v.toList ++ rest)) : N G K rm Q h a b pc ls stk := fun T locs X e N0 => by
  subst hp
  obtain ⟨v, _, ⟨T', L', k', n'⟩, -, X', ⟨Lc, ⟨hQ, N1⟩, l', y', z'⟩, s'⟩ := X.specialBack C.hx (y := y) hy1 C.ow (mvT C.hZ w1) (mvT C.hZ w2) (mvT C.hZ w4) hy (backOf (W := (rest.map fun v => v.category).sum) (Q := fun v h L => R' v h ∧ Fr G.n0 L) (M []) C.hZ w4 w3 hf hl) (g := mkF K.m pc ls stk) rfl (by rw [C.ml]; exact hsz) (Steps.refl _) (a := x) (argsL := argsL) (rest := rest) hlen hst (by show 2 * 0 + _ ≤ _; omega) (hb C.by hd) (fun _ _ => ⟨rfl, e, hc, hs⟩)
  dsimp only [Pt.U, Pt.locs, Pt.cells, Pt.slots] at X' l' y' z' s' hQ
  subst l' y' z'
  obtain ⟨s₂, o, hs', r⟩ := k v T'.heap hQ T' _ X' rfl (N0.app N1)
  exact ⟨s₂, o, s'.trans hs', r⟩
/-- an instance method of a class that selects itself -/
theorem N.callV (C : Cx G K own nm bytes maxL ret W) {i : Nat} (x : Addr) (argsL : List Value) (hd : decode bytes pc = .ok (.invokevirtual i, 3)) (w1 : (Jvm.Cond.methodLink own i y).before G.a0 G.Z = true) (wd : (Jvm.Cond.declares y).before G.a0 G.Z = true) (ws : (Jvm.Cond.selects y.cls y y).before G.a0 G.Z = true) (w2 : (Jvm.Cond.instanceMethod y).before G.a0 G.Z = true) (w3 : (Jvm.Cond.initialized y.cls).before G.a0 G.Z = true) (w4 : (Jvm.Cond.code y bytes' maxL' ret').before G.a0 G.Z = true)
    (hy : y.cls ≠ "java/lang/invoke/MethodHandle" ∧ y.cls ≠ "java/lang/invoke/VarHandle") (E : Exa G.Z h x y.cls) (M : Con G y bytes' maxL' ret' rm' (.ref x :: argsL).toArray h R') (hlen : ∀ sig, parseMethodDescriptor y.desc = some sig → argsL.length = sig.parameters.length) (hsz : ls.size = maxL)
    (hf : rm'.frames + 1 ≤ rm.frames) (hl : (rest.map fun v => v.category).sum + (maxL' + 11) + rm'.locals ≤ rm.locals) (hc : a + rm'.cells ≤ rm.cells) (hs : b + rm'.slots ≤ rm.slots) (hst : stk = argsL.reverse ++ .ref x :: rest) (hp : pc + 3 = pc')
    (k : ∀ v h', R' v h' → N G K rm Q h' (a + rm'.cells) (b + rm'.slots) pc' ls (v.toList ++ rest)) : N G K rm Q h a b pc ls stk := fun T locs X e N0 => by
  subst hp
  obtain ⟨cq, kq, qa, qb, qc⟩ := isOf C.hZ e E
  obtain ⟨v, _, ⟨T', L', k', n'⟩, -, X', ⟨Lc, ⟨hQ, N1⟩, l', y', z'⟩, s'⟩ := X.virtualBack C.hx (y := y) (z := y) C.ow (mvT C.hZ w1) (mvT C.hZ wd) (notFace_of_selects (args := #[]) (mvT C.hZ ws)) (mvT C.hZ ws) (mvT C.hZ w2) hy (backOf (W := (rest.map fun v => v.category).sum) (Q := fun v h L => R' v h ∧ Fr G.n0 L) (M []) C.hZ w4 w3 hf hl) qa qc (g := mkF K.m pc ls stk) rfl (by rw [C.ml]; exact hsz) (Steps.refl _) (argsL := argsL) (rest := rest) hlen hst (by show 2 * 0 + _ ≤ _; omega) (hb C.by hd) (fun _ _ => ⟨rfl, e, hc, hs⟩)
  dsimp only [Pt.U, Pt.locs, Pt.cells, Pt.slots] at X' l' y' z' s' hQ
  subst l' y' z'
  obtain ⟨s₂, o, hs', r⟩ := k v T'.heap hQ T' _ X' rfl (N0.app N1)
  exact ⟨s₂, o, s'.trans hs', r⟩
/-- a private method -/
theorem N.callP (C : Cx G K own nm bytes maxL ret W) {i : Nat} (x : Addr) (argsL : List Value) (hd : decode bytes pc = .ok (.invokevirtual i, 3)) (w1 : (Jvm.Cond.methodLink own i y).before G.a0 G.Z = true) (wp : (Jvm.Cond.privateMethod y).before G.a0 G.Z = true) (ws : (Jvm.Cond.selects y.cls y y).before G.a0 G.Z = true) (w2 : (Jvm.Cond.instanceMethod y).before G.a0 G.Z = true) (w3 : (Jvm.Cond.initialized y.cls).before G.a0 G.Z = true) (w4 : (Jvm.Cond.code y bytes' maxL' ret').before G.a0 G.Z = true)
    (hy : y.cls ≠ "java/lang/invoke/MethodHandle" ∧ y.cls ≠ "java/lang/invoke/VarHandle") (E : Exa G.Z h x y.cls) (M : Con G y bytes' maxL' ret' rm' (.ref x :: argsL).toArray h R') (hlen : ∀ sig, parseMethodDescriptor y.desc = some sig → argsL.length = sig.parameters.length) (hsz : ls.size = maxL)
    (hf : rm'.frames + 1 ≤ rm.frames) (hl : (rest.map fun v => v.category).sum + (maxL' + 11) + rm'.locals ≤ rm.locals) (hc : a + rm'.cells ≤ rm.cells) (hs : b + rm'.slots ≤ rm.slots) (hst : stk = argsL.reverse ++ .ref x :: rest) (hp : pc + 3 = pc')
    (k : ∀ v h', R' v h' → N G K rm Q h' (a + rm'.cells) (b + rm'.slots) pc' ls (v.toList ++ rest)) : N G K rm Q h a b pc ls stk := fun T locs X e N0 => by
  subst hp
  obtain ⟨cq, qa, qb⟩ := E.cell
  obtain ⟨v, _, ⟨T', L', k', n'⟩, -, X', ⟨Lc, ⟨hQ, N1⟩, l', y', z'⟩, s'⟩ := X.privateBack C.hx (y := y) C.ow (mvT C.hZ w1) (mvT C.hZ w2) (mvT C.hZ ws) (Cond.privateMethod_at (mvP C.hZ wp (args := #[]))) (mvT C.hZ w4) hy (backOf (W := (rest.map fun v => v.category).sum) (Q := fun v h L => R' v h ∧ Fr G.n0 L) (M []) C.hZ w4 w3 hf hl) (g := mkF K.m pc ls stk) rfl (by rw [C.ml]; exact hsz) (Steps.refl _) (a := x) (by rw [e]; exact qa) qb (argsL := argsL) (rest := rest) hlen hst (by show 2 * 0 + _ ≤ _; omega) (hb C.by hd) (fun _ _ => ⟨rfl, e, hc, hs⟩)
  dsimp only [Pt.U, Pt.locs, Pt.cells, Pt.slots] at X' l' y' z' s' hQ
  subst l' y' z'
  obtain ⟨s₂, o, hs', r⟩ := k v T'.heap hQ T' _ X' rfl (N0.app N1)
  exact ⟨s₂, o, s'.trans hs', r⟩
/-! a callee with an exception table whose walk throws nothing -/
def ConW (G : Gx) (y : MethodName) (bytes : ByteArray) (maxL : Nat) (ret : Option FieldType) (hs : List (Nat × Nat × Nat × Nat)) (rm : Room) (as : Array Value) (h : Heap) (Q : Option Value → Heap → Prop) : Prop :=
  ∀ ws : List Jvm.Cond, MetFree G.l y (head1 (Jvm.Cond.codeWith y bytes maxL ret hs :: ws) rm) (fun a U => a = as ∧ G.Z.Warmed39 U.vm ∧ U.heap = h) (fun _ _ _ _ _ => True) (fun _ U o U' => ∃ v L, o = .returned v ∧ (Q v U'.heap ∧ Fr G.n0 L) ∧ FrameEnd U o U' L rm.cells rm.slots)
theorem ConW.of {G : Gx} {y : MethodName} {bytes : ByteArray} {maxL : Nat} {ret : Option FieldType} {hs : List (Nat × Nat × Nat × Nat)} {rm : Room} {as : Array Value} {h : Heap} {Q : Option Value → Heap → Prop} {W : List Jvm.Cond} {ls : Array Slot} (hpl : plainFor y = true) (hW : ∀ d ∈ W, d.before G.a0 G.Z = true)
    (he : ∀ m, entryFrame m as maxL = mkF m 0 ls []) (body : ∀ K : Kx, Cx G K y.cls y.name bytes maxL ret W → N G K rm Q h 0 0 0 ls []) : ConW G y bytes maxL ret hs rm as h Q := fun ws => by
  refine MetFree.of_bodySF hpl hisWith ?_
  intro p e s m args below meth c s₁ Bd hml hP hK
  obtain ⟨rfl, hZ, hh⟩ := hP
  have X0 : Stand p G.l e rm s m args below meth c s₁ [] 0 0 := Stand.of_body Bd
  obtain ⟨s₂, o, h1, h2, h3, h4⟩ := body (p, e, s, m, args, below, meth, c) ⟨Bd.exec, hZ, Bd.bytes, hml, findClass_of_methodNamed Bd.named, (name_of_methodNamed Bd.named Bd.method).1, Bd.returns, BodyLoose.notSynchronized Bd, hW⟩ s₁ [] X0 (by rw [← hh, Bd.state]; rfl) (Fr.nil _)
  exact ⟨s₂, o, castTop (he m) h1, h2, h3, h4⟩
theorem declOf {y : MethodName} {s : State} {args : Array Value} {bytes' : ByteArray} {maxL' : Nat} {ret' : Option FieldType} {hs : List (Nat × Nat × Nat × Nat)} (w2 : (Jvm.Cond.instanceMethod y).before args s = true) (w4 : (Jvm.Cond.codeWith y bytes' maxL' ret' hs).before args s = true) : (Jvm.Cond.declares y).before args s = true := by
  obtain ⟨mk, methM, hnamed, hmethM, hst, -⟩ := Cond.instanceMethod_spec w2
  obtain ⟨m', meth', c', hn', hm', -, -, -, -, -, -, hsig⟩ := Cond.codeWith_spec w4
  cases hnamed.symm.trans hn'
  cases hmethM.symm.trans hm'
  simp [Cond.before, Cond.holds, Cond.value, hnamed, hmethM, hst, hsig]
theorem N.callPW (C : Cx G K own nm bytes maxL ret W) {i : Nat} {hs : List (Nat × Nat × Nat × Nat)} (x : Addr) (argsL : List Value) (hd : decode bytes pc = .ok (.invokevirtual i, 3)) (w1 : (Jvm.Cond.methodLink own i y).before G.a0 G.Z = true) (ws : (Jvm.Cond.selects y.cls y y).before G.a0 G.Z = true) (w2 : (Jvm.Cond.instanceMethod y).before G.a0 G.Z = true) (w3 : (Jvm.Cond.initialized y.cls).before G.a0 G.Z = true) (w4 : (Jvm.Cond.codeWith y bytes' maxL' ret' hs).before G.a0 G.Z = true)
    (hy : y.cls ≠ "java/lang/invoke/MethodHandle" ∧ y.cls ≠ "java/lang/invoke/VarHandle") (E : Exa G.Z h x y.cls) (M : ConW G y bytes' maxL' ret' hs rm' (.ref x :: argsL).toArray h R') (hlen : ∀ sig, parseMethodDescriptor y.desc = some sig → argsL.length = sig.parameters.length) (hsz : ls.size = maxL)
    (hf : rm'.frames + 1 ≤ rm.frames) (hl : (rest.map fun v => v.category).sum + (maxL' + 11) + rm'.locals ≤ rm.locals) (hc : a + rm'.cells ≤ rm.cells) (hs' : b + rm'.slots ≤ rm.slots) (hst : stk = argsL.reverse ++ .ref x :: rest) (hp : pc + 3 = pc')
    (k : ∀ v h', R' v h' → N G K rm Q h' (a + rm'.cells) (b + rm'.slots) pc' ls (v.toList ++ rest)) : N G K rm Q h a b pc ls stk := fun T locs X e N0 => by
  subst hp
  obtain ⟨cq, kq, qa, qb, qc⟩ := isOf C.hZ e E
  obtain ⟨v, _, ⟨T', L', k', n'⟩, -, X', ⟨Lc, ⟨hQ, N1⟩, l', y', z'⟩, s'⟩ := X.virtualBack C.hx (y := y) (z := y) C.ow (mvT C.hZ w1) (mvT C.hZ (declOf w2 w4)) (notFace_of_selects (args := #[]) (mvT C.hZ ws)) (mvT C.hZ ws) (mvT C.hZ w2) hy (backOfWith (W := (rest.map fun v => v.category).sum) (Q := fun v h L => R' v h ∧ Fr G.n0 L) (M []) C.hZ w4 w3 hf hl) qa qc (g := mkF K.m pc ls stk) rfl (by rw [C.ml]; exact hsz) (Steps.refl _) (argsL := argsL) (rest := rest) hlen hst (by show 2 * 0 + _ ≤ _; omega) (hb C.by hd) (fun _ _ => ⟨rfl, e, hc, hs'⟩)
  dsimp only [Pt.U, Pt.locs, Pt.cells, Pt.slots] at X' l' y' z' s' hQ
  subst l' y' z'
  obtain ⟨s₂, o, hs', r⟩ := k v T'.heap hQ T' _ X' rfl (N0.app N1)
  exact ⟨s₂, o, s'.trans hs', r⟩
end Calls
end Rules
end Jvm.OwnKit

namespace Jvm.Pilot.@@N@@
open Jvm Jvm.ClassFile Sem Op Lib Jvm.Free Jvm.Stand Jvm.LawKit Jvm.RoadKit Bundle Jvm.OwnKit Jvm.Pilot.@@N@@.Jvm.D
def own_U (v : Int64) : Int := v.toInt % 18446744073709551616
def own_nb (v : Int64) (k : Nat) : Nat := (own_U v / (16 ^ k : Nat) % 16).toNat
def own_cc (d : Nat) : Int := if d < 10 then 48 + d else 87 + d
def own_tx (h l : Int64) (i : Nat) : Int :=
  if i < 8 then own_cc (own_nb h (15 - i)) else if i = 8 then 45 else if i < 13 then own_cc (own_nb h (16 - i)) else if i = 13 then 45 else if i < 18 then own_cc (own_nb h (17 - i)) else if i = 18 then 45 else if i < 23 then own_cc (own_nb l (34 - i)) else if i = 23 then 45 else own_cc (own_nb l (35 - i))
theorem own_nb16 (v : Int64) (k : Nat) : own_nb v k < 16 := by
  unfold own_nb
  have h1 := Int.emod_nonneg (own_U v / (16 ^ k : Nat)) (by decide : (16 : Int) ≠ 0)
  have h2 := Int.emod_lt_of_pos (own_U v / (16 ^ k : Nat)) (by decide : (0 : Int) < 16)
  omega
theorem own_ccr {d : Nat} (h : d < 16) : 48 ≤ own_cc d ∧ own_cc d < 103 ∧ (own_cc d < 58 ∨ 97 ≤ own_cc d) := by
  unfold own_cc
  split <;> omega
theorem own_txr (h l : Int64) (i : Nat) : 0 ≤ own_tx h l i ∧ own_tx h l i < 128 ∧ (own_tx h l i < 65 ∨ 90 < own_tx h l i) := by
  have := fun v k => own_ccr (own_nb16 v k)
  unfold own_tx
  repeat' split
  all_goals first | omega | (have q1 := this h (15 - i); have q2 := this h (16 - i); have q3 := this h (17 - i); have q4 := this l (34 - i); have q5 := this l (35 - i); omega)
def own_hv (ds : Nat → Nat) (a : Nat) : Nat → Int
  | 0 => 0
  | m + 1 => own_hv ds a m * 16 + ds (a + m)
theorem own_hv_bd {ds : Nat → Nat} (hd : ∀ j, ds j < 16) (a : Nat) : ∀ m, 0 ≤ own_hv ds a m ∧ own_hv ds a m < (16 ^ m : Nat)
  | 0 => by simp [own_hv]
  | m + 1 => by
    have ih := own_hv_bd hd a m
    have := hd (a + m)
    unfold own_hv
    rw [Nat.pow_succ, Int.natCast_mul]
    have e16 : ((16 : Nat) : Int) = 16 := rfl
    rw [e16]
    omega
theorem own_U_bd (v : Int64) : 0 ≤ own_U v ∧ own_U v < 18446744073709551616 := ⟨Int.emod_nonneg _ (by decide), Int.emod_lt_of_pos _ (by decide)⟩
theorem own_nbI (v : Int64) (k : Nat) : ((own_nb v k : Nat) : Int) = own_U v / (16 ^ k : Nat) % 16 := by
  unfold own_nb
  have h1 := Int.emod_nonneg (own_U v / (16 ^ k : Nat)) (by decide : (16 : Int) ≠ 0)
  omega
def own_dh (h l : Int64) (i : Nat) : Nat := if i < 8 then own_nb h (15 - i) else if i < 13 then own_nb h (16 - i) else if i < 18 then own_nb h (17 - i) else if i < 23 then own_nb l (34 - i) else own_nb l (35 - i)
theorem own_dh16 (h l : Int64) (i : Nat) : own_dh h l i < 16 := by
  unfold own_dh
  repeat' split
  all_goals exact own_nb16 _ _
theorem own_txd (h l : Int64) {i : Nat} (h1 : i ≠ 8) (h2 : i ≠ 13) (h3 : i ≠ 18) (h4 : i ≠ 23) : own_tx h l i = own_cc (own_dh h l i) := by
  unfold own_tx own_dh
  repeat' split
  all_goals first | rfl | omega
theorem own_v1 (h l : Int64) : own_hv (own_dh h l) 0 8 = own_U h / 4294967296 := by
  have e : own_hv (own_dh h l) 0 8 = (((((((0 * 16 + ((own_nb h 15 : Nat) : Int)) * 16 + (own_nb h 14 : Nat)) * 16 + (own_nb h 13 : Nat)) * 16 + (own_nb h 12 : Nat)) * 16 + (own_nb h 11 : Nat)) * 16 + (own_nb h 10 : Nat)) * 16 + (own_nb h 9 : Nat)) * 16 + (own_nb h 8 : Nat) := rfl
  have := own_U_bd h
  rw [e]
  simp only [own_nbI]
  generalize own_U h = u at *
  omega
theorem own_v2 (h l : Int64) : own_hv (own_dh h l) 9 4 = own_U h / 65536 % 65536 := by
  have e : own_hv (own_dh h l) 9 4 = (((0 * 16 + ((own_nb h 7 : Nat) : Int)) * 16 + (own_nb h 6 : Nat)) * 16 + (own_nb h 5 : Nat)) * 16 + (own_nb h 4 : Nat) := rfl
  have := own_U_bd h
  rw [e]
  simp only [own_nbI]
  generalize own_U h = u at *
  omega
theorem own_v3 (h l : Int64) : own_hv (own_dh h l) 14 4 = own_U h % 65536 := by
  have e : own_hv (own_dh h l) 14 4 = (((0 * 16 + ((own_nb h 3 : Nat) : Int)) * 16 + (own_nb h 2 : Nat)) * 16 + (own_nb h 1 : Nat)) * 16 + (own_nb h 0 : Nat) := rfl
  have := own_U_bd h
  rw [e]
  simp only [own_nbI]
  generalize own_U h = u at *
  omega
theorem own_v4 (h l : Int64) : own_hv (own_dh h l) 19 4 = own_U l / 281474976710656 := by
  have e : own_hv (own_dh h l) 19 4 = (((0 * 16 + ((own_nb l 15 : Nat) : Int)) * 16 + (own_nb l 14 : Nat)) * 16 + (own_nb l 13 : Nat)) * 16 + (own_nb l 12 : Nat) := rfl
  have := own_U_bd l
  rw [e]
  simp only [own_nbI]
  generalize own_U l = u at *
  omega
theorem own_six (u : Int) (h0 : 0 ≤ u) : (((((0 * 16 + u / 1048576 % 16) * 16 + u / 65536 % 16) * 16 + u / 4096 % 16) * 16 + u / 256 % 16) * 16 + u / 16 % 16) * 16 + u / 1 % 16 = u % 16777216 := by omega
theorem own_v5 (h l : Int64) : own_hv (own_dh h l) 24 12 = own_U l % 281474976710656 := by
  have e : own_hv (own_dh h l) 24 12 = (((((((((((0 * 16 + ((own_nb l 11 : Nat) : Int)) * 16 + (own_nb l 10 : Nat)) * 16 + (own_nb l 9 : Nat)) * 16 + (own_nb l 8 : Nat)) * 16 + (own_nb l 7 : Nat)) * 16 + (own_nb l 6 : Nat)) * 16 + (own_nb l 5 : Nat)) * 16 + (own_nb l 4 : Nat)) * 16 + (own_nb l 3 : Nat)) * 16 + (own_nb l 2 : Nat)) * 16 + (own_nb l 1 : Nat)) * 16 + (own_nb l 0 : Nat) := rfl
  have hb := own_U_bd l
  rw [e]
  simp only [own_nbI]
  generalize own_U l = u at *
  have lo := own_six u hb.1
  have hi := own_six (u / 16777216) (Int.ediv_nonneg hb.1 (by decide))
  have d : ∀ k : Int, 0 ≤ k → u / 16777216 / k = u / (16777216 * k) := fun k hk => Int.ediv_ediv_of_nonneg (by decide)
  rw [d 1048576 (by decide), d 65536 (by decide), d 4096 (by decide), d 256 (by decide), d 16 (by decide), d 1 (by decide)] at hi
  have g : u % 281474976710656 = (u / 16777216 % 16777216) * 16777216 + u % 16777216 := by omega
  rw [g, ← lo, ← hi]
  have p0 : ((16 ^ 0 : Nat) : Int) = 1 := by decide
  have p1 : ((16 ^ 1 : Nat) : Int) = 16 := by decide
  have p2 : ((16 ^ 2 : Nat) : Int) = 256 := by decide
  have p3 : ((16 ^ 3 : Nat) : Int) = 4096 := by decide
  have p4 : ((16 ^ 4 : Nat) : Int) = 65536 := by decide
  have p5 : ((16 ^ 5 : Nat) : Int) = 1048576 := by decide
  have p6 : ((16 ^ 6 : Nat) : Int) = 16777216 * 1 := by decide
  have p7 : ((16 ^ 7 : Nat) : Int) = 16777216 * 16 := by decide
  have p8 : ((16 ^ 8 : Nat) : Int) = 16777216 * 256 := by decide
  have p9 : ((16 ^ 9 : Nat) : Int) = 16777216 * 4096 := by decide
  have p10 : ((16 ^ 10 : Nat) : Int) = 16777216 * 65536 := by decide
  have p11 : ((16 ^ 11 : Nat) : Int) = 16777216 * 1048576 := by decide
  rw [p0, p1, p2, p3, p4, p5, p6, p7, p8, p9, p10, p11]
  generalize u / (16777216 * 1048576) % 16 = a11
  generalize u / (16777216 * 65536) % 16 = a10
  generalize u / (16777216 * 4096) % 16 = a9
  generalize u / (16777216 * 256) % 16 = a8
  generalize u / (16777216 * 16) % 16 = a7
  generalize u / (16777216 * 1) % 16 = a6
  generalize u / 1048576 % 16 = a5
  generalize u / 65536 % 16 = a4
  generalize u / 4096 % 16 = a3
  generalize u / 256 % 16 = a2
  generalize u / 16 % 16 = a1
  generalize u / 1 % 16 = a0
  omega
def own_d (v : Int64) (sh : Int32) : Int32 := (((v.toUInt64 >>> (sh &&& 0x3f).toInt64.toUInt64).toInt64 &&& (15 : Int64)).toInt32)
theorem own_l2i {a : Int64} (h1 : 0 ≤ a.toInt) (h2 : a.toInt < 16) : a.toInt32.toInt = a.toInt := by
  have := c_l2i a
  have := rng32 a.toInt32
  omega
theorem own_nib (v : Int64) (sh : Int32) (k : Nat) (hk : sh.toBitVec.toNat % 64 = 4 * k) (h0 : 0 < 4 * k) (hp : (2 ^ (4 * k) : Nat) = 16 ^ k) : (own_d v sh).toInt = ((own_nb v k : Nat) : Int) := by
  unfold own_d
  have h1 := c_lushr v sh (4 * k) hk h0
  have h2 := c_maskL (v.toUInt64 >>> (sh &&& 0x3f).toInt64.toUInt64).toInt64 15 4 (by decide) (by decide)
  have e16 : ((2 ^ 4 : Nat) : Int) = 16 := by decide
  rw [h1, hp, e16] at h2
  have h3 := own_nbI v k
  have h4 := own_nb16 v k
  unfold own_U at h3
  rw [own_l2i (by omega) (by omega), h2, h3]
theorem own_nib0 (v : Int64) : (own_d v 0).toInt = ((own_nb v 0 : Nat) : Int) := by
  have e : own_d v 0 = (v &&& (15 : Int64)).toInt32 := by
    unfold own_d
    have : (v.toUInt64 >>> ((0 : Int32) &&& 0x3f).toInt64.toUInt64).toInt64 = v := by
      apply Int64.toBitVec_inj.mp
      show v.toBitVec >>> (((0 : Int32) &&& 0x3f).toInt64.toUInt64.toBitVec % 64#64) = v.toBitVec
      rw [show (((0 : Int32) &&& 0x3f).toInt64.toUInt64.toBitVec % 64#64) = 0#64 from by decide]
      show v.toBitVec >>> (0#64).toNat = v.toBitVec
      simp
    rw [this]
  rw [e]
  have h2 := c_maskL v 15 4 (by decide) (by decide)
  have e16 : ((2 ^ 4 : Nat) : Int) = 16 := by decide
  rw [e16] at h2
  have h3 := own_nbI v 0
  have e1 : ((16 ^ 0 : Nat) : Int) = 1 := by decide
  rw [e1] at h3
  have h4 := own_nb16 v 0
  unfold own_U at h3
  rw [own_l2i (by omega) (by omega), h2]
  omega
theorem own_ic {x : Int32} (h0 : 0 ≤ x.toInt) (h1 : x.toInt < 65536) : x.toUInt32.toUInt16.toUInt32.toInt32.toInt = x.toInt := by
  have := c_i2c x
  omega
theorem own_narc {x : Int32} (h0 : 0 ≤ x.toInt) (h1 : x.toInt < 65536) : (nar .char x).toInt = x.toInt := own_ic h0 h1
theorem own_narb {x : Int32} (h0 : 0 ≤ x.toInt) (h1 : x.toInt < 128) : nar .byte x = x := by
  apply Int32.toInt_inj.mp
  have := c_i2b x
  show x.toInt8.toInt32.toInt = x.toInt
  omega
theorem own_ca {dd : Int32} {d : Nat} (h : dd.toInt = (d : Nat)) (hd : dd.toInt < 10) : (nar .char ((48 : Int32) + dd).toUInt32.toUInt16.toUInt32.toInt32).toInt = own_cc d := by
  have h1 := c_iadd 48 dd
  have h2 := rng32 ((48 : Int32) + dd)
  have e : (48 : Int32).toInt = 48 := by decide
  have h3 : ((48 : Int32) + dd).toInt = 48 + d := by omega
  have h4 := own_ic (x := (48 : Int32) + dd) (by omega) (by omega)
  rw [own_narc (by omega) (by omega), h4, h3]
  unfold own_cc
  rw [if_pos (by omega)]
theorem own_cb {dd : Int32} {d : Nat} (h : dd.toInt = (d : Nat)) (hd : 10 ≤ dd.toInt) (h16 : d < 16) : (nar .char ((97 : Int32) + (dd - (10 : Int32))).toUInt32.toUInt16.toUInt32.toInt32).toInt = own_cc d := by
  have h0 := c_isub dd 10
  have h0' := rng32 (dd - (10 : Int32))
  have h1 := c_iadd 97 (dd - 10)
  have h2 := rng32 ((97 : Int32) + (dd - (10 : Int32)))
  have e : (97 : Int32).toInt = 97 := by decide
  have e' : (10 : Int32).toInt = 10 := by decide
  have h3 : ((97 : Int32) + (dd - (10 : Int32))).toInt = 87 + d := by omega
  have h4 := own_ic (x := (97 : Int32) + (dd - (10 : Int32))) (by omega) (by omega)
  rw [own_narc (by omega) (by omega), h4, h3]
  unfold own_cc
  rw [if_neg (by omega)]
def own_T (h l : Int64) (cs : List Int32) : Prop := cs.length = 36 ∧ ∀ i : Nat, i < 36 → ∃ c : Int32, cs[i]? = some c ∧ c.toInt = own_tx h l i
theorem own_pm {ps : List Int32} {i : Nat} {y : Int32} (h : ps[i]? = some y) : (ps.map Value.int)[i]? = some (.int y) := by rw [List.getElem?_map, h]; rfl
theorem own_36 (i : Nat) (h : i < 36) : i = 0 ∨ i = 1 ∨ i = 2 ∨ i = 3 ∨ i = 4 ∨ i = 5 ∨ i = 6 ∨ i = 7 ∨ i = 8 ∨ i = 9 ∨ i = 10 ∨ i = 11 ∨ i = 12 ∨ i = 13 ∨ i = 14 ∨ i = 15 ∨ i = 16 ∨ i = 17 ∨ i = 18 ∨ i = 19 ∨ i = 20 ∨ i = 21 ∨ i = 22 ∨ i = 23 ∨ i = 24 ∨ i = 25 ∨ i = 26 ∨ i = 27 ∨ i = 28 ∨ i = 29 ∨ i = 30 ∨ i = 31 ∨ i = 32 ∨ i = 33 ∨ i = 34 ∨ i = 35 := by omega
theorem own_one {c : Int32} {x : Int} (h : c.toInt = x) (h0 : 0 ≤ x) (h1 : x < 128) : (nar .char c).toInt = x := by rw [own_narc (by omega) (by omega), h]
theorem own_ccr' (v : Int64) (k : Nat) : 0 ≤ own_cc (own_nb v k) ∧ own_cc (own_nb v k) < 128 := by have := own_ccr (own_nb16 v k); omega
theorem own_asc {c : Int32} (h0 : 0 ≤ c.toInt) (h1 : c.toInt < 128) : (nar .byte c.toInt8.toInt32).toInt = c.toInt := by
  have e : c.toInt8.toInt32 = c := own_narb h0 h1
  rw [e, own_narb h0 h1]
def own_HX (G : Gx) (w : Addr) (wl : List Value) : Prop := Sta G.Z G.Z.heap "com/example/grantgraph/grantgraph/graph/Uuids" "HEX_DIGITS" "[B" (.ref w) ∧ Av G.Z G.Z.heap w .byte wl ∧ wl.length = 103 ∧ ∀ d : Nat, d < 16 → ∃ z : Int32, wl[(own_cc d).toNat]? = some (.int z) ∧ z.toInt = (d : Nat)
theorem own_acc {acc : Int64} {dv : Int32} {A : Int} {d : Nat} (h : acc.toInt = A) (h0 : 0 ≤ A) (h1 : A < 17592186044416) (hd : dv.toInt = (d : Nat)) (h16 : d < 16) : ((acc <<< ((4 : Int32) &&& 0x3f).toInt64) ||| dv.toInt64).toInt = A * 16 + d := by
  have q1 := c_lshl acc 4 4 (by decide)
  have e : ((2 ^ 4 : Nat) : Int) = 16 := by decide
  rw [e] at q1
  have r1 := rng64 (acc <<< ((4 : Int32) &&& 0x3f).toInt64)
  have q2 : (acc <<< ((4 : Int32) &&& 0x3f).toInt64).toInt = A * 16 := by omega
  have q3 := c_i2l dv
  have q4 := c_orL (acc <<< ((4 : Int32) &&& 0x3f).toInt64) dv.toInt64 4 (by decide) 16 (by decide) (by omega) (by omega) (by omega)
  have r2 := rng64 ((acc <<< ((4 : Int32) &&& 0x3f).toInt64) ||| dv.toInt64)
  omega
theorem own_inc {i : Int32} {k : Nat} (h : i.toInt = (k : Nat)) (hk : k < 100) : (i + (1 : Int32)).toInt = ((k + 1 : Nat) : Int) := by
  have h1 := c_iadd i 1
  have h3 := rng32 (i + 1)
  have e1 : (1 : Int32).toInt = 1 := by decide
  omega
theorem own_m255 {c : Int32} (h0 : 0 ≤ c.toInt) (h1 : c.toInt < 128) : (c &&& (255 : Int32)).toInt = c.toInt := by
  have := c_mask c 255 8 (by decide) (by decide)
  have e : ((2 ^ 8 : Nat) : Int) = 256 := by decide
  rw [e] at this
  omega
theorem own_p12 : ∀ m : Nat, m < 12 → (16 ^ m : Nat) ≤ 17592186044416 := by decide
theorem own_msb {h : Int64} {r1 r2 r3 : Int64} (e1 : r1.toInt = own_U h / 4294967296) (e2 : r2.toInt = own_U h / 65536 % 65536) (e3 : r3.toInt = own_U h % 65536) : ((r1 <<< ((32 : Int32) &&& 0x3f).toInt64) ||| (r2 <<< ((16 : Int32) &&& 0x3f).toInt64)) ||| r3 = h := by
  have hU := own_U_bd h
  have q1 := c_lshl r1 32 32 (by decide)
  have q2 := c_lshl r2 16 16 (by decide)
  have f1 : ((2 ^ 32 : Nat) : Int) = 4294967296 := by decide
  have f2 : ((2 ^ 16 : Nat) : Int) = 65536 := by decide
  rw [f1] at q1
  rw [f2] at q2
  have r1' := rng64 (r1 <<< ((32 : Int32) &&& 0x3f).toInt64)
  have r2' := rng64 (r2 <<< ((16 : Int32) &&& 0x3f).toInt64)
  generalize r1 <<< ((32 : Int32) &&& 0x3f).toInt64 = A at *
  generalize r2 <<< ((16 : Int32) &&& 0x3f).toInt64 = B at *
  have b2 : B.toInt = (own_U h / 65536 % 65536) * 65536 := by omega
  have q3 := c_orL A B 32 (by decide) 4294967296 (by decide) (by omega) (by omega) (by omega)
  have q4 := c_orL (A ||| B) r3 16 (by decide) 65536 (by decide) (by omega) (by omega) (by omega)
  have r4 := rng64 ((A ||| B) ||| r3)
  have r5 := rng64 h
  apply Int64.toInt_inj.mp
  unfold own_U at *
  omega
theorem own_lsb {l : Int64} {r4 r5 : Int64} (e4 : r4.toInt = own_U l / 281474976710656) (e5 : r5.toInt = own_U l % 281474976710656) : (r4 <<< ((48 : Int32) &&& 0x3f).toInt64) ||| r5 = l := by
  have hU := own_U_bd l
  have q1 := c_lshl r4 48 48 (by decide)
  have f1 : ((2 ^ 48 : Nat) : Int) = 281474976710656 := by decide
  rw [f1] at q1
  have r1' := rng64 (r4 <<< ((48 : Int32) &&& 0x3f).toInt64)
  generalize r4 <<< ((48 : Int32) &&& 0x3f).toInt64 = A at *
  have q3 := c_orL A r5 48 (by decide) 281474976710656 (by decide) (by omega) (by omega) (by omega)
  have r4' := rng64 (A ||| r5)
  have r5' := rng64 l
  apply Int64.toInt_inj.mp
  unfold own_U at *
  omega
theorem own_or5 {a b c d e : Int64} (h1 : 0 ≤ a.toInt) (h2 : 0 ≤ b.toInt) (h3 : 0 ≤ c.toInt) (h4 : 0 ≤ d.toInt) (h5 : 0 ≤ e.toInt) : 0 ≤ ((((a ||| b) ||| c) ||| d) ||| e).toInt :=
  (c_orSL _ _).1 ((c_orSL _ _).1 ((c_orSL _ _).1 ((c_orSL _ _).1 h1 h2) h3) h4) h5
theorem own_dig {h l : Int64} {tb : List Int32} (hT : own_T h l tb) {a b : Nat} (hb : b ≤ 36) (n1 : 8 < a ∨ b ≤ 8) (n2 : 13 < a ∨ b ≤ 13) (n3 : 18 < a ∨ b ≤ 18) (n4 : 23 < a ∨ b ≤ 23) : ∀ j, a ≤ j → j < b → ∃ c : Int32, tb[j]? = some c ∧ c.toInt = own_cc (own_dh h l j) := fun j h1 h2 => by
  obtain ⟨c, e1, e2⟩ := hT.2 j (by omega)
  exact ⟨c, e1, by rw [e2, own_txd h l (by omega) (by omega) (by omega) (by omega)]⟩
def Iq (G : Gx) (h : Heap) (x hi lo tx : Addr) (n : Int32) (hs ls : List Value) (tb : List Int32) : Prop :=
  x ≠ hi ∧ x ≠ lo ∧ x ≠ tx ∧ hi ≠ lo ∧ hi ≠ tx ∧ lo ≠ tx ∧ G.n0 ≤ x ∧ G.n0 ≤ hi ∧ G.n0 ≤ lo ∧ G.n0 ≤ tx ∧ Exa G.Z h x "com/example/grantgraph/grantgraph/bench/Ids" ∧ Fld G.Z h x "com/example/grantgraph/grantgraph/bench/Ids" "high" "[J" (.ref hi) ∧ Fld G.Z h x "com/example/grantgraph/grantgraph/bench/Ids" "low" "[J" (.ref lo) ∧ Fld G.Z h x "com/example/grantgraph/grantgraph/bench/Ids" "text" "[B" (.ref tx) ∧ Fld G.Z h x "com/example/grantgraph/grantgraph/bench/Ids" "size" "I" (.int n) ∧ Av G.Z h hi .long hs ∧ hs.length = 1024 ∧ Av G.Z h lo .long ls ∧ ls.length = 1024 ∧ Av G.Z h tx .byte (tb.map .int) ∧ tb.length = 36
theorem Iq.exa {G : Gx} {h : Heap} {x hi lo tx : Addr} {n : Int32} {hs ls : List Value} {tb : List Int32} (H : Iq G h x hi lo tx n hs ls tb) : Exa G.Z h x "com/example/grantgraph/grantgraph/bench/Ids" := by
  obtain ⟨-, -, -, -, -, -, -, -, -, -, E, -⟩ := H
  exact E
theorem Iq.keep {G : Gx} {h h' : Heap} {x hi lo tx : Addr} {n : Int32} {hs ls : List Value} {tb : List Int32} {ws : List Addr} (H : Iq G h x hi lo tx n hs ls tb) (K : Keep h h' ws) (q1 : x ∉ ws) (q2 : hi ∉ ws) (q3 : lo ∉ ws) (q4 : tx ∉ ws) : Iq G h' x hi lo tx n hs ls tb := by
  obtain ⟨a1, a2, a3, a4, a5, a6, b1, b2, b3, b4, E, f1, f2, f3, f4, A1, l1, A2, l2, A3, l3⟩ := H
  exact ⟨a1, a2, a3, a4, a5, a6, b1, b2, b3, b4, E.keep K, f1.keep K q1, f2.keep K q1, f3.keep K q1, f4.keep K q1, A1.keep K q2, l1, A2.keep K q3, l2, A3.keep K q4, l3⟩
theorem Iq.ext {G : Gx} {h h' : Heap} {x hi lo tx : Addr} {n : Int32} {hs ls : List Value} {tb : List Int32} (H : Iq G h x hi lo tx n hs ls tb) (K : Ext h h') : Iq G h' x hi lo tx n hs ls tb := by
  obtain ⟨a1, a2, a3, a4, a5, a6, b1, b2, b3, b4, E, f1, f2, f3, f4, A1, l1, A2, l2, A3, l3⟩ := H
  exact ⟨a1, a2, a3, a4, a5, a6, b1, b2, b3, b4, E.ext K, f1.ext K, f2.ext K, f3.ext K, f4.ext K, A1.ext K, l1, A2.ext K, l2, A3.ext K, l3⟩
theorem Iq.lts {G : Gx} {h : Heap} {x hi lo tx : Addr} {n : Int32} {hs ls : List Value} {tb : List Int32} (H : Iq G h x hi lo tx n hs ls tb) : x < h.size ∧ hi < h.size ∧ lo < h.size ∧ tx < h.size := by
  obtain ⟨-, -, -, -, -, -, -, -, -, -, E, -, -, -, -, A1, -, A2, -, A3, -⟩ := H
  exact ⟨E.lt, A1.lt, A2.lt, A3.lt⟩
theorem own_eqT {hh ll : Int64} {cs tb : List Int32} (hT : own_T hh ll cs) (hl : tb.length = 36) (h : ∀ j : Nat, j < 36 → tb[j]? = cs[j]?) : tb = cs := by
  apply List.ext_getElem?
  intro i
  by_cases q : i < 36
  · exact h i q
  · rw [List.getElem?_eq_none (by omega), List.getElem?_eq_none (by rw [hT.1]; omega)]
theorem own_0i {i : Int32} {k : Nat} (h : i.toInt = (k : Nat)) (hk : k < 100) : ((0 : Int32) + i).toInt = (k : Nat) := by
  have h1 := c_iadd 0 i
  have h3 := rng32 ((0 : Int32) + i)
  have e1 : (0 : Int32).toInt = 0 := by decide
  omega
theorem own_stp {tb cs : List Int32} {k : Nat} {c : Int32} (hl : tb.length = 36) (hk : k < 36) (h : ∀ j : Nat, j < k → tb[j]? = cs[j]?) (hc : cs[k]? = some c) : ∀ j : Nat, j < k + 1 → (tb.set k c)[j]? = cs[j]? := fun j hj => by
  by_cases q : k = j
  · subst q; rw [List.getElem?_set_self (by omega), hc]
  · rw [List.getElem?_set_ne q]; exact h j (by omega)
theorem own_w1 {z : Int32} {P : Prop} (h : (z = 1 ∧ P) ∨ (z = 0 ∧ ¬ P)) (p : P) : z = (1 : Int32) := by
  rcases h with h | h
  · exact h.1
  · exact absurd p h.2
theorem own_w0 {z : Int32} {P : Prop} (h : (z = 1 ∧ P) ∨ (z = 0 ∧ ¬ P)) (p : ¬ P) : z = (0 : Int32) := by
  rcases h with h | h
  · exact absurd h.2 p
  · exact h.1
theorem pn0 : plainName "com/example/grantgraph/grantgraph/bench/IdsSameAtPinLaw" = true := by first | (simp [plainName, overriddenIn]; done) | decide +kernel
theorem pn2 : plainName "com/example/grantgraph/grantgraph/bench/IdsSameAtPinLaw" = true := by first | (simp [plainName, overriddenIn]; done) | decide +kernel
theorem pn1 : plainName "com/example/grantgraph/grantgraph/bench/IdsSameAtPinLaw" = true := by first | (simp [plainName, overriddenIn]; done) | decide +kernel
theorem pn3 : plainName "com/example/grantgraph/grantgraph/bench/Ids" = true := by first | (simp [plainName, overriddenIn]; done) | decide +kernel
theorem pn5 : plainName "com/example/grantgraph/grantgraph/bench/Ids" = true := by first | (simp [plainName, overriddenIn]; done) | decide +kernel
theorem pn6 : plainName "com/example/grantgraph/grantgraph/bench/Ids" = true := by first | (simp [plainName, overriddenIn]; done) | decide +kernel
theorem pn7 : plainName "com/example/grantgraph/grantgraph/bench/Ids" = true := by first | (simp [plainName, overriddenIn]; done) | decide +kernel
theorem pn8 : plainName "com/example/grantgraph/grantgraph/graph/Uuids" = true := by first | (simp [plainName, overriddenIn]; done) | decide +kernel
theorem pn9 : plainName "com/example/grantgraph/grantgraph/graph/Uuids" = true := by first | (simp [plainName, overriddenIn]; done) | decide +kernel
theorem pn10 : plainName "com/example/grantgraph/grantgraph/graph/Uuids" = true := by first | (simp [plainName, overriddenIn]; done) | decide +kernel
theorem pn11 : plainName "java/util/UUID" = true := by first | (simp [plainName, overriddenIn]; done) | decide +kernel
theorem pn12 : plainName "java/util/UUID" = true := by first | (simp [plainName, overriddenIn]; done) | decide +kernel
theorem pn13 : plainName "java/util/UUID" = true := by first | (simp [plainName, overriddenIn]; done) | decide +kernel
theorem pn14 : plainName "com/example/grantgraph/grantgraph/bench/Ids" = true := by first | (simp [plainName, overriddenIn]; done) | decide +kernel
theorem pd__JJ__C : parseMethodDescriptor "(JJ)[C" = some ⟨[.long, .long], some (.array .char)⟩ := by decide +kernel
theorem pd___V : parseMethodDescriptor "()V" = some ⟨[], none⟩ := by decide +kernel
theorem pd___CII_V : parseMethodDescriptor "([CII)V" = some ⟨[(.array .char), .int, .int], none⟩ := by decide +kernel
theorem pd__ILcom_example_grantgraph_grantgraph_bench_Ids__Z : parseMethodDescriptor "(ILcom/example/grantgraph/grantgraph/bench/Ids;)Z" = some ⟨[.int, (.object "com/example/grantgraph/grantgraph/bench/Ids")], some .boolean⟩ := by decide +kernel
theorem pd__JI_C : parseMethodDescriptor "(JI)C" = some ⟨[.long, .int], some .char⟩ := by decide +kernel
theorem pd__C_B : parseMethodDescriptor "(C)B" = some ⟨[.char], some .byte⟩ := by decide +kernel
theorem pd___Z : parseMethodDescriptor "()Z" = some ⟨[], some .boolean⟩ := by decide +kernel
theorem pd___BII_Ljava_util_UUID_ : parseMethodDescriptor "([BII)Ljava/util/UUID;" = some ⟨[(.array .byte), .int, .int], some (.object "java/util/UUID")⟩ := by decide +kernel
theorem pd___J : parseMethodDescriptor "()J" = some ⟨[], some .long⟩ := by decide +kernel
theorem pd___BI_Ljava_util_UUID_ : parseMethodDescriptor "([BI)Ljava/util/UUID;" = some ⟨[(.array .byte), .int], some (.object "java/util/UUID")⟩ := by decide +kernel
theorem pd___BII_J : parseMethodDescriptor "([BII)J" = some ⟨[(.array .byte), .int, .int], some .long⟩ := by decide +kernel
theorem pd__JJ_V : parseMethodDescriptor "(JJ)V" = some ⟨[.long, .long], none⟩ := by decide +kernel

theorem d2_0 : decode method_3_code 0 = .ok (.lload_n 0, 1) := by decide +kernel
theorem d2_1 : decode method_3_code 1 = .ok (.iload_n 2, 1) := by decide +kernel
theorem d2_2 : decode method_3_code 2 = .ok (.lushr, 1) := by decide +kernel
theorem d2_3 : decode method_3_code 3 = .ok (.ldc2_w 24, 3) := by decide +kernel
theorem d2_6 : decode method_3_code 6 = .ok (.land, 1) := by decide +kernel
theorem d2_7 : decode method_3_code 7 = .ok (.l2i, 1) := by decide +kernel
theorem d2_8 : decode method_3_code 8 = .ok (.istore_n 3, 1) := by decide +kernel
theorem d2_9 : decode method_3_code 9 = .ok (.iload_n 3, 1) := by decide +kernel
theorem d2_10 : decode method_3_code 10 = .ok (.bipush 10, 2) := by decide +kernel
theorem d2_12 : decode method_3_code 12 = .ok (.if_icmp .ge 10, 3) := by decide +kernel
theorem d2_15 : decode method_3_code 15 = .ok (.bipush 48, 2) := by decide +kernel
theorem d2_17 : decode method_3_code 17 = .ok (.iload_n 3, 1) := by decide +kernel
theorem d2_18 : decode method_3_code 18 = .ok (.iadd, 1) := by decide +kernel
theorem d2_19 : decode method_3_code 19 = .ok (.goto 10, 3) := by decide +kernel
theorem d2_22 : decode method_3_code 22 = .ok (.bipush 97, 2) := by decide +kernel
theorem d2_24 : decode method_3_code 24 = .ok (.iload_n 3, 1) := by decide +kernel
theorem d2_25 : decode method_3_code 25 = .ok (.bipush 10, 2) := by decide +kernel
theorem d2_27 : decode method_3_code 27 = .ok (.isub, 1) := by decide +kernel
theorem d2_28 : decode method_3_code 28 = .ok (.iadd, 1) := by decide +kernel
theorem d2_29 : decode method_3_code 29 = .ok (.i2c, 1) := by decide +kernel
theorem d2_30 : decode method_3_code 30 = .ok (.ireturn, 1) := by decide +kernel
theorem d1_0 : decode method_4_code 0 = .ok (.bipush 36, 2) := by decide +kernel
theorem d1_2 : decode method_4_code 2 = .ok (.newarray .char, 2) := by decide +kernel
theorem d1_4 : decode method_4_code 4 = .ok (.astore 4, 2) := by decide +kernel
theorem d1_6 : decode method_4_code 6 = .ok (.aload 4, 2) := by decide +kernel
theorem d1_8 : decode method_4_code 8 = .ok (.iconst 0, 1) := by decide +kernel
theorem d1_9 : decode method_4_code 9 = .ok (.lload_n 0, 1) := by decide +kernel
theorem d1_10 : decode method_4_code 10 = .ok (.bipush 60, 2) := by decide +kernel
theorem d1_12 : decode method_4_code 12 = .ok (.invokestatic 26, 3) := by decide +kernel
theorem d1_15 : decode method_4_code 15 = .ok (.castore, 1) := by decide +kernel
theorem d1_16 : decode method_4_code 16 = .ok (.aload 4, 2) := by decide +kernel
theorem d1_18 : decode method_4_code 18 = .ok (.iconst 1, 1) := by decide +kernel
theorem d1_19 : decode method_4_code 19 = .ok (.lload_n 0, 1) := by decide +kernel
theorem d1_20 : decode method_4_code 20 = .ok (.bipush 56, 2) := by decide +kernel
theorem d1_22 : decode method_4_code 22 = .ok (.invokestatic 26, 3) := by decide +kernel
theorem d1_25 : decode method_4_code 25 = .ok (.castore, 1) := by decide +kernel
theorem d1_26 : decode method_4_code 26 = .ok (.aload 4, 2) := by decide +kernel
theorem d1_28 : decode method_4_code 28 = .ok (.iconst 2, 1) := by decide +kernel
theorem d1_29 : decode method_4_code 29 = .ok (.lload_n 0, 1) := by decide +kernel
theorem d1_30 : decode method_4_code 30 = .ok (.bipush 52, 2) := by decide +kernel
theorem d1_32 : decode method_4_code 32 = .ok (.invokestatic 26, 3) := by decide +kernel
theorem d1_35 : decode method_4_code 35 = .ok (.castore, 1) := by decide +kernel
theorem d1_36 : decode method_4_code 36 = .ok (.aload 4, 2) := by decide +kernel
theorem d1_38 : decode method_4_code 38 = .ok (.iconst 3, 1) := by decide +kernel
theorem d1_39 : decode method_4_code 39 = .ok (.lload_n 0, 1) := by decide +kernel
theorem d1_40 : decode method_4_code 40 = .ok (.bipush 48, 2) := by decide +kernel
theorem d1_42 : decode method_4_code 42 = .ok (.invokestatic 26, 3) := by decide +kernel
theorem d1_45 : decode method_4_code 45 = .ok (.castore, 1) := by decide +kernel
theorem d1_46 : decode method_4_code 46 = .ok (.aload 4, 2) := by decide +kernel
theorem d1_48 : decode method_4_code 48 = .ok (.iconst 4, 1) := by decide +kernel
theorem d1_49 : decode method_4_code 49 = .ok (.lload_n 0, 1) := by decide +kernel
theorem d1_50 : decode method_4_code 50 = .ok (.bipush 44, 2) := by decide +kernel
theorem d1_52 : decode method_4_code 52 = .ok (.invokestatic 26, 3) := by decide +kernel
theorem d1_55 : decode method_4_code 55 = .ok (.castore, 1) := by decide +kernel
theorem d1_56 : decode method_4_code 56 = .ok (.aload 4, 2) := by decide +kernel
theorem d1_58 : decode method_4_code 58 = .ok (.iconst 5, 1) := by decide +kernel
theorem d1_59 : decode method_4_code 59 = .ok (.lload_n 0, 1) := by decide +kernel
theorem d1_60 : decode method_4_code 60 = .ok (.bipush 40, 2) := by decide +kernel
theorem d1_62 : decode method_4_code 62 = .ok (.invokestatic 26, 3) := by decide +kernel
theorem d1_65 : decode method_4_code 65 = .ok (.castore, 1) := by decide +kernel
theorem d1_66 : decode method_4_code 66 = .ok (.aload 4, 2) := by decide +kernel
theorem d1_68 : decode method_4_code 68 = .ok (.bipush 6, 2) := by decide +kernel
theorem d1_70 : decode method_4_code 70 = .ok (.lload_n 0, 1) := by decide +kernel
theorem d1_71 : decode method_4_code 71 = .ok (.bipush 36, 2) := by decide +kernel
theorem d1_73 : decode method_4_code 73 = .ok (.invokestatic 26, 3) := by decide +kernel
theorem d1_76 : decode method_4_code 76 = .ok (.castore, 1) := by decide +kernel
theorem d1_77 : decode method_4_code 77 = .ok (.aload 4, 2) := by decide +kernel
theorem d1_79 : decode method_4_code 79 = .ok (.bipush 7, 2) := by decide +kernel
theorem d1_81 : decode method_4_code 81 = .ok (.lload_n 0, 1) := by decide +kernel
theorem d1_82 : decode method_4_code 82 = .ok (.bipush 32, 2) := by decide +kernel
theorem d1_84 : decode method_4_code 84 = .ok (.invokestatic 26, 3) := by decide +kernel
theorem d1_87 : decode method_4_code 87 = .ok (.castore, 1) := by decide +kernel
theorem d1_88 : decode method_4_code 88 = .ok (.aload 4, 2) := by decide +kernel
theorem d1_90 : decode method_4_code 90 = .ok (.bipush 8, 2) := by decide +kernel
theorem d1_92 : decode method_4_code 92 = .ok (.bipush 45, 2) := by decide +kernel
theorem d1_94 : decode method_4_code 94 = .ok (.castore, 1) := by decide +kernel
theorem d1_95 : decode method_4_code 95 = .ok (.aload 4, 2) := by decide +kernel
theorem d1_97 : decode method_4_code 97 = .ok (.bipush 9, 2) := by decide +kernel
theorem d1_99 : decode method_4_code 99 = .ok (.lload_n 0, 1) := by decide +kernel
theorem d1_100 : decode method_4_code 100 = .ok (.bipush 28, 2) := by decide +kernel
theorem d1_102 : decode method_4_code 102 = .ok (.invokestatic 26, 3) := by decide +kernel
theorem d1_105 : decode method_4_code 105 = .ok (.castore, 1) := by decide +kernel
theorem d1_106 : decode method_4_code 106 = .ok (.aload 4, 2) := by decide +kernel
theorem d1_108 : decode method_4_code 108 = .ok (.bipush 10, 2) := by decide +kernel
theorem d1_110 : decode method_4_code 110 = .ok (.lload_n 0, 1) := by decide +kernel
theorem d1_111 : decode method_4_code 111 = .ok (.bipush 24, 2) := by decide +kernel
theorem d1_113 : decode method_4_code 113 = .ok (.invokestatic 26, 3) := by decide +kernel
theorem d1_116 : decode method_4_code 116 = .ok (.castore, 1) := by decide +kernel
theorem d1_117 : decode method_4_code 117 = .ok (.aload 4, 2) := by decide +kernel
theorem d1_119 : decode method_4_code 119 = .ok (.bipush 11, 2) := by decide +kernel
theorem d1_121 : decode method_4_code 121 = .ok (.lload_n 0, 1) := by decide +kernel
theorem d1_122 : decode method_4_code 122 = .ok (.bipush 20, 2) := by decide +kernel
theorem d1_124 : decode method_4_code 124 = .ok (.invokestatic 26, 3) := by decide +kernel
theorem d1_127 : decode method_4_code 127 = .ok (.castore, 1) := by decide +kernel
theorem d1_128 : decode method_4_code 128 = .ok (.aload 4, 2) := by decide +kernel
theorem d1_130 : decode method_4_code 130 = .ok (.bipush 12, 2) := by decide +kernel
theorem d1_132 : decode method_4_code 132 = .ok (.lload_n 0, 1) := by decide +kernel
theorem d1_133 : decode method_4_code 133 = .ok (.bipush 16, 2) := by decide +kernel
theorem d1_135 : decode method_4_code 135 = .ok (.invokestatic 26, 3) := by decide +kernel
theorem d1_138 : decode method_4_code 138 = .ok (.castore, 1) := by decide +kernel
theorem d1_139 : decode method_4_code 139 = .ok (.aload 4, 2) := by decide +kernel
theorem d1_141 : decode method_4_code 141 = .ok (.bipush 13, 2) := by decide +kernel
theorem d1_143 : decode method_4_code 143 = .ok (.bipush 45, 2) := by decide +kernel
theorem d1_145 : decode method_4_code 145 = .ok (.castore, 1) := by decide +kernel
theorem d1_146 : decode method_4_code 146 = .ok (.aload 4, 2) := by decide +kernel
theorem d1_148 : decode method_4_code 148 = .ok (.bipush 14, 2) := by decide +kernel
theorem d1_150 : decode method_4_code 150 = .ok (.lload_n 0, 1) := by decide +kernel
theorem d1_151 : decode method_4_code 151 = .ok (.bipush 12, 2) := by decide +kernel
theorem d1_153 : decode method_4_code 153 = .ok (.invokestatic 26, 3) := by decide +kernel
theorem d1_156 : decode method_4_code 156 = .ok (.castore, 1) := by decide +kernel
theorem d1_157 : decode method_4_code 157 = .ok (.aload 4, 2) := by decide +kernel
theorem d1_159 : decode method_4_code 159 = .ok (.bipush 15, 2) := by decide +kernel
theorem d1_161 : decode method_4_code 161 = .ok (.lload_n 0, 1) := by decide +kernel
theorem d1_162 : decode method_4_code 162 = .ok (.bipush 8, 2) := by decide +kernel
theorem d1_164 : decode method_4_code 164 = .ok (.invokestatic 26, 3) := by decide +kernel
theorem d1_167 : decode method_4_code 167 = .ok (.castore, 1) := by decide +kernel
theorem d1_168 : decode method_4_code 168 = .ok (.aload 4, 2) := by decide +kernel
theorem d1_170 : decode method_4_code 170 = .ok (.bipush 16, 2) := by decide +kernel
theorem d1_172 : decode method_4_code 172 = .ok (.lload_n 0, 1) := by decide +kernel
theorem d1_173 : decode method_4_code 173 = .ok (.iconst 4, 1) := by decide +kernel
theorem d1_174 : decode method_4_code 174 = .ok (.invokestatic 26, 3) := by decide +kernel
theorem d1_177 : decode method_4_code 177 = .ok (.castore, 1) := by decide +kernel
theorem d1_178 : decode method_4_code 178 = .ok (.aload 4, 2) := by decide +kernel
theorem d1_180 : decode method_4_code 180 = .ok (.bipush 17, 2) := by decide +kernel
theorem d1_182 : decode method_4_code 182 = .ok (.lload_n 0, 1) := by decide +kernel
theorem d1_183 : decode method_4_code 183 = .ok (.iconst 0, 1) := by decide +kernel
theorem d1_184 : decode method_4_code 184 = .ok (.invokestatic 26, 3) := by decide +kernel
theorem d1_187 : decode method_4_code 187 = .ok (.castore, 1) := by decide +kernel
theorem d1_188 : decode method_4_code 188 = .ok (.aload 4, 2) := by decide +kernel
theorem d1_190 : decode method_4_code 190 = .ok (.bipush 18, 2) := by decide +kernel
theorem d1_192 : decode method_4_code 192 = .ok (.bipush 45, 2) := by decide +kernel
theorem d1_194 : decode method_4_code 194 = .ok (.castore, 1) := by decide +kernel
theorem d1_195 : decode method_4_code 195 = .ok (.aload 4, 2) := by decide +kernel
theorem d1_197 : decode method_4_code 197 = .ok (.bipush 19, 2) := by decide +kernel
theorem d1_199 : decode method_4_code 199 = .ok (.lload_n 2, 1) := by decide +kernel
theorem d1_200 : decode method_4_code 200 = .ok (.bipush 60, 2) := by decide +kernel
theorem d1_202 : decode method_4_code 202 = .ok (.invokestatic 26, 3) := by decide +kernel
theorem d1_205 : decode method_4_code 205 = .ok (.castore, 1) := by decide +kernel
theorem d1_206 : decode method_4_code 206 = .ok (.aload 4, 2) := by decide +kernel
theorem d1_208 : decode method_4_code 208 = .ok (.bipush 20, 2) := by decide +kernel
theorem d1_210 : decode method_4_code 210 = .ok (.lload_n 2, 1) := by decide +kernel
theorem d1_211 : decode method_4_code 211 = .ok (.bipush 56, 2) := by decide +kernel
theorem d1_213 : decode method_4_code 213 = .ok (.invokestatic 26, 3) := by decide +kernel
theorem d1_216 : decode method_4_code 216 = .ok (.castore, 1) := by decide +kernel
theorem d1_217 : decode method_4_code 217 = .ok (.aload 4, 2) := by decide +kernel
theorem d1_219 : decode method_4_code 219 = .ok (.bipush 21, 2) := by decide +kernel
theorem d1_221 : decode method_4_code 221 = .ok (.lload_n 2, 1) := by decide +kernel
theorem d1_222 : decode method_4_code 222 = .ok (.bipush 52, 2) := by decide +kernel
theorem d1_224 : decode method_4_code 224 = .ok (.invokestatic 26, 3) := by decide +kernel
theorem d1_227 : decode method_4_code 227 = .ok (.castore, 1) := by decide +kernel
theorem d1_228 : decode method_4_code 228 = .ok (.aload 4, 2) := by decide +kernel
theorem d1_230 : decode method_4_code 230 = .ok (.bipush 22, 2) := by decide +kernel
theorem d1_232 : decode method_4_code 232 = .ok (.lload_n 2, 1) := by decide +kernel
theorem d1_233 : decode method_4_code 233 = .ok (.bipush 48, 2) := by decide +kernel
theorem d1_235 : decode method_4_code 235 = .ok (.invokestatic 26, 3) := by decide +kernel
theorem d1_238 : decode method_4_code 238 = .ok (.castore, 1) := by decide +kernel
theorem d1_239 : decode method_4_code 239 = .ok (.aload 4, 2) := by decide +kernel
theorem d1_241 : decode method_4_code 241 = .ok (.bipush 23, 2) := by decide +kernel
theorem d1_243 : decode method_4_code 243 = .ok (.bipush 45, 2) := by decide +kernel
theorem d1_245 : decode method_4_code 245 = .ok (.castore, 1) := by decide +kernel
theorem d1_246 : decode method_4_code 246 = .ok (.aload 4, 2) := by decide +kernel
theorem d1_248 : decode method_4_code 248 = .ok (.bipush 24, 2) := by decide +kernel
theorem d1_250 : decode method_4_code 250 = .ok (.lload_n 2, 1) := by decide +kernel
theorem d1_251 : decode method_4_code 251 = .ok (.bipush 44, 2) := by decide +kernel
theorem d1_253 : decode method_4_code 253 = .ok (.invokestatic 26, 3) := by decide +kernel
theorem d1_256 : decode method_4_code 256 = .ok (.castore, 1) := by decide +kernel
theorem d1_257 : decode method_4_code 257 = .ok (.aload 4, 2) := by decide +kernel
theorem d1_259 : decode method_4_code 259 = .ok (.bipush 25, 2) := by decide +kernel
theorem d1_261 : decode method_4_code 261 = .ok (.lload_n 2, 1) := by decide +kernel
theorem d1_262 : decode method_4_code 262 = .ok (.bipush 40, 2) := by decide +kernel
theorem d1_264 : decode method_4_code 264 = .ok (.invokestatic 26, 3) := by decide +kernel
theorem d1_267 : decode method_4_code 267 = .ok (.castore, 1) := by decide +kernel
theorem d1_268 : decode method_4_code 268 = .ok (.aload 4, 2) := by decide +kernel
theorem d1_270 : decode method_4_code 270 = .ok (.bipush 26, 2) := by decide +kernel
theorem d1_272 : decode method_4_code 272 = .ok (.lload_n 2, 1) := by decide +kernel
theorem d1_273 : decode method_4_code 273 = .ok (.bipush 36, 2) := by decide +kernel
theorem d1_275 : decode method_4_code 275 = .ok (.invokestatic 26, 3) := by decide +kernel
theorem d1_278 : decode method_4_code 278 = .ok (.castore, 1) := by decide +kernel
theorem d1_279 : decode method_4_code 279 = .ok (.aload 4, 2) := by decide +kernel
theorem d1_281 : decode method_4_code 281 = .ok (.bipush 27, 2) := by decide +kernel
theorem d1_283 : decode method_4_code 283 = .ok (.lload_n 2, 1) := by decide +kernel
theorem d1_284 : decode method_4_code 284 = .ok (.bipush 32, 2) := by decide +kernel
theorem d1_286 : decode method_4_code 286 = .ok (.invokestatic 26, 3) := by decide +kernel
theorem d1_289 : decode method_4_code 289 = .ok (.castore, 1) := by decide +kernel
theorem d1_290 : decode method_4_code 290 = .ok (.aload 4, 2) := by decide +kernel
theorem d1_292 : decode method_4_code 292 = .ok (.bipush 28, 2) := by decide +kernel
theorem d1_294 : decode method_4_code 294 = .ok (.lload_n 2, 1) := by decide +kernel
theorem d1_295 : decode method_4_code 295 = .ok (.bipush 28, 2) := by decide +kernel
theorem d1_297 : decode method_4_code 297 = .ok (.invokestatic 26, 3) := by decide +kernel
theorem d1_300 : decode method_4_code 300 = .ok (.castore, 1) := by decide +kernel
theorem d1_301 : decode method_4_code 301 = .ok (.aload 4, 2) := by decide +kernel
theorem d1_303 : decode method_4_code 303 = .ok (.bipush 29, 2) := by decide +kernel
theorem d1_305 : decode method_4_code 305 = .ok (.lload_n 2, 1) := by decide +kernel
theorem d1_306 : decode method_4_code 306 = .ok (.bipush 24, 2) := by decide +kernel
theorem d1_308 : decode method_4_code 308 = .ok (.invokestatic 26, 3) := by decide +kernel
theorem d1_311 : decode method_4_code 311 = .ok (.castore, 1) := by decide +kernel
theorem d1_312 : decode method_4_code 312 = .ok (.aload 4, 2) := by decide +kernel
theorem d1_314 : decode method_4_code 314 = .ok (.bipush 30, 2) := by decide +kernel
theorem d1_316 : decode method_4_code 316 = .ok (.lload_n 2, 1) := by decide +kernel
theorem d1_317 : decode method_4_code 317 = .ok (.bipush 20, 2) := by decide +kernel
theorem d1_319 : decode method_4_code 319 = .ok (.invokestatic 26, 3) := by decide +kernel
theorem d1_322 : decode method_4_code 322 = .ok (.castore, 1) := by decide +kernel
theorem d1_323 : decode method_4_code 323 = .ok (.aload 4, 2) := by decide +kernel
theorem d1_325 : decode method_4_code 325 = .ok (.bipush 31, 2) := by decide +kernel
theorem d1_327 : decode method_4_code 327 = .ok (.lload_n 2, 1) := by decide +kernel
theorem d1_328 : decode method_4_code 328 = .ok (.bipush 16, 2) := by decide +kernel
theorem d1_330 : decode method_4_code 330 = .ok (.invokestatic 26, 3) := by decide +kernel
theorem d1_333 : decode method_4_code 333 = .ok (.castore, 1) := by decide +kernel
theorem d1_334 : decode method_4_code 334 = .ok (.aload 4, 2) := by decide +kernel
theorem d1_336 : decode method_4_code 336 = .ok (.bipush 32, 2) := by decide +kernel
theorem d1_338 : decode method_4_code 338 = .ok (.lload_n 2, 1) := by decide +kernel
theorem d1_339 : decode method_4_code 339 = .ok (.bipush 12, 2) := by decide +kernel
theorem d1_341 : decode method_4_code 341 = .ok (.invokestatic 26, 3) := by decide +kernel
theorem d1_344 : decode method_4_code 344 = .ok (.castore, 1) := by decide +kernel
theorem d1_345 : decode method_4_code 345 = .ok (.aload 4, 2) := by decide +kernel
theorem d1_347 : decode method_4_code 347 = .ok (.bipush 33, 2) := by decide +kernel
theorem d1_349 : decode method_4_code 349 = .ok (.lload_n 2, 1) := by decide +kernel
theorem d1_350 : decode method_4_code 350 = .ok (.bipush 8, 2) := by decide +kernel
theorem d1_352 : decode method_4_code 352 = .ok (.invokestatic 26, 3) := by decide +kernel
theorem d1_355 : decode method_4_code 355 = .ok (.castore, 1) := by decide +kernel
theorem d1_356 : decode method_4_code 356 = .ok (.aload 4, 2) := by decide +kernel
theorem d1_358 : decode method_4_code 358 = .ok (.bipush 34, 2) := by decide +kernel
theorem d1_360 : decode method_4_code 360 = .ok (.lload_n 2, 1) := by decide +kernel
theorem d1_361 : decode method_4_code 361 = .ok (.iconst 4, 1) := by decide +kernel
theorem d1_362 : decode method_4_code 362 = .ok (.invokestatic 26, 3) := by decide +kernel
theorem d1_365 : decode method_4_code 365 = .ok (.castore, 1) := by decide +kernel
theorem d1_366 : decode method_4_code 366 = .ok (.aload 4, 2) := by decide +kernel
theorem d1_368 : decode method_4_code 368 = .ok (.bipush 35, 2) := by decide +kernel
theorem d1_370 : decode method_4_code 370 = .ok (.lload_n 2, 1) := by decide +kernel
theorem d1_371 : decode method_4_code 371 = .ok (.iconst 0, 1) := by decide +kernel
theorem d1_372 : decode method_4_code 372 = .ok (.invokestatic 26, 3) := by decide +kernel
theorem d1_375 : decode method_4_code 375 = .ok (.castore, 1) := by decide +kernel
theorem d1_376 : decode method_4_code 376 = .ok (.aload 4, 2) := by decide +kernel
theorem d1_378 : decode method_4_code 378 = .ok (.areturn, 1) := by decide +kernel
theorem d3_0 : decode prog_9_method_1_code 0 = .ok (.aload_n 0, 1) := by decide +kernel
theorem d3_1 : decode prog_9_method_1_code 1 = .ok (.invokespecial 1, 3) := by decide +kernel
theorem d3_4 : decode prog_9_method_1_code 4 = .ok (.aload_n 0, 1) := by decide +kernel
theorem d3_5 : decode prog_9_method_1_code 5 = .ok (.sipush 1024, 3) := by decide +kernel
theorem d3_8 : decode prog_9_method_1_code 8 = .ok (.newarray .long, 2) := by decide +kernel
theorem d3_10 : decode prog_9_method_1_code 10 = .ok (.putfield 7, 3) := by decide +kernel
theorem d3_13 : decode prog_9_method_1_code 13 = .ok (.aload_n 0, 1) := by decide +kernel
theorem d3_14 : decode prog_9_method_1_code 14 = .ok (.sipush 1024, 3) := by decide +kernel
theorem d3_17 : decode prog_9_method_1_code 17 = .ok (.newarray .long, 2) := by decide +kernel
theorem d3_19 : decode prog_9_method_1_code 19 = .ok (.putfield 13, 3) := by decide +kernel
theorem d3_22 : decode prog_9_method_1_code 22 = .ok (.aload_n 0, 1) := by decide +kernel
theorem d3_23 : decode prog_9_method_1_code 23 = .ok (.bipush 36, 2) := by decide +kernel
theorem d3_25 : decode prog_9_method_1_code 25 = .ok (.newarray .byte, 2) := by decide +kernel
theorem d3_27 : decode prog_9_method_1_code 27 = .ok (.putfield 16, 3) := by decide +kernel
theorem d3_30 : decode prog_9_method_1_code 30 = .ok (.return_, 1) := by decide +kernel
theorem d5_0 : decode prog_9_method_4_code 0 = .ok (.iload_n 3, 1) := by decide +kernel
theorem d5_1 : decode prog_9_method_4_code 1 = .ok (.bipush 36, 2) := by decide +kernel
theorem d5_3 : decode prog_9_method_4_code 3 = .ok (.if_icmp .ne 7, 3) := by decide +kernel
theorem d5_6 : decode prog_9_method_4_code 6 = .ok (.iconst 1, 1) := by decide +kernel
theorem d5_7 : decode prog_9_method_4_code 7 = .ok (.goto 4, 3) := by decide +kernel
theorem d5_11 : decode prog_9_method_4_code 11 = .ok (.istore 4, 2) := by decide +kernel
theorem d5_13 : decode prog_9_method_4_code 13 = .ok (.iconst 0, 1) := by decide +kernel
theorem d5_14 : decode prog_9_method_4_code 14 = .ok (.istore 5, 2) := by decide +kernel
theorem d5_16 : decode prog_9_method_4_code 16 = .ok (.iload 4, 2) := by decide +kernel
theorem d5_18 : decode prog_9_method_4_code 18 = .ok (.ifCond .eq 32, 3) := by decide +kernel
theorem d5_21 : decode prog_9_method_4_code 21 = .ok (.iload 5, 2) := by decide +kernel
theorem d5_23 : decode prog_9_method_4_code 23 = .ok (.bipush 36, 2) := by decide +kernel
theorem d5_25 : decode prog_9_method_4_code 25 = .ok (.if_icmp .ge 25, 3) := by decide +kernel
theorem d5_28 : decode prog_9_method_4_code 28 = .ok (.aload_n 0, 1) := by decide +kernel
theorem d5_29 : decode prog_9_method_4_code 29 = .ok (.getfield 16, 3) := by decide +kernel
theorem d5_32 : decode prog_9_method_4_code 32 = .ok (.iload 5, 2) := by decide +kernel
theorem d5_34 : decode prog_9_method_4_code 34 = .ok (.aload_n 1, 1) := by decide +kernel
theorem d5_35 : decode prog_9_method_4_code 35 = .ok (.iload_n 2, 1) := by decide +kernel
theorem d5_36 : decode prog_9_method_4_code 36 = .ok (.iload 5, 2) := by decide +kernel
theorem d5_38 : decode prog_9_method_4_code 38 = .ok (.iadd, 1) := by decide +kernel
theorem d5_39 : decode prog_9_method_4_code 39 = .ok (.caload, 1) := by decide +kernel
theorem d5_40 : decode prog_9_method_4_code 40 = .ok (.invokestatic 24, 3) := by decide +kernel
theorem d5_43 : decode prog_9_method_4_code 43 = .ok (.bastore, 1) := by decide +kernel
theorem d5_44 : decode prog_9_method_4_code 44 = .ok (.iinc 5 1, 3) := by decide +kernel
theorem d5_47 : decode prog_9_method_4_code 47 = .ok (.goto (-31), 3) := by decide +kernel
theorem d5_50 : decode prog_9_method_4_code 50 = .ok (.iload 4, 2) := by decide +kernel
theorem d5_52 : decode prog_9_method_4_code 52 = .ok (.ifCond .eq 10, 3) := by decide +kernel
theorem d5_55 : decode prog_9_method_4_code 55 = .ok (.aload_n 0, 1) := by decide +kernel
theorem d5_56 : decode prog_9_method_4_code 56 = .ok (.invokevirtual 28, 3) := by decide +kernel
theorem d5_59 : decode prog_9_method_4_code 59 = .ok (.ifCond .ne 17, 3) := by decide +kernel
theorem d5_76 : decode prog_9_method_4_code 76 = .ok (.return_, 1) := by decide +kernel
theorem d6_0 : decode prog_9_method_7_code 0 = .ok (.iload_n 0, 1) := by decide +kernel
theorem d6_1 : decode prog_9_method_7_code 1 = .ok (.sipush 128, 3) := by decide +kernel
theorem d6_4 : decode prog_9_method_7_code 4 = .ok (.if_icmp .ge 20, 3) := by decide +kernel
theorem d6_7 : decode prog_9_method_7_code 7 = .ok (.iload_n 0, 1) := by decide +kernel
theorem d6_8 : decode prog_9_method_7_code 8 = .ok (.bipush 65, 2) := by decide +kernel
theorem d6_10 : decode prog_9_method_7_code 10 = .ok (.if_icmp .lt 9, 3) := by decide +kernel
theorem d6_13 : decode prog_9_method_7_code 13 = .ok (.iload_n 0, 1) := by decide +kernel
theorem d6_14 : decode prog_9_method_7_code 14 = .ok (.bipush 90, 2) := by decide +kernel
theorem d6_16 : decode prog_9_method_7_code 16 = .ok (.if_icmp .le 8, 3) := by decide +kernel
theorem d6_19 : decode prog_9_method_7_code 19 = .ok (.iload_n 0, 1) := by decide +kernel
theorem d6_20 : decode prog_9_method_7_code 20 = .ok (.i2b, 1) := by decide +kernel
theorem d6_21 : decode prog_9_method_7_code 21 = .ok (.goto 4, 3) := by decide +kernel
theorem d6_25 : decode prog_9_method_7_code 25 = .ok (.ireturn, 1) := by decide +kernel
theorem d7_0 : decode prog_9_method_6_code 0 = .ok (.aload_n 0, 1) := by decide +kernel
theorem d7_1 : decode prog_9_method_6_code 1 = .ok (.getfield 16, 3) := by decide +kernel
theorem d7_4 : decode prog_9_method_6_code 4 = .ok (.iconst 0, 1) := by decide +kernel
theorem d7_5 : decode prog_9_method_6_code 5 = .ok (.bipush 36, 2) := by decide +kernel
theorem d7_7 : decode prog_9_method_6_code 7 = .ok (.invokestatic 49, 3) := by decide +kernel
theorem d7_10 : decode prog_9_method_6_code 10 = .ok (.astore_n 1, 1) := by decide +kernel
theorem d7_11 : decode prog_9_method_6_code 11 = .ok (.goto 6, 3) := by decide +kernel
theorem d7_17 : decode prog_9_method_6_code 17 = .ok (.aload_n 0, 1) := by decide +kernel
theorem d7_18 : decode prog_9_method_6_code 18 = .ok (.getfield 20, 3) := by decide +kernel
theorem d7_21 : decode prog_9_method_6_code 21 = .ok (.aload_n 0, 1) := by decide +kernel
theorem d7_22 : decode prog_9_method_6_code 22 = .ok (.getfield 7, 3) := by decide +kernel
theorem d7_25 : decode prog_9_method_6_code 25 = .ok (.arraylength, 1) := by decide +kernel
theorem d7_26 : decode prog_9_method_6_code 26 = .ok (.if_icmp .ne 37, 3) := by decide +kernel
theorem d7_63 : decode prog_9_method_6_code 63 = .ok (.aload_n 0, 1) := by decide +kernel
theorem d7_64 : decode prog_9_method_6_code 64 = .ok (.getfield 7, 3) := by decide +kernel
theorem d7_67 : decode prog_9_method_6_code 67 = .ok (.aload_n 0, 1) := by decide +kernel
theorem d7_68 : decode prog_9_method_6_code 68 = .ok (.getfield 20, 3) := by decide +kernel
theorem d7_71 : decode prog_9_method_6_code 71 = .ok (.aload_n 1, 1) := by decide +kernel
theorem d7_72 : decode prog_9_method_6_code 72 = .ok (.invokevirtual 63, 3) := by decide +kernel
theorem d7_75 : decode prog_9_method_6_code 75 = .ok (.lastore, 1) := by decide +kernel
theorem d7_76 : decode prog_9_method_6_code 76 = .ok (.aload_n 0, 1) := by decide +kernel
theorem d7_77 : decode prog_9_method_6_code 77 = .ok (.getfield 13, 3) := by decide +kernel
theorem d7_80 : decode prog_9_method_6_code 80 = .ok (.aload_n 0, 1) := by decide +kernel
theorem d7_81 : decode prog_9_method_6_code 81 = .ok (.getfield 20, 3) := by decide +kernel
theorem d7_84 : decode prog_9_method_6_code 84 = .ok (.aload_n 1, 1) := by decide +kernel
theorem d7_85 : decode prog_9_method_6_code 85 = .ok (.invokevirtual 69, 3) := by decide +kernel
theorem d7_88 : decode prog_9_method_6_code 88 = .ok (.lastore, 1) := by decide +kernel
theorem d7_89 : decode prog_9_method_6_code 89 = .ok (.aload_n 0, 1) := by decide +kernel
theorem d7_90 : decode prog_9_method_6_code 90 = .ok (.dup, 1) := by decide +kernel
theorem d7_91 : decode prog_9_method_6_code 91 = .ok (.getfield 20, 3) := by decide +kernel
theorem d7_94 : decode prog_9_method_6_code 94 = .ok (.iconst 1, 1) := by decide +kernel
theorem d7_95 : decode prog_9_method_6_code 95 = .ok (.iadd, 1) := by decide +kernel
theorem d7_96 : decode prog_9_method_6_code 96 = .ok (.putfield 20, 3) := by decide +kernel
theorem d7_99 : decode prog_9_method_6_code 99 = .ok (.iconst 1, 1) := by decide +kernel
theorem d7_100 : decode prog_9_method_6_code 100 = .ok (.ireturn, 1) := by decide +kernel
theorem d8_0 : decode prog_38_method_3_code 0 = .ok (.iload_n 2, 1) := by decide +kernel
theorem d8_1 : decode prog_38_method_3_code 1 = .ok (.bipush 36, 2) := by decide +kernel
theorem d8_3 : decode prog_38_method_3_code 3 = .ok (.if_icmp .ne 11, 3) := by decide +kernel
theorem d8_6 : decode prog_38_method_3_code 6 = .ok (.aload_n 0, 1) := by decide +kernel
theorem d8_7 : decode prog_38_method_3_code 7 = .ok (.iload_n 1, 1) := by decide +kernel
theorem d8_8 : decode prog_38_method_3_code 8 = .ok (.invokestatic 25, 3) := by decide +kernel
theorem d8_11 : decode prog_38_method_3_code 11 = .ok (.goto 4, 3) := by decide +kernel
theorem d8_15 : decode prog_38_method_3_code 15 = .ok (.astore_n 3, 1) := by decide +kernel
theorem d8_16 : decode prog_38_method_3_code 16 = .ok (.aload_n 3, 1) := by decide +kernel
theorem d8_17 : decode prog_38_method_3_code 17 = .ok (.ifnonnull 20, 3) := by decide +kernel
theorem d8_37 : decode prog_38_method_3_code 37 = .ok (.aload_n 3, 1) := by decide +kernel
theorem d8_38 : decode prog_38_method_3_code 38 = .ok (.areturn, 1) := by decide +kernel
theorem d9_0 : decode prog_38_method_4_code 0 = .ok (.aconst_null, 1) := by decide +kernel
theorem d9_1 : decode prog_38_method_4_code 1 = .ok (.astore_n 2, 1) := by decide +kernel
theorem d9_2 : decode prog_38_method_4_code 2 = .ok (.aload_n 0, 1) := by decide +kernel
theorem d9_3 : decode prog_38_method_4_code 3 = .ok (.iload_n 1, 1) := by decide +kernel
theorem d9_4 : decode prog_38_method_4_code 4 = .ok (.bipush 8, 2) := by decide +kernel
theorem d9_6 : decode prog_38_method_4_code 6 = .ok (.iadd, 1) := by decide +kernel
theorem d9_7 : decode prog_38_method_4_code 7 = .ok (.baload, 1) := by decide +kernel
theorem d9_8 : decode prog_38_method_4_code 8 = .ok (.bipush 45, 2) := by decide +kernel
theorem d9_10 : decode prog_38_method_4_code 10 = .ok (.if_icmp .ne 149, 3) := by decide +kernel
theorem d9_13 : decode prog_38_method_4_code 13 = .ok (.aload_n 0, 1) := by decide +kernel
theorem d9_14 : decode prog_38_method_4_code 14 = .ok (.iload_n 1, 1) := by decide +kernel
theorem d9_15 : decode prog_38_method_4_code 15 = .ok (.bipush 13, 2) := by decide +kernel
theorem d9_17 : decode prog_38_method_4_code 17 = .ok (.iadd, 1) := by decide +kernel
theorem d9_18 : decode prog_38_method_4_code 18 = .ok (.baload, 1) := by decide +kernel
theorem d9_19 : decode prog_38_method_4_code 19 = .ok (.bipush 45, 2) := by decide +kernel
theorem d9_21 : decode prog_38_method_4_code 21 = .ok (.if_icmp .ne 138, 3) := by decide +kernel
theorem d9_24 : decode prog_38_method_4_code 24 = .ok (.aload_n 0, 1) := by decide +kernel
theorem d9_25 : decode prog_38_method_4_code 25 = .ok (.iload_n 1, 1) := by decide +kernel
theorem d9_26 : decode prog_38_method_4_code 26 = .ok (.bipush 18, 2) := by decide +kernel
theorem d9_28 : decode prog_38_method_4_code 28 = .ok (.iadd, 1) := by decide +kernel
theorem d9_29 : decode prog_38_method_4_code 29 = .ok (.baload, 1) := by decide +kernel
theorem d9_30 : decode prog_38_method_4_code 30 = .ok (.bipush 45, 2) := by decide +kernel
theorem d9_32 : decode prog_38_method_4_code 32 = .ok (.if_icmp .ne 127, 3) := by decide +kernel
theorem d9_35 : decode prog_38_method_4_code 35 = .ok (.aload_n 0, 1) := by decide +kernel
theorem d9_36 : decode prog_38_method_4_code 36 = .ok (.iload_n 1, 1) := by decide +kernel
theorem d9_37 : decode prog_38_method_4_code 37 = .ok (.bipush 23, 2) := by decide +kernel
theorem d9_39 : decode prog_38_method_4_code 39 = .ok (.iadd, 1) := by decide +kernel
theorem d9_40 : decode prog_38_method_4_code 40 = .ok (.baload, 1) := by decide +kernel
theorem d9_41 : decode prog_38_method_4_code 41 = .ok (.bipush 45, 2) := by decide +kernel
theorem d9_43 : decode prog_38_method_4_code 43 = .ok (.if_icmp .ne 116, 3) := by decide +kernel
theorem d9_46 : decode prog_38_method_4_code 46 = .ok (.aload_n 0, 1) := by decide +kernel
theorem d9_47 : decode prog_38_method_4_code 47 = .ok (.iload_n 1, 1) := by decide +kernel
theorem d9_48 : decode prog_38_method_4_code 48 = .ok (.iload_n 1, 1) := by decide +kernel
theorem d9_49 : decode prog_38_method_4_code 49 = .ok (.bipush 8, 2) := by decide +kernel
theorem d9_51 : decode prog_38_method_4_code 51 = .ok (.iadd, 1) := by decide +kernel
theorem d9_52 : decode prog_38_method_4_code 52 = .ok (.invokestatic 36, 3) := by decide +kernel
theorem d9_55 : decode prog_38_method_4_code 55 = .ok (.lstore_n 3, 1) := by decide +kernel
theorem d9_56 : decode prog_38_method_4_code 56 = .ok (.aload_n 0, 1) := by decide +kernel
theorem d9_57 : decode prog_38_method_4_code 57 = .ok (.iload_n 1, 1) := by decide +kernel
theorem d9_58 : decode prog_38_method_4_code 58 = .ok (.bipush 9, 2) := by decide +kernel
theorem d9_60 : decode prog_38_method_4_code 60 = .ok (.iadd, 1) := by decide +kernel
theorem d9_61 : decode prog_38_method_4_code 61 = .ok (.iload_n 1, 1) := by decide +kernel
theorem d9_62 : decode prog_38_method_4_code 62 = .ok (.bipush 13, 2) := by decide +kernel
theorem d9_64 : decode prog_38_method_4_code 64 = .ok (.iadd, 1) := by decide +kernel
theorem d9_65 : decode prog_38_method_4_code 65 = .ok (.invokestatic 36, 3) := by decide +kernel
theorem d9_68 : decode prog_38_method_4_code 68 = .ok (.lstore 5, 2) := by decide +kernel
theorem d9_70 : decode prog_38_method_4_code 70 = .ok (.aload_n 0, 1) := by decide +kernel
theorem d9_71 : decode prog_38_method_4_code 71 = .ok (.iload_n 1, 1) := by decide +kernel
theorem d9_72 : decode prog_38_method_4_code 72 = .ok (.bipush 14, 2) := by decide +kernel
theorem d9_74 : decode prog_38_method_4_code 74 = .ok (.iadd, 1) := by decide +kernel
theorem d9_75 : decode prog_38_method_4_code 75 = .ok (.iload_n 1, 1) := by decide +kernel
theorem d9_76 : decode prog_38_method_4_code 76 = .ok (.bipush 18, 2) := by decide +kernel
theorem d9_78 : decode prog_38_method_4_code 78 = .ok (.iadd, 1) := by decide +kernel
theorem d9_79 : decode prog_38_method_4_code 79 = .ok (.invokestatic 36, 3) := by decide +kernel
theorem d9_82 : decode prog_38_method_4_code 82 = .ok (.lstore 7, 2) := by decide +kernel
theorem d9_84 : decode prog_38_method_4_code 84 = .ok (.aload_n 0, 1) := by decide +kernel
theorem d9_85 : decode prog_38_method_4_code 85 = .ok (.iload_n 1, 1) := by decide +kernel
theorem d9_86 : decode prog_38_method_4_code 86 = .ok (.bipush 19, 2) := by decide +kernel
theorem d9_88 : decode prog_38_method_4_code 88 = .ok (.iadd, 1) := by decide +kernel
theorem d9_89 : decode prog_38_method_4_code 89 = .ok (.iload_n 1, 1) := by decide +kernel
theorem d9_90 : decode prog_38_method_4_code 90 = .ok (.bipush 23, 2) := by decide +kernel
theorem d9_92 : decode prog_38_method_4_code 92 = .ok (.iadd, 1) := by decide +kernel
theorem d9_93 : decode prog_38_method_4_code 93 = .ok (.invokestatic 36, 3) := by decide +kernel
theorem d9_96 : decode prog_38_method_4_code 96 = .ok (.lstore 9, 2) := by decide +kernel
theorem d9_98 : decode prog_38_method_4_code 98 = .ok (.aload_n 0, 1) := by decide +kernel
theorem d9_99 : decode prog_38_method_4_code 99 = .ok (.iload_n 1, 1) := by decide +kernel
theorem d9_100 : decode prog_38_method_4_code 100 = .ok (.bipush 24, 2) := by decide +kernel
theorem d9_102 : decode prog_38_method_4_code 102 = .ok (.iadd, 1) := by decide +kernel
theorem d9_103 : decode prog_38_method_4_code 103 = .ok (.iload_n 1, 1) := by decide +kernel
theorem d9_104 : decode prog_38_method_4_code 104 = .ok (.bipush 36, 2) := by decide +kernel
theorem d9_106 : decode prog_38_method_4_code 106 = .ok (.iadd, 1) := by decide +kernel
theorem d9_107 : decode prog_38_method_4_code 107 = .ok (.invokestatic 36, 3) := by decide +kernel
theorem d9_110 : decode prog_38_method_4_code 110 = .ok (.lstore 11, 2) := by decide +kernel
theorem d9_112 : decode prog_38_method_4_code 112 = .ok (.lload_n 3, 1) := by decide +kernel
theorem d9_113 : decode prog_38_method_4_code 113 = .ok (.lload 5, 2) := by decide +kernel
theorem d9_115 : decode prog_38_method_4_code 115 = .ok (.lor, 1) := by decide +kernel
theorem d9_116 : decode prog_38_method_4_code 116 = .ok (.lload 7, 2) := by decide +kernel
theorem d9_118 : decode prog_38_method_4_code 118 = .ok (.lor, 1) := by decide +kernel
theorem d9_119 : decode prog_38_method_4_code 119 = .ok (.lload 9, 2) := by decide +kernel
theorem d9_121 : decode prog_38_method_4_code 121 = .ok (.lor, 1) := by decide +kernel
theorem d9_122 : decode prog_38_method_4_code 122 = .ok (.lload 11, 2) := by decide +kernel
theorem d9_124 : decode prog_38_method_4_code 124 = .ok (.lor, 1) := by decide +kernel
theorem d9_125 : decode prog_38_method_4_code 125 = .ok (.lconst 0, 1) := by decide +kernel
theorem d9_126 : decode prog_38_method_4_code 126 = .ok (.lcmp, 1) := by decide +kernel
theorem d9_127 : decode prog_38_method_4_code 127 = .ok (.ifCond .lt 32, 3) := by decide +kernel
theorem d9_130 : decode prog_38_method_4_code 130 = .ok (.new 40, 3) := by decide +kernel
theorem d9_133 : decode prog_38_method_4_code 133 = .ok (.dup, 1) := by decide +kernel
theorem d9_134 : decode prog_38_method_4_code 134 = .ok (.lload_n 3, 1) := by decide +kernel
theorem d9_135 : decode prog_38_method_4_code 135 = .ok (.bipush 32, 2) := by decide +kernel
theorem d9_137 : decode prog_38_method_4_code 137 = .ok (.lshl, 1) := by decide +kernel
theorem d9_138 : decode prog_38_method_4_code 138 = .ok (.lload 5, 2) := by decide +kernel
theorem d9_140 : decode prog_38_method_4_code 140 = .ok (.bipush 16, 2) := by decide +kernel
theorem d9_142 : decode prog_38_method_4_code 142 = .ok (.lshl, 1) := by decide +kernel
theorem d9_143 : decode prog_38_method_4_code 143 = .ok (.lor, 1) := by decide +kernel
theorem d9_144 : decode prog_38_method_4_code 144 = .ok (.lload 7, 2) := by decide +kernel
theorem d9_146 : decode prog_38_method_4_code 146 = .ok (.lor, 1) := by decide +kernel
theorem d9_147 : decode prog_38_method_4_code 147 = .ok (.lload 9, 2) := by decide +kernel
theorem d9_149 : decode prog_38_method_4_code 149 = .ok (.bipush 48, 2) := by decide +kernel
theorem d9_151 : decode prog_38_method_4_code 151 = .ok (.lshl, 1) := by decide +kernel
theorem d9_152 : decode prog_38_method_4_code 152 = .ok (.lload 11, 2) := by decide +kernel
theorem d9_154 : decode prog_38_method_4_code 154 = .ok (.lor, 1) := by decide +kernel
theorem d9_155 : decode prog_38_method_4_code 155 = .ok (.invokespecial 42, 3) := by decide +kernel
theorem d9_158 : decode prog_38_method_4_code 158 = .ok (.astore_n 2, 1) := by decide +kernel
theorem d9_159 : decode prog_38_method_4_code 159 = .ok (.aload_n 2, 1) := by decide +kernel
theorem d9_160 : decode prog_38_method_4_code 160 = .ok (.areturn, 1) := by decide +kernel
theorem d10_0 : decode prog_38_method_7_code 0 = .ok (.lconst 0, 1) := by decide +kernel
theorem d10_1 : decode prog_38_method_7_code 1 = .ok (.lstore_n 3, 1) := by decide +kernel
theorem d10_2 : decode prog_38_method_7_code 2 = .ok (.iload_n 1, 1) := by decide +kernel
theorem d10_3 : decode prog_38_method_7_code 3 = .ok (.istore 5, 2) := by decide +kernel
theorem d10_5 : decode prog_38_method_7_code 5 = .ok (.iload 5, 2) := by decide +kernel
theorem d10_7 : decode prog_38_method_7_code 7 = .ok (.iload_n 2, 1) := by decide +kernel
theorem d10_8 : decode prog_38_method_7_code 8 = .ok (.if_icmp .ge 57, 3) := by decide +kernel
theorem d10_11 : decode prog_38_method_7_code 11 = .ok (.aload_n 0, 1) := by decide +kernel
theorem d10_12 : decode prog_38_method_7_code 12 = .ok (.iload 5, 2) := by decide +kernel
theorem d10_14 : decode prog_38_method_7_code 14 = .ok (.baload, 1) := by decide +kernel
theorem d10_15 : decode prog_38_method_7_code 15 = .ok (.sipush 255, 3) := by decide +kernel
theorem d10_18 : decode prog_38_method_7_code 18 = .ok (.iand, 1) := by decide +kernel
theorem d10_19 : decode prog_38_method_7_code 19 = .ok (.istore 6, 2) := by decide +kernel
theorem d10_21 : decode prog_38_method_7_code 21 = .ok (.iload 6, 2) := by decide +kernel
theorem d10_23 : decode prog_38_method_7_code 23 = .ok (.getstatic 119, 3) := by decide +kernel
theorem d10_26 : decode prog_38_method_7_code 26 = .ok (.arraylength, 1) := by decide +kernel
theorem d10_27 : decode prog_38_method_7_code 27 = .ok (.if_icmp .ge 12, 3) := by decide +kernel
theorem d10_30 : decode prog_38_method_7_code 30 = .ok (.getstatic 119, 3) := by decide +kernel
theorem d10_33 : decode prog_38_method_7_code 33 = .ok (.iload 6, 2) := by decide +kernel
theorem d10_35 : decode prog_38_method_7_code 35 = .ok (.baload, 1) := by decide +kernel
theorem d10_36 : decode prog_38_method_7_code 36 = .ok (.goto 4, 3) := by decide +kernel
theorem d10_40 : decode prog_38_method_7_code 40 = .ok (.istore 7, 2) := by decide +kernel
theorem d10_42 : decode prog_38_method_7_code 42 = .ok (.iload 7, 2) := by decide +kernel
theorem d10_44 : decode prog_38_method_7_code 44 = .ok (.ifCond .ge 7, 3) := by decide +kernel
theorem d10_51 : decode prog_38_method_7_code 51 = .ok (.lload_n 3, 1) := by decide +kernel
theorem d10_52 : decode prog_38_method_7_code 52 = .ok (.iconst 4, 1) := by decide +kernel
theorem d10_53 : decode prog_38_method_7_code 53 = .ok (.lshl, 1) := by decide +kernel
theorem d10_54 : decode prog_38_method_7_code 54 = .ok (.iload 7, 2) := by decide +kernel
theorem d10_56 : decode prog_38_method_7_code 56 = .ok (.i2l, 1) := by decide +kernel
theorem d10_57 : decode prog_38_method_7_code 57 = .ok (.lor, 1) := by decide +kernel
theorem d10_58 : decode prog_38_method_7_code 58 = .ok (.lstore_n 3, 1) := by decide +kernel
theorem d10_59 : decode prog_38_method_7_code 59 = .ok (.iinc 5 1, 3) := by decide +kernel
theorem d10_62 : decode prog_38_method_7_code 62 = .ok (.goto (-57), 3) := by decide +kernel
theorem d10_65 : decode prog_38_method_7_code 65 = .ok (.lload_n 3, 1) := by decide +kernel
theorem d10_66 : decode prog_38_method_7_code 66 = .ok (.lreturn, 1) := by decide +kernel
theorem d11_0 : decode jdk_2758_method_2_code 0 = .ok (.aload_n 0, 1) := by decide +kernel
theorem d11_1 : decode jdk_2758_method_2_code 1 = .ok (.invokespecial 1, 3) := by decide +kernel
theorem d11_4 : decode jdk_2758_method_2_code 4 = .ok (.aload_n 0, 1) := by decide +kernel
theorem d11_5 : decode jdk_2758_method_2_code 5 = .ok (.lload_n 1, 1) := by decide +kernel
theorem d11_6 : decode jdk_2758_method_2_code 6 = .ok (.putfield 20, 3) := by decide +kernel
theorem d11_9 : decode jdk_2758_method_2_code 9 = .ok (.aload_n 0, 1) := by decide +kernel
theorem d11_10 : decode jdk_2758_method_2_code 10 = .ok (.lload_n 3, 1) := by decide +kernel
theorem d11_11 : decode jdk_2758_method_2_code 11 = .ok (.putfield 24, 3) := by decide +kernel
theorem d11_14 : decode jdk_2758_method_2_code 14 = .ok (.return_, 1) := by decide +kernel
theorem d12_0 : decode jdk_2758_method_9_code 0 = .ok (.aload_n 0, 1) := by decide +kernel
theorem d12_1 : decode jdk_2758_method_9_code 1 = .ok (.getfield 20, 3) := by decide +kernel
theorem d12_4 : decode jdk_2758_method_9_code 4 = .ok (.lreturn, 1) := by decide +kernel
theorem d13_0 : decode jdk_2758_method_8_code 0 = .ok (.aload_n 0, 1) := by decide +kernel
theorem d13_1 : decode jdk_2758_method_8_code 1 = .ok (.getfield 24, 3) := by decide +kernel
theorem d13_4 : decode jdk_2758_method_8_code 4 = .ok (.lreturn, 1) := by decide +kernel
theorem d14_0 : decode prog_9_method_9_code 0 = .ok (.aload_n 0, 1) := by decide +kernel
theorem d14_1 : decode prog_9_method_9_code 1 = .ok (.getfield 7, 3) := by decide +kernel
theorem d14_4 : decode prog_9_method_9_code 4 = .ok (.iload_n 1, 1) := by decide +kernel
theorem d14_5 : decode prog_9_method_9_code 5 = .ok (.laload, 1) := by decide +kernel
theorem d14_6 : decode prog_9_method_9_code 6 = .ok (.aload_n 2, 1) := by decide +kernel
theorem d14_7 : decode prog_9_method_9_code 7 = .ok (.getfield 7, 3) := by decide +kernel
theorem d14_10 : decode prog_9_method_9_code 10 = .ok (.iload_n 1, 1) := by decide +kernel
theorem d14_11 : decode prog_9_method_9_code 11 = .ok (.laload, 1) := by decide +kernel
theorem d14_12 : decode prog_9_method_9_code 12 = .ok (.lcmp, 1) := by decide +kernel
theorem d14_13 : decode prog_9_method_9_code 13 = .ok (.ifCond .ne 23, 3) := by decide +kernel
theorem d14_16 : decode prog_9_method_9_code 16 = .ok (.aload_n 0, 1) := by decide +kernel
theorem d14_17 : decode prog_9_method_9_code 17 = .ok (.getfield 13, 3) := by decide +kernel
theorem d14_20 : decode prog_9_method_9_code 20 = .ok (.iload_n 1, 1) := by decide +kernel
theorem d14_21 : decode prog_9_method_9_code 21 = .ok (.laload, 1) := by decide +kernel
theorem d14_22 : decode prog_9_method_9_code 22 = .ok (.aload_n 2, 1) := by decide +kernel
theorem d14_23 : decode prog_9_method_9_code 23 = .ok (.getfield 13, 3) := by decide +kernel
theorem d14_26 : decode prog_9_method_9_code 26 = .ok (.iload_n 1, 1) := by decide +kernel
theorem d14_27 : decode prog_9_method_9_code 27 = .ok (.laload, 1) := by decide +kernel
theorem d14_28 : decode prog_9_method_9_code 28 = .ok (.lcmp, 1) := by decide +kernel
theorem d14_29 : decode prog_9_method_9_code 29 = .ok (.ifCond .ne 7, 3) := by decide +kernel
theorem d14_32 : decode prog_9_method_9_code 32 = .ok (.iconst 1, 1) := by decide +kernel
theorem d14_33 : decode prog_9_method_9_code 33 = .ok (.goto 4, 3) := by decide +kernel
theorem d14_36 : decode prog_9_method_9_code 36 = .ok (.iconst 0, 1) := by decide +kernel
theorem d14_37 : decode prog_9_method_9_code 37 = .ok (.ireturn, 1) := by decide +kernel
theorem ef2 (m : MethodId) (x0 : Int64) (x1 : Int32) : entryFrame m #[(.long x0), (.int x1)] 4 = mkF m 0 #[.val (.long x0), .second, .val (.int x1), .unset] [] := by first | (simp [entryFrame, mkF, argsToLocals, Value.category]; done) | rfl
theorem ef1 (m : MethodId) (x0 : Int64) (x1 : Int64) : entryFrame m #[(.long x0), (.long x1)] 5 = mkF m 0 #[.val (.long x0), .second, .val (.long x1), .second, .unset] [] := by first | (simp [entryFrame, mkF, argsToLocals, Value.category]; done) | rfl
theorem ef3 (m : MethodId) (x0 : Addr) : entryFrame m #[(.ref x0)] 1 = mkF m 0 #[.val (.ref x0)] [] := by first | (simp [entryFrame, mkF, argsToLocals, Value.category]; done) | rfl
theorem ef5 (m : MethodId) (x0 : Addr) (x1 : Addr) (x2 : Int32) (x3 : Int32) : entryFrame m #[(.ref x0), (.ref x1), (.int x2), (.int x3)] 6 = mkF m 0 #[.val (.ref x0), .val (.ref x1), .val (.int x2), .val (.int x3), .unset, .unset] [] := by first | (simp [entryFrame, mkF, argsToLocals, Value.category]; done) | rfl
theorem ef6 (m : MethodId) (x0 : Int32) : entryFrame m #[(.int x0)] 1 = mkF m 0 #[.val (.int x0)] [] := by first | (simp [entryFrame, mkF, argsToLocals, Value.category]; done) | rfl
theorem ef7 (m : MethodId) (x0 : Addr) : entryFrame m #[(.ref x0)] 3 = mkF m 0 #[.val (.ref x0), .unset, .unset] [] := by first | (simp [entryFrame, mkF, argsToLocals, Value.category]; done) | rfl
theorem ef8 (m : MethodId) (x0 : Addr) (x1 : Int32) (x2 : Int32) : entryFrame m #[(.ref x0), (.int x1), (.int x2)] 4 = mkF m 0 #[.val (.ref x0), .val (.int x1), .val (.int x2), .unset] [] := by first | (simp [entryFrame, mkF, argsToLocals, Value.category]; done) | rfl
theorem ef9 (m : MethodId) (x0 : Addr) (x1 : Int32) : entryFrame m #[(.ref x0), (.int x1)] 13 = mkF m 0 #[.val (.ref x0), .val (.int x1), .unset, .unset, .unset, .unset, .unset, .unset, .unset, .unset, .unset, .unset, .unset] [] := by first | (simp [entryFrame, mkF, argsToLocals, Value.category]; done) | rfl
theorem ef10 (m : MethodId) (x0 : Addr) (x1 : Int32) (x2 : Int32) : entryFrame m #[(.ref x0), (.int x1), (.int x2)] 8 = mkF m 0 #[.val (.ref x0), .val (.int x1), .val (.int x2), .unset, .unset, .unset, .unset, .unset] [] := by first | (simp [entryFrame, mkF, argsToLocals, Value.category]; done) | rfl
theorem ef11 (m : MethodId) (x0 : Addr) (x1 : Int64) (x2 : Int64) : entryFrame m #[(.ref x0), (.long x1), (.long x2)] 5 = mkF m 0 #[.val (.ref x0), .val (.long x1), .second, .val (.long x2), .second] [] := by first | (simp [entryFrame, mkF, argsToLocals, Value.category]; done) | rfl
theorem ef12 (m : MethodId) (x0 : Addr) : entryFrame m #[(.ref x0)] 1 = mkF m 0 #[.val (.ref x0)] [] := by first | (simp [entryFrame, mkF, argsToLocals, Value.category]; done) | rfl
theorem ef13 (m : MethodId) (x0 : Addr) : entryFrame m #[(.ref x0)] 1 = mkF m 0 #[.val (.ref x0)] [] := by first | (simp [entryFrame, mkF, argsToLocals, Value.category]; done) | rfl
theorem ef14 (m : MethodId) (x0 : Addr) (x1 : Int32) (x2 : Addr) : entryFrame m #[(.ref x0), (.int x1), (.ref x2)] 3 = mkF m 0 #[.val (.ref x0), .val (.int x1), .val (.ref x2)] [] := by first | (simp [entryFrame, mkF, argsToLocals, Value.category]; done) | rfl
theorem ef0 (m : MethodId) (x0 : Int64) (x1 : Int64) (x2 : Int64) (x3 : Int64) (x4 : Int32) (x5 : Int32) : entryFrame m #[(.long x0), (.long x1), (.long x2), (.long x3), (.int x4), (.int x5)] maxLocals = mkF m 0 #[.val (.long x0), .second, .val (.long x1), .second, .val (.long x2), .second, .val (.long x3), .second, .val (.int x4), .val (.int x5), .unset, .unset, .unset, .unset, .unset, .unset, .unset, .unset, .unset, .unset, .unset, .unset, .unset, .unset, .unset, .unset, .unset, .unset] [] := by first | (simp [entryFrame, mkF, argsToLocals, Value.category, maxLocals]; done) | rfl
def rm2 : Room := { frames := 0, cells := 0, slots := 0, locals := 0 }
def rm1 : Room := { frames := 1, cells := 1, slots := 36, locals := 40 }
def rm3 : Room := { frames := 1, cells := 3, slots := 2084, locals := 20 }
def rm5 : Room := { frames := 5, cells := 1, slots := 2, locals := 90 }
def rm6 : Room := { frames := 0, cells := 0, slots := 0, locals := 0 }
def rm7 : Room := { frames := 4, cells := 1, slots := 2, locals := 70 }
def rm8 : Room := { frames := 3, cells := 1, slots := 2, locals := 54 }
def rm9 : Room := { frames := 2, cells := 1, slots := 2, locals := 30 }
def rm10 : Room := { frames := 0, cells := 0, slots := 0, locals := 0 }
def rm11 : Room := { frames := 1, cells := 0, slots := 0, locals := 12 }
def rm12 : Room := { frames := 0, cells := 0, slots := 0, locals := 0 }
def rm13 : Room := { frames := 0, cells := 0, slots := 0, locals := 0 }
def rm14 : Room := { frames := 0, cells := 0, slots := 0, locals := 0 }
set_option maxRecDepth 65536 in
set_option maxHeartbeats 40000000 in
theorem con2 (G : Gx) (hw : ∀ d ∈ tables_1, d.before G.a0 G.Z = true) (v : Int64) (sh : Int32) (d : Nat) (h : Heap) (hd0 : (own_d v sh).toInt = (d : Nat)) (h16 : d < 16) :
    Con G (⟨"com/example/grantgraph/grantgraph/bench/IdsSameAtPinLaw", "hex", "(JI)C"⟩ : MethodName) method_3_code 4 (some .char) rm2 #[(.long v), (.int sh)] h (fun v h' => ∃ c : Int32, v = some (.int c) ∧ h = h' ∧ c.toInt = own_cc d) := by
  refine Con.of (W := tables_1) (plainFor_of_name pn2) hw (fun mm => ef2 mm v sh) (fun K C => ?_)
  have C : Cx G K "com/example/grantgraph/grantgraph/bench/IdsSameAtPinLaw" "hex" method_3_code 4 (some .char) tables_1 := C
  generalize hQ : (fun v h' => ∃ c : Int32, v = some (.int c) ∧ h = h' ∧ c.toInt = own_cc d : Option Value → Heap → Prop) = Q
  have hd : (((v.toUInt64 >>> (sh &&& 0x3f).toInt64.toUInt64).toInt64 &&& (15 : Int64)).toInt32).toInt = (d : Nat) := hd0
  refine N.lloadN C (pc' := 1) d2_0 rfl rfl ?_
  refine N.iloadN C (pc' := 2) d2_1 rfl rfl ?_
  refine N.lushr C (pc' := 3) d2_2 rfl ?_
  refine N.ldcL C (pc' := 6) (v := 15) d2_3 (C.w (i := 8) rfl) rfl ?_
  refine N.land C (pc' := 7) d2_6 rfl ?_
  refine N.l2i C (pc' := 8) d2_7 rfl ?_
  generalize hd_dd : ((((v.toUInt64 >>> (sh &&& 0x3f).toInt64.toUInt64).toInt64) &&& (15 : Int64)).toInt32) = dd at *
  refine N.istoreN C (pc' := 9) (ls' := #[.val (.long v), .second, .val (.int sh), .val (.int dd)]) d2_8 rfl rfl ?_
  refine N.iloadN C (pc' := 10) d2_9 rfl rfl ?_
  refine N.bipush C (pc' := 12) (z := 10) d2_10 rfl rfl ?_
  refine N.icmp C (pt := 22) (pf := 15) d2_12 rfl rfl (fun (hc12 : 10 ≤ dd.toInt) => ?_) (fun (hc12 : dd.toInt < 10) => ?_)
  · refine N.bipush C (pc' := 24) (z := 97) d2_22 rfl rfl ?_
    refine N.iloadN C (pc' := 25) d2_24 rfl rfl ?_
    refine N.bipush C (pc' := 27) (z := 10) d2_25 rfl rfl ?_
    refine N.isub C (pc' := 28) d2_27 rfl ?_
    refine N.iadd C (pc' := 29) d2_28 rfl ?_
    refine N.i2c C (pc' := 30) d2_29 rfl ?_
    exact N.retN C (by simp) rfl d2_30 (by decide) (by decide) (by subst hQ; exact ⟨_, rfl, rfl, own_cb hd hc12 h16⟩)
  · refine N.bipush C (pc' := 17) (z := 48) d2_15 rfl rfl ?_
    refine N.iloadN C (pc' := 18) d2_17 rfl rfl ?_
    refine N.iadd C (pc' := 19) d2_18 rfl ?_
    refine N.goto C (pc' := 29) d2_19 rfl ?_
    refine N.i2c C (pc' := 30) d2_29 rfl ?_
    exact N.retN C (by simp) rfl d2_30 (by decide) (by decide) (by subst hQ; exact ⟨_, rfl, rfl, own_ca hd hc12⟩)
set_option maxRecDepth 65536 in
set_option maxHeartbeats 40000000 in
theorem con1 (G : Gx) (hw : ∀ d ∈ tables_1, d.before G.a0 G.Z = true) (hh ll : Int64) (h : Heap) (Z0 : G.n0 ≤ h.size) :
    Con G (⟨"com/example/grantgraph/grantgraph/bench/IdsSameAtPinLaw", "text", "(JJ)[C"⟩ : MethodName) method_4_code 5 (some (.array .char)) rm1 #[(.long hh), (.long ll)] h (fun v h' => ∃ (t : Addr) (cs : List Int32), v = some (.ref t) ∧ h.size ≤ t ∧ Keep h h' [] ∧ Av G.Z h' t .char (cs.map .int) ∧ own_T hh ll cs) := by
  refine Con.of (W := tables_1) (plainFor_of_name pn1) hw (fun mm => ef1 mm hh ll) (fun K C => ?_)
  have C : Cx G K "com/example/grantgraph/grantgraph/bench/IdsSameAtPinLaw" "text" method_4_code 5 (some (.array .char)) tables_1 := C
  generalize hQ : (fun v h' => ∃ (t : Addr) (cs : List Int32), v = some (.ref t) ∧ h.size ≤ t ∧ Keep h h' [] ∧ Av G.Z h' t .char (cs.map .int) ∧ own_T hh ll cs : Option Value → Heap → Prop) = Q
  have K0 : Keep h h [] := Keep.refl _ _
  refine N.bipush C (pc' := 2) (z := 36) d1_0 rfl rfl ?_
  refine N.newP C (pc' := 4) (n := (36 : Int32)) 36 d1_2 (C.w (i := 4) rfl) (by decide) (by decide) (by decide) (by decide) (by decide) rfl (fun h2_1 t hx_t Ex2 A'_t => ?_)
  have g_t : G.n0 ≤ t := by rw [hx_t]; exact Z0
  have sz_t : h.size ≤ t := by rw [hx_t]; exact K0.1
  have Z0 := Nat.le_trans Z0 Ex2.1
  have K0 := K0.ext Ex2
  have A_t : Av G.Z h2_1 t .char [(.int (0 : Int32)), (.int (0 : Int32)), (.int (0 : Int32)), (.int (0 : Int32)), (.int (0 : Int32)), (.int (0 : Int32)), (.int (0 : Int32)), (.int (0 : Int32)), (.int (0 : Int32)), (.int (0 : Int32)), (.int (0 : Int32)), (.int (0 : Int32)), (.int (0 : Int32)), (.int (0 : Int32)), (.int (0 : Int32)), (.int (0 : Int32)), (.int (0 : Int32)), (.int (0 : Int32)), (.int (0 : Int32)), (.int (0 : Int32)), (.int (0 : Int32)), (.int (0 : Int32)), (.int (0 : Int32)), (.int (0 : Int32)), (.int (0 : Int32)), (.int (0 : Int32)), (.int (0 : Int32)), (.int (0 : Int32)), (.int (0 : Int32)), (.int (0 : Int32)), (.int (0 : Int32)), (.int (0 : Int32)), (.int (0 : Int32)), (.int (0 : Int32)), (.int (0 : Int32)), (.int (0 : Int32))] := A'_t
  refine N.astore C (pc' := 6) (ls' := #[.val (.long hh), .second, .val (.long ll), .second, .val (.ref t)]) d1_4 rfl rfl rfl ?_
  refine N.aload C (pc' := 8) d1_6 rfl rfl rfl ?_
  refine N.iconst C (pc' := 9) (z := 0) d1_8 rfl rfl ?_
  refine N.lloadN C (pc' := 10) d1_9 rfl rfl ?_
  refine N.bipush C (pc' := 12) (z := 60) d1_10 rfl rfl ?_
  refine N.callS C (pc' := 15) [(.long hh), (.int (60 : Int32))] d1_12 (C.w (i := 5) rfl) (C.w (i := 6) rfl) (C.w (i := 2) rfl) (C.w (i := 7) rfl) (by decide) (con2 G hw hh (60 : Int32) (own_nb hh 15) h2_1 (own_nib hh (60 : Int32) 15 (by decide) (by decide) (by decide)) (own_nb16 _ _)) (lenOf pd__JI_C rfl) rfl (by decide) (show 2 + (4 + 11) + _ ≤ _ from by decide) (by decide) (by decide) (rest := [(.int (0 : Int32)), (.ref t)]) rfl rfl ?_
  rintro _ h12_2 ⟨c0, rfl, rfl, e0⟩
  show N G K rm1 Q h2_1 (0 + 1) (0 + 36) 15 #[.val (.long hh), .second, .val (.long ll), .second, .val (.ref t)] [(.int c0), (.int (0 : Int32)), (.ref t)]
  refine N.castore C (pc' := 16) (i := 0) d1_15 A_t rfl (show 0 < 36 from by decide) g_t rfl (fun h15_3 W15 A_t => ?_)
  have Z0 : G.n0 ≤ _ := (Wr.size W15).symm ▸ Z0
  have K0 := K0.wr W15 (Or.inr sz_t)
  have A_t : Av G.Z h15_3 t .char [(.int (nar .char c0)), (.int (0 : Int32)), (.int (0 : Int32)), (.int (0 : Int32)), (.int (0 : Int32)), (.int (0 : Int32)), (.int (0 : Int32)), (.int (0 : Int32)), (.int (0 : Int32)), (.int (0 : Int32)), (.int (0 : Int32)), (.int (0 : Int32)), (.int (0 : Int32)), (.int (0 : Int32)), (.int (0 : Int32)), (.int (0 : Int32)), (.int (0 : Int32)), (.int (0 : Int32)), (.int (0 : Int32)), (.int (0 : Int32)), (.int (0 : Int32)), (.int (0 : Int32)), (.int (0 : Int32)), (.int (0 : Int32)), (.int (0 : Int32)), (.int (0 : Int32)), (.int (0 : Int32)), (.int (0 : Int32)), (.int (0 : Int32)), (.int (0 : Int32)), (.int (0 : Int32)), (.int (0 : Int32)), (.int (0 : Int32)), (.int (0 : Int32)), (.int (0 : Int32)), (.int (0 : Int32))] := A_t
  refine N.aload C (pc' := 18) d1_16 rfl rfl rfl ?_
  refine N.iconst C (pc' := 19) (z := 1) d1_18 rfl rfl ?_
  refine N.lloadN C (pc' := 20) d1_19 rfl rfl ?_
  refine N.bipush C (pc' := 22) (z := 56) d1_20 rfl rfl ?_
  refine N.callS C (pc' := 25) [(.long hh), (.int (56 : Int32))] d1_22 (C.w (i := 5) rfl) (C.w (i := 6) rfl) (C.w (i := 2) rfl) (C.w (i := 7) rfl) (by decide) (con2 G hw hh (56 : Int32) (own_nb hh 14) h15_3 (own_nib hh (56 : Int32) 14 (by decide) (by decide) (by decide)) (own_nb16 _ _)) (lenOf pd__JI_C rfl) rfl (by decide) (show 2 + (4 + 11) + _ ≤ _ from by decide) (by decide) (by decide) (rest := [(.int (1 : Int32)), (.ref t)]) rfl rfl ?_
  rintro _ h22_4 ⟨c1, rfl, rfl, e1⟩
  show N G K rm1 Q h15_3 (0 + 1) (0 + 36) 25 #[.val (.long hh), .second, .val (.long ll), .second, .val (.ref t)] [(.int c1), (.int (1 : Int32)), (.ref t)]
  refine N.castore C (pc' := 26) (i := 1) d1_25 A_t rfl (show 1 < 36 from by decide) g_t rfl (fun h25_5 W25 A_t => ?_)
  have Z0 : G.n0 ≤ _ := (Wr.size W25).symm ▸ Z0
  have K0 := K0.wr W25 (Or.inr sz_t)
  have A_t : Av G.Z h25_5 t .char [(.int (nar .char c0)), (.int (nar .char c1)), (.int (0 : Int32)), (.int (0 : Int32)), (.int (0 : Int32)), (.int (0 : Int32)), (.int (0 : Int32)), (.int (0 : Int32)), (.int (0 : Int32)), (.int (0 : Int32)), (.int (0 : Int32)), (.int (0 : Int32)), (.int (0 : Int32)), (.int (0 : Int32)), (.int (0 : Int32)), (.int (0 : Int32)), (.int (0 : Int32)), (.int (0 : Int32)), (.int (0 : Int32)), (.int (0 : Int32)), (.int (0 : Int32)), (.int (0 : Int32)), (.int (0 : Int32)), (.int (0 : Int32)), (.int (0 : Int32)), (.int (0 : Int32)), (.int (0 : Int32)), (.int (0 : Int32)), (.int (0 : Int32)), (.int (0 : Int32)), (.int (0 : Int32)), (.int (0 : Int32)), (.int (0 : Int32)), (.int (0 : Int32)), (.int (0 : Int32)), (.int (0 : Int32))] := A_t
  refine N.aload C (pc' := 28) d1_26 rfl rfl rfl ?_
  refine N.iconst C (pc' := 29) (z := 2) d1_28 rfl rfl ?_
  refine N.lloadN C (pc' := 30) d1_29 rfl rfl ?_
  refine N.bipush C (pc' := 32) (z := 52) d1_30 rfl rfl ?_
  refine N.callS C (pc' := 35) [(.long hh), (.int (52 : Int32))] d1_32 (C.w (i := 5) rfl) (C.w (i := 6) rfl) (C.w (i := 2) rfl) (C.w (i := 7) rfl) (by decide) (con2 G hw hh (52 : Int32) (own_nb hh 13) h25_5 (own_nib hh (52 : Int32) 13 (by decide) (by decide) (by decide)) (own_nb16 _ _)) (lenOf pd__JI_C rfl) rfl (by decide) (show 2 + (4 + 11) + _ ≤ _ from by decide) (by decide) (by decide) (rest := [(.int (2 : Int32)), (.ref t)]) rfl rfl ?_
  rintro _ h32_6 ⟨c2, rfl, rfl, e2⟩
  show N G K rm1 Q h25_5 (0 + 1) (0 + 36) 35 #[.val (.long hh), .second, .val (.long ll), .second, .val (.ref t)] [(.int c2), (.int (2 : Int32)), (.ref t)]
  refine N.castore C (pc' := 36) (i := 2) d1_35 A_t rfl (show 2 < 36 from by decide) g_t rfl (fun h35_7 W35 A_t => ?_)
  have Z0 : G.n0 ≤ _ := (Wr.size W35).symm ▸ Z0
  have K0 := K0.wr W35 (Or.inr sz_t)
  have A_t : Av G.Z h35_7 t .char [(.int (nar .char c0)), (.int (nar .char c1)), (.int (nar .char c2)), (.int (0 : Int32)), (.int (0 : Int32)), (.int (0 : Int32)), (.int (0 : Int32)), (.int (0 : Int32)), (.int (0 : Int32)), (.int (0 : Int32)), (.int (0 : Int32)), (.int (0 : Int32)), (.int (0 : Int32)), (.int (0 : Int32)), (.int (0 : Int32)), (.int (0 : Int32)), (.int (0 : Int32)), (.int (0 : Int32)), (.int (0 : Int32)), (.int (0 : Int32)), (.int (0 : Int32)), (.int (0 : Int32)), (.int (0 : Int32)), (.int (0 : Int32)), (.int (0 : Int32)), (.int (0 : Int32)), (.int (0 : Int32)), (.int (0 : Int32)), (.int (0 : Int32)), (.int (0 : Int32)), (.int (0 : Int32)), (.int (0 : Int32)), (.int (0 : Int32)), (.int (0 : Int32)), (.int (0 : Int32)), (.int (0 : Int32))] := A_t
  refine N.aload C (pc' := 38) d1_36 rfl rfl rfl ?_
  refine N.iconst C (pc' := 39) (z := 3) d1_38 rfl rfl ?_
  refine N.lloadN C (pc' := 40) d1_39 rfl rfl ?_
  refine N.bipush C (pc' := 42) (z := 48) d1_40 rfl rfl ?_
  refine N.callS C (pc' := 45) [(.long hh), (.int (48 : Int32))] d1_42 (C.w (i := 5) rfl) (C.w (i := 6) rfl) (C.w (i := 2) rfl) (C.w (i := 7) rfl) (by decide) (con2 G hw hh (48 : Int32) (own_nb hh 12) h35_7 (own_nib hh (48 : Int32) 12 (by decide) (by decide) (by decide)) (own_nb16 _ _)) (lenOf pd__JI_C rfl) rfl (by decide) (show 2 + (4 + 11) + _ ≤ _ from by decide) (by decide) (by decide) (rest := [(.int (3 : Int32)), (.ref t)]) rfl rfl ?_
  rintro _ h42_8 ⟨c3, rfl, rfl, e3⟩
  show N G K rm1 Q h35_7 (0 + 1) (0 + 36) 45 #[.val (.long hh), .second, .val (.long ll), .second, .val (.ref t)] [(.int c3), (.int (3 : Int32)), (.ref t)]
  refine N.castore C (pc' := 46) (i := 3) d1_45 A_t rfl (show 3 < 36 from by decide) g_t rfl (fun h45_9 W45 A_t => ?_)
  have Z0 : G.n0 ≤ _ := (Wr.size W45).symm ▸ Z0
  have K0 := K0.wr W45 (Or.inr sz_t)
  have A_t : Av G.Z h45_9 t .char [(.int (nar .char c0)), (.int (nar .char c1)), (.int (nar .char c2)), (.int (nar .char c3)), (.int (0 : Int32)), (.int (0 : Int32)), (.int (0 : Int32)), (.int (0 : Int32)), (.int (0 : Int32)), (.int (0 : Int32)), (.int (0 : Int32)), (.int (0 : Int32)), (.int (0 : Int32)), (.int (0 : Int32)), (.int (0 : Int32)), (.int (0 : Int32)), (.int (0 : Int32)), (.int (0 : Int32)), (.int (0 : Int32)), (.int (0 : Int32)), (.int (0 : Int32)), (.int (0 : Int32)), (.int (0 : Int32)), (.int (0 : Int32)), (.int (0 : Int32)), (.int (0 : Int32)), (.int (0 : Int32)), (.int (0 : Int32)), (.int (0 : Int32)), (.int (0 : Int32)), (.int (0 : Int32)), (.int (0 : Int32)), (.int (0 : Int32)), (.int (0 : Int32)), (.int (0 : Int32)), (.int (0 : Int32))] := A_t
  refine N.aload C (pc' := 48) d1_46 rfl rfl rfl ?_
  refine N.iconst C (pc' := 49) (z := 4) d1_48 rfl rfl ?_
  refine N.lloadN C (pc' := 50) d1_49 rfl rfl ?_
  refine N.bipush C (pc' := 52) (z := 44) d1_50 rfl rfl ?_
  refine N.callS C (pc' := 55) [(.long hh), (.int (44 : Int32))] d1_52 (C.w (i := 5) rfl) (C.w (i := 6) rfl) (C.w (i := 2) rfl) (C.w (i := 7) rfl) (by decide) (con2 G hw hh (44 : Int32) (own_nb hh 11) h45_9 (own_nib hh (44 : Int32) 11 (by decide) (by decide) (by decide)) (own_nb16 _ _)) (lenOf pd__JI_C rfl) rfl (by decide) (show 2 + (4 + 11) + _ ≤ _ from by decide) (by decide) (by decide) (rest := [(.int (4 : Int32)), (.ref t)]) rfl rfl ?_
  rintro _ h52_10 ⟨c4, rfl, rfl, e4⟩
  show N G K rm1 Q h45_9 (0 + 1) (0 + 36) 55 #[.val (.long hh), .second, .val (.long ll), .second, .val (.ref t)] [(.int c4), (.int (4 : Int32)), (.ref t)]
  refine N.castore C (pc' := 56) (i := 4) d1_55 A_t rfl (show 4 < 36 from by decide) g_t rfl (fun h55_11 W55 A_t => ?_)
  have Z0 : G.n0 ≤ _ := (Wr.size W55).symm ▸ Z0
  have K0 := K0.wr W55 (Or.inr sz_t)
  have A_t : Av G.Z h55_11 t .char [(.int (nar .char c0)), (.int (nar .char c1)), (.int (nar .char c2)), (.int (nar .char c3)), (.int (nar .char c4)), (.int (0 : Int32)), (.int (0 : Int32)), (.int (0 : Int32)), (.int (0 : Int32)), (.int (0 : Int32)), (.int (0 : Int32)), (.int (0 : Int32)), (.int (0 : Int32)), (.int (0 : Int32)), (.int (0 : Int32)), (.int (0 : Int32)), (.int (0 : Int32)), (.int (0 : Int32)), (.int (0 : Int32)), (.int (0 : Int32)), (.int (0 : Int32)), (.int (0 : Int32)), (.int (0 : Int32)), (.int (0 : Int32)), (.int (0 : Int32)), (.int (0 : Int32)), (.int (0 : Int32)), (.int (0 : Int32)), (.int (0 : Int32)), (.int (0 : Int32)), (.int (0 : Int32)), (.int (0 : Int32)), (.int (0 : Int32)), (.int (0 : Int32)), (.int (0 : Int32)), (.int (0 : Int32))] := A_t
  refine N.aload C (pc' := 58) d1_56 rfl rfl rfl ?_
  refine N.iconst C (pc' := 59) (z := 5) d1_58 rfl rfl ?_
  refine N.lloadN C (pc' := 60) d1_59 rfl rfl ?_
  refine N.bipush C (pc' := 62) (z := 40) d1_60 rfl rfl ?_
  refine N.callS C (pc' := 65) [(.long hh), (.int (40 : Int32))] d1_62 (C.w (i := 5) rfl) (C.w (i := 6) rfl) (C.w (i := 2) rfl) (C.w (i := 7) rfl) (by decide) (con2 G hw hh (40 : Int32) (own_nb hh 10) h55_11 (own_nib hh (40 : Int32) 10 (by decide) (by decide) (by decide)) (own_nb16 _ _)) (lenOf pd__JI_C rfl) rfl (by decide) (show 2 + (4 + 11) + _ ≤ _ from by decide) (by decide) (by decide) (rest := [(.int (5 : Int32)), (.ref t)]) rfl rfl ?_
  rintro _ h62_12 ⟨c5, rfl, rfl, e5⟩
  show N G K rm1 Q h55_11 (0 + 1) (0 + 36) 65 #[.val (.long hh), .second, .val (.long ll), .second, .val (.ref t)] [(.int c5), (.int (5 : Int32)), (.ref t)]
  refine N.castore C (pc' := 66) (i := 5) d1_65 A_t rfl (show 5 < 36 from by decide) g_t rfl (fun h65_13 W65 A_t => ?_)
  have Z0 : G.n0 ≤ _ := (Wr.size W65).symm ▸ Z0
  have K0 := K0.wr W65 (Or.inr sz_t)
  have A_t : Av G.Z h65_13 t .char [(.int (nar .char c0)), (.int (nar .char c1)), (.int (nar .char c2)), (.int (nar .char c3)), (.int (nar .char c4)), (.int (nar .char c5)), (.int (0 : Int32)), (.int (0 : Int32)), (.int (0 : Int32)), (.int (0 : Int32)), (.int (0 : Int32)), (.int (0 : Int32)), (.int (0 : Int32)), (.int (0 : Int32)), (.int (0 : Int32)), (.int (0 : Int32)), (.int (0 : Int32)), (.int (0 : Int32)), (.int (0 : Int32)), (.int (0 : Int32)), (.int (0 : Int32)), (.int (0 : Int32)), (.int (0 : Int32)), (.int (0 : Int32)), (.int (0 : Int32)), (.int (0 : Int32)), (.int (0 : Int32)), (.int (0 : Int32)), (.int (0 : Int32)), (.int (0 : Int32)), (.int (0 : Int32)), (.int (0 : Int32)), (.int (0 : Int32)), (.int (0 : Int32)), (.int (0 : Int32)), (.int (0 : Int32))] := A_t
  refine N.aload C (pc' := 68) d1_66 rfl rfl rfl ?_
  refine N.bipush C (pc' := 70) (z := 6) d1_68 rfl rfl ?_
  refine N.lloadN C (pc' := 71) d1_70 rfl rfl ?_
  refine N.bipush C (pc' := 73) (z := 36) d1_71 rfl rfl ?_
  refine N.callS C (pc' := 76) [(.long hh), (.int (36 : Int32))] d1_73 (C.w (i := 5) rfl) (C.w (i := 6) rfl) (C.w (i := 2) rfl) (C.w (i := 7) rfl) (by decide) (con2 G hw hh (36 : Int32) (own_nb hh 9) h65_13 (own_nib hh (36 : Int32) 9 (by decide) (by decide) (by decide)) (own_nb16 _ _)) (lenOf pd__JI_C rfl) rfl (by decide) (show 2 + (4 + 11) + _ ≤ _ from by decide) (by decide) (by decide) (rest := [(.int (6 : Int32)), (.ref t)]) rfl rfl ?_
  rintro _ h73_14 ⟨c6, rfl, rfl, e6⟩
  show N G K rm1 Q h65_13 (0 + 1) (0 + 36) 76 #[.val (.long hh), .second, .val (.long ll), .second, .val (.ref t)] [(.int c6), (.int (6 : Int32)), (.ref t)]
  refine N.castore C (pc' := 77) (i := 6) d1_76 A_t rfl (show 6 < 36 from by decide) g_t rfl (fun h76_15 W76 A_t => ?_)
  have Z0 : G.n0 ≤ _ := (Wr.size W76).symm ▸ Z0
  have K0 := K0.wr W76 (Or.inr sz_t)
  have A_t : Av G.Z h76_15 t .char [(.int (nar .char c0)), (.int (nar .char c1)), (.int (nar .char c2)), (.int (nar .char c3)), (.int (nar .char c4)), (.int (nar .char c5)), (.int (nar .char c6)), (.int (0 : Int32)), (.int (0 : Int32)), (.int (0 : Int32)), (.int (0 : Int32)), (.int (0 : Int32)), (.int (0 : Int32)), (.int (0 : Int32)), (.int (0 : Int32)), (.int (0 : Int32)), (.int (0 : Int32)), (.int (0 : Int32)), (.int (0 : Int32)), (.int (0 : Int32)), (.int (0 : Int32)), (.int (0 : Int32)), (.int (0 : Int32)), (.int (0 : Int32)), (.int (0 : Int32)), (.int (0 : Int32)), (.int (0 : Int32)), (.int (0 : Int32)), (.int (0 : Int32)), (.int (0 : Int32)), (.int (0 : Int32)), (.int (0 : Int32)), (.int (0 : Int32)), (.int (0 : Int32)), (.int (0 : Int32)), (.int (0 : Int32))] := A_t
  refine N.aload C (pc' := 79) d1_77 rfl rfl rfl ?_
  refine N.bipush C (pc' := 81) (z := 7) d1_79 rfl rfl ?_
  refine N.lloadN C (pc' := 82) d1_81 rfl rfl ?_
  refine N.bipush C (pc' := 84) (z := 32) d1_82 rfl rfl ?_
  refine N.callS C (pc' := 87) [(.long hh), (.int (32 : Int32))] d1_84 (C.w (i := 5) rfl) (C.w (i := 6) rfl) (C.w (i := 2) rfl) (C.w (i := 7) rfl) (by decide) (con2 G hw hh (32 : Int32) (own_nb hh 8) h76_15 (own_nib hh (32 : Int32) 8 (by decide) (by decide) (by decide)) (own_nb16 _ _)) (lenOf pd__JI_C rfl) rfl (by decide) (show 2 + (4 + 11) + _ ≤ _ from by decide) (by decide) (by decide) (rest := [(.int (7 : Int32)), (.ref t)]) rfl rfl ?_
  rintro _ h84_16 ⟨c7, rfl, rfl, e7⟩
  show N G K rm1 Q h76_15 (0 + 1) (0 + 36) 87 #[.val (.long hh), .second, .val (.long ll), .second, .val (.ref t)] [(.int c7), (.int (7 : Int32)), (.ref t)]
  refine N.castore C (pc' := 88) (i := 7) d1_87 A_t rfl (show 7 < 36 from by decide) g_t rfl (fun h87_17 W87 A_t => ?_)
  have Z0 : G.n0 ≤ _ := (Wr.size W87).symm ▸ Z0
  have K0 := K0.wr W87 (Or.inr sz_t)
  have A_t : Av G.Z h87_17 t .char [(.int (nar .char c0)), (.int (nar .char c1)), (.int (nar .char c2)), (.int (nar .char c3)), (.int (nar .char c4)), (.int (nar .char c5)), (.int (nar .char c6)), (.int (nar .char c7)), (.int (0 : Int32)), (.int (0 : Int32)), (.int (0 : Int32)), (.int (0 : Int32)), (.int (0 : Int32)), (.int (0 : Int32)), (.int (0 : Int32)), (.int (0 : Int32)), (.int (0 : Int32)), (.int (0 : Int32)), (.int (0 : Int32)), (.int (0 : Int32)), (.int (0 : Int32)), (.int (0 : Int32)), (.int (0 : Int32)), (.int (0 : Int32)), (.int (0 : Int32)), (.int (0 : Int32)), (.int (0 : Int32)), (.int (0 : Int32)), (.int (0 : Int32)), (.int (0 : Int32)), (.int (0 : Int32)), (.int (0 : Int32)), (.int (0 : Int32)), (.int (0 : Int32)), (.int (0 : Int32)), (.int (0 : Int32))] := A_t
  refine N.aload C (pc' := 90) d1_88 rfl rfl rfl ?_
  refine N.bipush C (pc' := 92) (z := 8) d1_90 rfl rfl ?_
  refine N.bipush C (pc' := 94) (z := 45) d1_92 rfl rfl ?_
  refine N.castore C (pc' := 95) (i := 8) d1_94 A_t rfl (show 8 < 36 from by decide) g_t rfl (fun h94_18 W94 A_t => ?_)
  have Z0 : G.n0 ≤ _ := (Wr.size W94).symm ▸ Z0
  have K0 := K0.wr W94 (Or.inr sz_t)
  have A_t : Av G.Z h94_18 t .char [(.int (nar .char c0)), (.int (nar .char c1)), (.int (nar .char c2)), (.int (nar .char c3)), (.int (nar .char c4)), (.int (nar .char c5)), (.int (nar .char c6)), (.int (nar .char c7)), (.int (45 : Int32)), (.int (0 : Int32)), (.int (0 : Int32)), (.int (0 : Int32)), (.int (0 : Int32)), (.int (0 : Int32)), (.int (0 : Int32)), (.int (0 : Int32)), (.int (0 : Int32)), (.int (0 : Int32)), (.int (0 : Int32)), (.int (0 : Int32)), (.int (0 : Int32)), (.int (0 : Int32)), (.int (0 : Int32)), (.int (0 : Int32)), (.int (0 : Int32)), (.int (0 : Int32)), (.int (0 : Int32)), (.int (0 : Int32)), (.int (0 : Int32)), (.int (0 : Int32)), (.int (0 : Int32)), (.int (0 : Int32)), (.int (0 : Int32)), (.int (0 : Int32)), (.int (0 : Int32)), (.int (0 : Int32))] := A_t
  refine N.aload C (pc' := 97) d1_95 rfl rfl rfl ?_
  refine N.bipush C (pc' := 99) (z := 9) d1_97 rfl rfl ?_
  refine N.lloadN C (pc' := 100) d1_99 rfl rfl ?_
  refine N.bipush C (pc' := 102) (z := 28) d1_100 rfl rfl ?_
  refine N.callS C (pc' := 105) [(.long hh), (.int (28 : Int32))] d1_102 (C.w (i := 5) rfl) (C.w (i := 6) rfl) (C.w (i := 2) rfl) (C.w (i := 7) rfl) (by decide) (con2 G hw hh (28 : Int32) (own_nb hh 7) h94_18 (own_nib hh (28 : Int32) 7 (by decide) (by decide) (by decide)) (own_nb16 _ _)) (lenOf pd__JI_C rfl) rfl (by decide) (show 2 + (4 + 11) + _ ≤ _ from by decide) (by decide) (by decide) (rest := [(.int (9 : Int32)), (.ref t)]) rfl rfl ?_
  rintro _ h102_19 ⟨c8, rfl, rfl, e8⟩
  show N G K rm1 Q h94_18 (0 + 1) (0 + 36) 105 #[.val (.long hh), .second, .val (.long ll), .second, .val (.ref t)] [(.int c8), (.int (9 : Int32)), (.ref t)]
  refine N.castore C (pc' := 106) (i := 9) d1_105 A_t rfl (show 9 < 36 from by decide) g_t rfl (fun h105_20 W105 A_t => ?_)
  have Z0 : G.n0 ≤ _ := (Wr.size W105).symm ▸ Z0
  have K0 := K0.wr W105 (Or.inr sz_t)
  have A_t : Av G.Z h105_20 t .char [(.int (nar .char c0)), (.int (nar .char c1)), (.int (nar .char c2)), (.int (nar .char c3)), (.int (nar .char c4)), (.int (nar .char c5)), (.int (nar .char c6)), (.int (nar .char c7)), (.int (45 : Int32)), (.int (nar .char c8)), (.int (0 : Int32)), (.int (0 : Int32)), (.int (0 : Int32)), (.int (0 : Int32)), (.int (0 : Int32)), (.int (0 : Int32)), (.int (0 : Int32)), (.int (0 : Int32)), (.int (0 : Int32)), (.int (0 : Int32)), (.int (0 : Int32)), (.int (0 : Int32)), (.int (0 : Int32)), (.int (0 : Int32)), (.int (0 : Int32)), (.int (0 : Int32)), (.int (0 : Int32)), (.int (0 : Int32)), (.int (0 : Int32)), (.int (0 : Int32)), (.int (0 : Int32)), (.int (0 : Int32)), (.int (0 : Int32)), (.int (0 : Int32)), (.int (0 : Int32)), (.int (0 : Int32))] := A_t
  refine N.aload C (pc' := 108) d1_106 rfl rfl rfl ?_
  refine N.bipush C (pc' := 110) (z := 10) d1_108 rfl rfl ?_
  refine N.lloadN C (pc' := 111) d1_110 rfl rfl ?_
  refine N.bipush C (pc' := 113) (z := 24) d1_111 rfl rfl ?_
  refine N.callS C (pc' := 116) [(.long hh), (.int (24 : Int32))] d1_113 (C.w (i := 5) rfl) (C.w (i := 6) rfl) (C.w (i := 2) rfl) (C.w (i := 7) rfl) (by decide) (con2 G hw hh (24 : Int32) (own_nb hh 6) h105_20 (own_nib hh (24 : Int32) 6 (by decide) (by decide) (by decide)) (own_nb16 _ _)) (lenOf pd__JI_C rfl) rfl (by decide) (show 2 + (4 + 11) + _ ≤ _ from by decide) (by decide) (by decide) (rest := [(.int (10 : Int32)), (.ref t)]) rfl rfl ?_
  rintro _ h113_21 ⟨c9, rfl, rfl, e9⟩
  show N G K rm1 Q h105_20 (0 + 1) (0 + 36) 116 #[.val (.long hh), .second, .val (.long ll), .second, .val (.ref t)] [(.int c9), (.int (10 : Int32)), (.ref t)]
  refine N.castore C (pc' := 117) (i := 10) d1_116 A_t rfl (show 10 < 36 from by decide) g_t rfl (fun h116_22 W116 A_t => ?_)
  have Z0 : G.n0 ≤ _ := (Wr.size W116).symm ▸ Z0
  have K0 := K0.wr W116 (Or.inr sz_t)
  have A_t : Av G.Z h116_22 t .char [(.int (nar .char c0)), (.int (nar .char c1)), (.int (nar .char c2)), (.int (nar .char c3)), (.int (nar .char c4)), (.int (nar .char c5)), (.int (nar .char c6)), (.int (nar .char c7)), (.int (45 : Int32)), (.int (nar .char c8)), (.int (nar .char c9)), (.int (0 : Int32)), (.int (0 : Int32)), (.int (0 : Int32)), (.int (0 : Int32)), (.int (0 : Int32)), (.int (0 : Int32)), (.int (0 : Int32)), (.int (0 : Int32)), (.int (0 : Int32)), (.int (0 : Int32)), (.int (0 : Int32)), (.int (0 : Int32)), (.int (0 : Int32)), (.int (0 : Int32)), (.int (0 : Int32)), (.int (0 : Int32)), (.int (0 : Int32)), (.int (0 : Int32)), (.int (0 : Int32)), (.int (0 : Int32)), (.int (0 : Int32)), (.int (0 : Int32)), (.int (0 : Int32)), (.int (0 : Int32)), (.int (0 : Int32))] := A_t
  refine N.aload C (pc' := 119) d1_117 rfl rfl rfl ?_
  refine N.bipush C (pc' := 121) (z := 11) d1_119 rfl rfl ?_
  refine N.lloadN C (pc' := 122) d1_121 rfl rfl ?_
  refine N.bipush C (pc' := 124) (z := 20) d1_122 rfl rfl ?_
  refine N.callS C (pc' := 127) [(.long hh), (.int (20 : Int32))] d1_124 (C.w (i := 5) rfl) (C.w (i := 6) rfl) (C.w (i := 2) rfl) (C.w (i := 7) rfl) (by decide) (con2 G hw hh (20 : Int32) (own_nb hh 5) h116_22 (own_nib hh (20 : Int32) 5 (by decide) (by decide) (by decide)) (own_nb16 _ _)) (lenOf pd__JI_C rfl) rfl (by decide) (show 2 + (4 + 11) + _ ≤ _ from by decide) (by decide) (by decide) (rest := [(.int (11 : Int32)), (.ref t)]) rfl rfl ?_
  rintro _ h124_23 ⟨c10, rfl, rfl, e10⟩
  show N G K rm1 Q h116_22 (0 + 1) (0 + 36) 127 #[.val (.long hh), .second, .val (.long ll), .second, .val (.ref t)] [(.int c10), (.int (11 : Int32)), (.ref t)]
  refine N.castore C (pc' := 128) (i := 11) d1_127 A_t rfl (show 11 < 36 from by decide) g_t rfl (fun h127_24 W127 A_t => ?_)
  have Z0 : G.n0 ≤ _ := (Wr.size W127).symm ▸ Z0
  have K0 := K0.wr W127 (Or.inr sz_t)
  have A_t : Av G.Z h127_24 t .char [(.int (nar .char c0)), (.int (nar .char c1)), (.int (nar .char c2)), (.int (nar .char c3)), (.int (nar .char c4)), (.int (nar .char c5)), (.int (nar .char c6)), (.int (nar .char c7)), (.int (45 : Int32)), (.int (nar .char c8)), (.int (nar .char c9)), (.int (nar .char c10)), (.int (0 : Int32)), (.int (0 : Int32)), (.int (0 : Int32)), (.int (0 : Int32)), (.int (0 : Int32)), (.int (0 : Int32)), (.int (0 : Int32)), (.int (0 : Int32)), (.int (0 : Int32)), (.int (0 : Int32)), (.int (0 : Int32)), (.int (0 : Int32)), (.int (0 : Int32)), (.int (0 : Int32)), (.int (0 : Int32)), (.int (0 : Int32)), (.int (0 : Int32)), (.int (0 : Int32)), (.int (0 : Int32)), (.int (0 : Int32)), (.int (0 : Int32)), (.int (0 : Int32)), (.int (0 : Int32)), (.int (0 : Int32))] := A_t
  refine N.aload C (pc' := 130) d1_128 rfl rfl rfl ?_
  refine N.bipush C (pc' := 132) (z := 12) d1_130 rfl rfl ?_
  refine N.lloadN C (pc' := 133) d1_132 rfl rfl ?_
  refine N.bipush C (pc' := 135) (z := 16) d1_133 rfl rfl ?_
  refine N.callS C (pc' := 138) [(.long hh), (.int (16 : Int32))] d1_135 (C.w (i := 5) rfl) (C.w (i := 6) rfl) (C.w (i := 2) rfl) (C.w (i := 7) rfl) (by decide) (con2 G hw hh (16 : Int32) (own_nb hh 4) h127_24 (own_nib hh (16 : Int32) 4 (by decide) (by decide) (by decide)) (own_nb16 _ _)) (lenOf pd__JI_C rfl) rfl (by decide) (show 2 + (4 + 11) + _ ≤ _ from by decide) (by decide) (by decide) (rest := [(.int (12 : Int32)), (.ref t)]) rfl rfl ?_
  rintro _ h135_25 ⟨c11, rfl, rfl, e11⟩
  show N G K rm1 Q h127_24 (0 + 1) (0 + 36) 138 #[.val (.long hh), .second, .val (.long ll), .second, .val (.ref t)] [(.int c11), (.int (12 : Int32)), (.ref t)]
  refine N.castore C (pc' := 139) (i := 12) d1_138 A_t rfl (show 12 < 36 from by decide) g_t rfl (fun h138_26 W138 A_t => ?_)
  have Z0 : G.n0 ≤ _ := (Wr.size W138).symm ▸ Z0
  have K0 := K0.wr W138 (Or.inr sz_t)
  have A_t : Av G.Z h138_26 t .char [(.int (nar .char c0)), (.int (nar .char c1)), (.int (nar .char c2)), (.int (nar .char c3)), (.int (nar .char c4)), (.int (nar .char c5)), (.int (nar .char c6)), (.int (nar .char c7)), (.int (45 : Int32)), (.int (nar .char c8)), (.int (nar .char c9)), (.int (nar .char c10)), (.int (nar .char c11)), (.int (0 : Int32)), (.int (0 : Int32)), (.int (0 : Int32)), (.int (0 : Int32)), (.int (0 : Int32)), (.int (0 : Int32)), (.int (0 : Int32)), (.int (0 : Int32)), (.int (0 : Int32)), (.int (0 : Int32)), (.int (0 : Int32)), (.int (0 : Int32)), (.int (0 : Int32)), (.int (0 : Int32)), (.int (0 : Int32)), (.int (0 : Int32)), (.int (0 : Int32)), (.int (0 : Int32)), (.int (0 : Int32)), (.int (0 : Int32)), (.int (0 : Int32)), (.int (0 : Int32)), (.int (0 : Int32))] := A_t
  refine N.aload C (pc' := 141) d1_139 rfl rfl rfl ?_
  refine N.bipush C (pc' := 143) (z := 13) d1_141 rfl rfl ?_
  refine N.bipush C (pc' := 145) (z := 45) d1_143 rfl rfl ?_
  refine N.castore C (pc' := 146) (i := 13) d1_145 A_t rfl (show 13 < 36 from by decide) g_t rfl (fun h145_27 W145 A_t => ?_)
  have Z0 : G.n0 ≤ _ := (Wr.size W145).symm ▸ Z0
  have K0 := K0.wr W145 (Or.inr sz_t)
  have A_t : Av G.Z h145_27 t .char [(.int (nar .char c0)), (.int (nar .char c1)), (.int (nar .char c2)), (.int (nar .char c3)), (.int (nar .char c4)), (.int (nar .char c5)), (.int (nar .char c6)), (.int (nar .char c7)), (.int (45 : Int32)), (.int (nar .char c8)), (.int (nar .char c9)), (.int (nar .char c10)), (.int (nar .char c11)), (.int (45 : Int32)), (.int (0 : Int32)), (.int (0 : Int32)), (.int (0 : Int32)), (.int (0 : Int32)), (.int (0 : Int32)), (.int (0 : Int32)), (.int (0 : Int32)), (.int (0 : Int32)), (.int (0 : Int32)), (.int (0 : Int32)), (.int (0 : Int32)), (.int (0 : Int32)), (.int (0 : Int32)), (.int (0 : Int32)), (.int (0 : Int32)), (.int (0 : Int32)), (.int (0 : Int32)), (.int (0 : Int32)), (.int (0 : Int32)), (.int (0 : Int32)), (.int (0 : Int32)), (.int (0 : Int32))] := A_t
  refine N.aload C (pc' := 148) d1_146 rfl rfl rfl ?_
  refine N.bipush C (pc' := 150) (z := 14) d1_148 rfl rfl ?_
  refine N.lloadN C (pc' := 151) d1_150 rfl rfl ?_
  refine N.bipush C (pc' := 153) (z := 12) d1_151 rfl rfl ?_
  refine N.callS C (pc' := 156) [(.long hh), (.int (12 : Int32))] d1_153 (C.w (i := 5) rfl) (C.w (i := 6) rfl) (C.w (i := 2) rfl) (C.w (i := 7) rfl) (by decide) (con2 G hw hh (12 : Int32) (own_nb hh 3) h145_27 (own_nib hh (12 : Int32) 3 (by decide) (by decide) (by decide)) (own_nb16 _ _)) (lenOf pd__JI_C rfl) rfl (by decide) (show 2 + (4 + 11) + _ ≤ _ from by decide) (by decide) (by decide) (rest := [(.int (14 : Int32)), (.ref t)]) rfl rfl ?_
  rintro _ h153_28 ⟨c12, rfl, rfl, e12⟩
  show N G K rm1 Q h145_27 (0 + 1) (0 + 36) 156 #[.val (.long hh), .second, .val (.long ll), .second, .val (.ref t)] [(.int c12), (.int (14 : Int32)), (.ref t)]
  refine N.castore C (pc' := 157) (i := 14) d1_156 A_t rfl (show 14 < 36 from by decide) g_t rfl (fun h156_29 W156 A_t => ?_)
  have Z0 : G.n0 ≤ _ := (Wr.size W156).symm ▸ Z0
  have K0 := K0.wr W156 (Or.inr sz_t)
  have A_t : Av G.Z h156_29 t .char [(.int (nar .char c0)), (.int (nar .char c1)), (.int (nar .char c2)), (.int (nar .char c3)), (.int (nar .char c4)), (.int (nar .char c5)), (.int (nar .char c6)), (.int (nar .char c7)), (.int (45 : Int32)), (.int (nar .char c8)), (.int (nar .char c9)), (.int (nar .char c10)), (.int (nar .char c11)), (.int (45 : Int32)), (.int (nar .char c12)), (.int (0 : Int32)), (.int (0 : Int32)), (.int (0 : Int32)), (.int (0 : Int32)), (.int (0 : Int32)), (.int (0 : Int32)), (.int (0 : Int32)), (.int (0 : Int32)), (.int (0 : Int32)), (.int (0 : Int32)), (.int (0 : Int32)), (.int (0 : Int32)), (.int (0 : Int32)), (.int (0 : Int32)), (.int (0 : Int32)), (.int (0 : Int32)), (.int (0 : Int32)), (.int (0 : Int32)), (.int (0 : Int32)), (.int (0 : Int32)), (.int (0 : Int32))] := A_t
  refine N.aload C (pc' := 159) d1_157 rfl rfl rfl ?_
  refine N.bipush C (pc' := 161) (z := 15) d1_159 rfl rfl ?_
  refine N.lloadN C (pc' := 162) d1_161 rfl rfl ?_
  refine N.bipush C (pc' := 164) (z := 8) d1_162 rfl rfl ?_
  refine N.callS C (pc' := 167) [(.long hh), (.int (8 : Int32))] d1_164 (C.w (i := 5) rfl) (C.w (i := 6) rfl) (C.w (i := 2) rfl) (C.w (i := 7) rfl) (by decide) (con2 G hw hh (8 : Int32) (own_nb hh 2) h156_29 (own_nib hh (8 : Int32) 2 (by decide) (by decide) (by decide)) (own_nb16 _ _)) (lenOf pd__JI_C rfl) rfl (by decide) (show 2 + (4 + 11) + _ ≤ _ from by decide) (by decide) (by decide) (rest := [(.int (15 : Int32)), (.ref t)]) rfl rfl ?_
  rintro _ h164_30 ⟨c13, rfl, rfl, e13⟩
  show N G K rm1 Q h156_29 (0 + 1) (0 + 36) 167 #[.val (.long hh), .second, .val (.long ll), .second, .val (.ref t)] [(.int c13), (.int (15 : Int32)), (.ref t)]
  refine N.castore C (pc' := 168) (i := 15) d1_167 A_t rfl (show 15 < 36 from by decide) g_t rfl (fun h167_31 W167 A_t => ?_)
  have Z0 : G.n0 ≤ _ := (Wr.size W167).symm ▸ Z0
  have K0 := K0.wr W167 (Or.inr sz_t)
  have A_t : Av G.Z h167_31 t .char [(.int (nar .char c0)), (.int (nar .char c1)), (.int (nar .char c2)), (.int (nar .char c3)), (.int (nar .char c4)), (.int (nar .char c5)), (.int (nar .char c6)), (.int (nar .char c7)), (.int (45 : Int32)), (.int (nar .char c8)), (.int (nar .char c9)), (.int (nar .char c10)), (.int (nar .char c11)), (.int (45 : Int32)), (.int (nar .char c12)), (.int (nar .char c13)), (.int (0 : Int32)), (.int (0 : Int32)), (.int (0 : Int32)), (.int (0 : Int32)), (.int (0 : Int32)), (.int (0 : Int32)), (.int (0 : Int32)), (.int (0 : Int32)), (.int (0 : Int32)), (.int (0 : Int32)), (.int (0 : Int32)), (.int (0 : Int32)), (.int (0 : Int32)), (.int (0 : Int32)), (.int (0 : Int32)), (.int (0 : Int32)), (.int (0 : Int32)), (.int (0 : Int32)), (.int (0 : Int32)), (.int (0 : Int32))] := A_t
  refine N.aload C (pc' := 170) d1_168 rfl rfl rfl ?_
  refine N.bipush C (pc' := 172) (z := 16) d1_170 rfl rfl ?_
  refine N.lloadN C (pc' := 173) d1_172 rfl rfl ?_
  refine N.iconst C (pc' := 174) (z := 4) d1_173 rfl rfl ?_
  refine N.callS C (pc' := 177) [(.long hh), (.int (4 : Int32))] d1_174 (C.w (i := 5) rfl) (C.w (i := 6) rfl) (C.w (i := 2) rfl) (C.w (i := 7) rfl) (by decide) (con2 G hw hh (4 : Int32) (own_nb hh 1) h167_31 (own_nib hh (4 : Int32) 1 (by decide) (by decide) (by decide)) (own_nb16 _ _)) (lenOf pd__JI_C rfl) rfl (by decide) (show 2 + (4 + 11) + _ ≤ _ from by decide) (by decide) (by decide) (rest := [(.int (16 : Int32)), (.ref t)]) rfl rfl ?_
  rintro _ h174_32 ⟨c14, rfl, rfl, e14⟩
  show N G K rm1 Q h167_31 (0 + 1) (0 + 36) 177 #[.val (.long hh), .second, .val (.long ll), .second, .val (.ref t)] [(.int c14), (.int (16 : Int32)), (.ref t)]
  refine N.castore C (pc' := 178) (i := 16) d1_177 A_t rfl (show 16 < 36 from by decide) g_t rfl (fun h177_33 W177 A_t => ?_)
  have Z0 : G.n0 ≤ _ := (Wr.size W177).symm ▸ Z0
  have K0 := K0.wr W177 (Or.inr sz_t)
  have A_t : Av G.Z h177_33 t .char [(.int (nar .char c0)), (.int (nar .char c1)), (.int (nar .char c2)), (.int (nar .char c3)), (.int (nar .char c4)), (.int (nar .char c5)), (.int (nar .char c6)), (.int (nar .char c7)), (.int (45 : Int32)), (.int (nar .char c8)), (.int (nar .char c9)), (.int (nar .char c10)), (.int (nar .char c11)), (.int (45 : Int32)), (.int (nar .char c12)), (.int (nar .char c13)), (.int (nar .char c14)), (.int (0 : Int32)), (.int (0 : Int32)), (.int (0 : Int32)), (.int (0 : Int32)), (.int (0 : Int32)), (.int (0 : Int32)), (.int (0 : Int32)), (.int (0 : Int32)), (.int (0 : Int32)), (.int (0 : Int32)), (.int (0 : Int32)), (.int (0 : Int32)), (.int (0 : Int32)), (.int (0 : Int32)), (.int (0 : Int32)), (.int (0 : Int32)), (.int (0 : Int32)), (.int (0 : Int32)), (.int (0 : Int32))] := A_t
  refine N.aload C (pc' := 180) d1_178 rfl rfl rfl ?_
  refine N.bipush C (pc' := 182) (z := 17) d1_180 rfl rfl ?_
  refine N.lloadN C (pc' := 183) d1_182 rfl rfl ?_
  refine N.iconst C (pc' := 184) (z := 0) d1_183 rfl rfl ?_
  refine N.callS C (pc' := 187) [(.long hh), (.int (0 : Int32))] d1_184 (C.w (i := 5) rfl) (C.w (i := 6) rfl) (C.w (i := 2) rfl) (C.w (i := 7) rfl) (by decide) (con2 G hw hh (0 : Int32) (own_nb hh 0) h177_33 (own_nib0 hh) (own_nb16 _ _)) (lenOf pd__JI_C rfl) rfl (by decide) (show 2 + (4 + 11) + _ ≤ _ from by decide) (by decide) (by decide) (rest := [(.int (17 : Int32)), (.ref t)]) rfl rfl ?_
  rintro _ h184_34 ⟨c15, rfl, rfl, e15⟩
  show N G K rm1 Q h177_33 (0 + 1) (0 + 36) 187 #[.val (.long hh), .second, .val (.long ll), .second, .val (.ref t)] [(.int c15), (.int (17 : Int32)), (.ref t)]
  refine N.castore C (pc' := 188) (i := 17) d1_187 A_t rfl (show 17 < 36 from by decide) g_t rfl (fun h187_35 W187 A_t => ?_)
  have Z0 : G.n0 ≤ _ := (Wr.size W187).symm ▸ Z0
  have K0 := K0.wr W187 (Or.inr sz_t)
  have A_t : Av G.Z h187_35 t .char [(.int (nar .char c0)), (.int (nar .char c1)), (.int (nar .char c2)), (.int (nar .char c3)), (.int (nar .char c4)), (.int (nar .char c5)), (.int (nar .char c6)), (.int (nar .char c7)), (.int (45 : Int32)), (.int (nar .char c8)), (.int (nar .char c9)), (.int (nar .char c10)), (.int (nar .char c11)), (.int (45 : Int32)), (.int (nar .char c12)), (.int (nar .char c13)), (.int (nar .char c14)), (.int (nar .char c15)), (.int (0 : Int32)), (.int (0 : Int32)), (.int (0 : Int32)), (.int (0 : Int32)), (.int (0 : Int32)), (.int (0 : Int32)), (.int (0 : Int32)), (.int (0 : Int32)), (.int (0 : Int32)), (.int (0 : Int32)), (.int (0 : Int32)), (.int (0 : Int32)), (.int (0 : Int32)), (.int (0 : Int32)), (.int (0 : Int32)), (.int (0 : Int32)), (.int (0 : Int32)), (.int (0 : Int32))] := A_t
  refine N.aload C (pc' := 190) d1_188 rfl rfl rfl ?_
  refine N.bipush C (pc' := 192) (z := 18) d1_190 rfl rfl ?_
  refine N.bipush C (pc' := 194) (z := 45) d1_192 rfl rfl ?_
  refine N.castore C (pc' := 195) (i := 18) d1_194 A_t rfl (show 18 < 36 from by decide) g_t rfl (fun h194_36 W194 A_t => ?_)
  have Z0 : G.n0 ≤ _ := (Wr.size W194).symm ▸ Z0
  have K0 := K0.wr W194 (Or.inr sz_t)
  have A_t : Av G.Z h194_36 t .char [(.int (nar .char c0)), (.int (nar .char c1)), (.int (nar .char c2)), (.int (nar .char c3)), (.int (nar .char c4)), (.int (nar .char c5)), (.int (nar .char c6)), (.int (nar .char c7)), (.int (45 : Int32)), (.int (nar .char c8)), (.int (nar .char c9)), (.int (nar .char c10)), (.int (nar .char c11)), (.int (45 : Int32)), (.int (nar .char c12)), (.int (nar .char c13)), (.int (nar .char c14)), (.int (nar .char c15)), (.int (45 : Int32)), (.int (0 : Int32)), (.int (0 : Int32)), (.int (0 : Int32)), (.int (0 : Int32)), (.int (0 : Int32)), (.int (0 : Int32)), (.int (0 : Int32)), (.int (0 : Int32)), (.int (0 : Int32)), (.int (0 : Int32)), (.int (0 : Int32)), (.int (0 : Int32)), (.int (0 : Int32)), (.int (0 : Int32)), (.int (0 : Int32)), (.int (0 : Int32)), (.int (0 : Int32))] := A_t
  refine N.aload C (pc' := 197) d1_195 rfl rfl rfl ?_
  refine N.bipush C (pc' := 199) (z := 19) d1_197 rfl rfl ?_
  refine N.lloadN C (pc' := 200) d1_199 rfl rfl ?_
  refine N.bipush C (pc' := 202) (z := 60) d1_200 rfl rfl ?_
  refine N.callS C (pc' := 205) [(.long ll), (.int (60 : Int32))] d1_202 (C.w (i := 5) rfl) (C.w (i := 6) rfl) (C.w (i := 2) rfl) (C.w (i := 7) rfl) (by decide) (con2 G hw ll (60 : Int32) (own_nb ll 15) h194_36 (own_nib ll (60 : Int32) 15 (by decide) (by decide) (by decide)) (own_nb16 _ _)) (lenOf pd__JI_C rfl) rfl (by decide) (show 2 + (4 + 11) + _ ≤ _ from by decide) (by decide) (by decide) (rest := [(.int (19 : Int32)), (.ref t)]) rfl rfl ?_
  rintro _ h202_37 ⟨c16, rfl, rfl, e16⟩
  show N G K rm1 Q h194_36 (0 + 1) (0 + 36) 205 #[.val (.long hh), .second, .val (.long ll), .second, .val (.ref t)] [(.int c16), (.int (19 : Int32)), (.ref t)]
  refine N.castore C (pc' := 206) (i := 19) d1_205 A_t rfl (show 19 < 36 from by decide) g_t rfl (fun h205_38 W205 A_t => ?_)
  have Z0 : G.n0 ≤ _ := (Wr.size W205).symm ▸ Z0
  have K0 := K0.wr W205 (Or.inr sz_t)
  have A_t : Av G.Z h205_38 t .char [(.int (nar .char c0)), (.int (nar .char c1)), (.int (nar .char c2)), (.int (nar .char c3)), (.int (nar .char c4)), (.int (nar .char c5)), (.int (nar .char c6)), (.int (nar .char c7)), (.int (45 : Int32)), (.int (nar .char c8)), (.int (nar .char c9)), (.int (nar .char c10)), (.int (nar .char c11)), (.int (45 : Int32)), (.int (nar .char c12)), (.int (nar .char c13)), (.int (nar .char c14)), (.int (nar .char c15)), (.int (45 : Int32)), (.int (nar .char c16)), (.int (0 : Int32)), (.int (0 : Int32)), (.int (0 : Int32)), (.int (0 : Int32)), (.int (0 : Int32)), (.int (0 : Int32)), (.int (0 : Int32)), (.int (0 : Int32)), (.int (0 : Int32)), (.int (0 : Int32)), (.int (0 : Int32)), (.int (0 : Int32)), (.int (0 : Int32)), (.int (0 : Int32)), (.int (0 : Int32)), (.int (0 : Int32))] := A_t
  refine N.aload C (pc' := 208) d1_206 rfl rfl rfl ?_
  refine N.bipush C (pc' := 210) (z := 20) d1_208 rfl rfl ?_
  refine N.lloadN C (pc' := 211) d1_210 rfl rfl ?_
  refine N.bipush C (pc' := 213) (z := 56) d1_211 rfl rfl ?_
  refine N.callS C (pc' := 216) [(.long ll), (.int (56 : Int32))] d1_213 (C.w (i := 5) rfl) (C.w (i := 6) rfl) (C.w (i := 2) rfl) (C.w (i := 7) rfl) (by decide) (con2 G hw ll (56 : Int32) (own_nb ll 14) h205_38 (own_nib ll (56 : Int32) 14 (by decide) (by decide) (by decide)) (own_nb16 _ _)) (lenOf pd__JI_C rfl) rfl (by decide) (show 2 + (4 + 11) + _ ≤ _ from by decide) (by decide) (by decide) (rest := [(.int (20 : Int32)), (.ref t)]) rfl rfl ?_
  rintro _ h213_39 ⟨c17, rfl, rfl, e17⟩
  show N G K rm1 Q h205_38 (0 + 1) (0 + 36) 216 #[.val (.long hh), .second, .val (.long ll), .second, .val (.ref t)] [(.int c17), (.int (20 : Int32)), (.ref t)]
  refine N.castore C (pc' := 217) (i := 20) d1_216 A_t rfl (show 20 < 36 from by decide) g_t rfl (fun h216_40 W216 A_t => ?_)
  have Z0 : G.n0 ≤ _ := (Wr.size W216).symm ▸ Z0
  have K0 := K0.wr W216 (Or.inr sz_t)
  have A_t : Av G.Z h216_40 t .char [(.int (nar .char c0)), (.int (nar .char c1)), (.int (nar .char c2)), (.int (nar .char c3)), (.int (nar .char c4)), (.int (nar .char c5)), (.int (nar .char c6)), (.int (nar .char c7)), (.int (45 : Int32)), (.int (nar .char c8)), (.int (nar .char c9)), (.int (nar .char c10)), (.int (nar .char c11)), (.int (45 : Int32)), (.int (nar .char c12)), (.int (nar .char c13)), (.int (nar .char c14)), (.int (nar .char c15)), (.int (45 : Int32)), (.int (nar .char c16)), (.int (nar .char c17)), (.int (0 : Int32)), (.int (0 : Int32)), (.int (0 : Int32)), (.int (0 : Int32)), (.int (0 : Int32)), (.int (0 : Int32)), (.int (0 : Int32)), (.int (0 : Int32)), (.int (0 : Int32)), (.int (0 : Int32)), (.int (0 : Int32)), (.int (0 : Int32)), (.int (0 : Int32)), (.int (0 : Int32)), (.int (0 : Int32))] := A_t
  refine N.aload C (pc' := 219) d1_217 rfl rfl rfl ?_
  refine N.bipush C (pc' := 221) (z := 21) d1_219 rfl rfl ?_
  refine N.lloadN C (pc' := 222) d1_221 rfl rfl ?_
  refine N.bipush C (pc' := 224) (z := 52) d1_222 rfl rfl ?_
  refine N.callS C (pc' := 227) [(.long ll), (.int (52 : Int32))] d1_224 (C.w (i := 5) rfl) (C.w (i := 6) rfl) (C.w (i := 2) rfl) (C.w (i := 7) rfl) (by decide) (con2 G hw ll (52 : Int32) (own_nb ll 13) h216_40 (own_nib ll (52 : Int32) 13 (by decide) (by decide) (by decide)) (own_nb16 _ _)) (lenOf pd__JI_C rfl) rfl (by decide) (show 2 + (4 + 11) + _ ≤ _ from by decide) (by decide) (by decide) (rest := [(.int (21 : Int32)), (.ref t)]) rfl rfl ?_
  rintro _ h224_41 ⟨c18, rfl, rfl, e18⟩
  show N G K rm1 Q h216_40 (0 + 1) (0 + 36) 227 #[.val (.long hh), .second, .val (.long ll), .second, .val (.ref t)] [(.int c18), (.int (21 : Int32)), (.ref t)]
  refine N.castore C (pc' := 228) (i := 21) d1_227 A_t rfl (show 21 < 36 from by decide) g_t rfl (fun h227_42 W227 A_t => ?_)
  have Z0 : G.n0 ≤ _ := (Wr.size W227).symm ▸ Z0
  have K0 := K0.wr W227 (Or.inr sz_t)
  have A_t : Av G.Z h227_42 t .char [(.int (nar .char c0)), (.int (nar .char c1)), (.int (nar .char c2)), (.int (nar .char c3)), (.int (nar .char c4)), (.int (nar .char c5)), (.int (nar .char c6)), (.int (nar .char c7)), (.int (45 : Int32)), (.int (nar .char c8)), (.int (nar .char c9)), (.int (nar .char c10)), (.int (nar .char c11)), (.int (45 : Int32)), (.int (nar .char c12)), (.int (nar .char c13)), (.int (nar .char c14)), (.int (nar .char c15)), (.int (45 : Int32)), (.int (nar .char c16)), (.int (nar .char c17)), (.int (nar .char c18)), (.int (0 : Int32)), (.int (0 : Int32)), (.int (0 : Int32)), (.int (0 : Int32)), (.int (0 : Int32)), (.int (0 : Int32)), (.int (0 : Int32)), (.int (0 : Int32)), (.int (0 : Int32)), (.int (0 : Int32)), (.int (0 : Int32)), (.int (0 : Int32)), (.int (0 : Int32)), (.int (0 : Int32))] := A_t
  refine N.aload C (pc' := 230) d1_228 rfl rfl rfl ?_
  refine N.bipush C (pc' := 232) (z := 22) d1_230 rfl rfl ?_
  refine N.lloadN C (pc' := 233) d1_232 rfl rfl ?_
  refine N.bipush C (pc' := 235) (z := 48) d1_233 rfl rfl ?_
  refine N.callS C (pc' := 238) [(.long ll), (.int (48 : Int32))] d1_235 (C.w (i := 5) rfl) (C.w (i := 6) rfl) (C.w (i := 2) rfl) (C.w (i := 7) rfl) (by decide) (con2 G hw ll (48 : Int32) (own_nb ll 12) h227_42 (own_nib ll (48 : Int32) 12 (by decide) (by decide) (by decide)) (own_nb16 _ _)) (lenOf pd__JI_C rfl) rfl (by decide) (show 2 + (4 + 11) + _ ≤ _ from by decide) (by decide) (by decide) (rest := [(.int (22 : Int32)), (.ref t)]) rfl rfl ?_
  rintro _ h235_43 ⟨c19, rfl, rfl, e19⟩
  show N G K rm1 Q h227_42 (0 + 1) (0 + 36) 238 #[.val (.long hh), .second, .val (.long ll), .second, .val (.ref t)] [(.int c19), (.int (22 : Int32)), (.ref t)]
  refine N.castore C (pc' := 239) (i := 22) d1_238 A_t rfl (show 22 < 36 from by decide) g_t rfl (fun h238_44 W238 A_t => ?_)
  have Z0 : G.n0 ≤ _ := (Wr.size W238).symm ▸ Z0
  have K0 := K0.wr W238 (Or.inr sz_t)
  have A_t : Av G.Z h238_44 t .char [(.int (nar .char c0)), (.int (nar .char c1)), (.int (nar .char c2)), (.int (nar .char c3)), (.int (nar .char c4)), (.int (nar .char c5)), (.int (nar .char c6)), (.int (nar .char c7)), (.int (45 : Int32)), (.int (nar .char c8)), (.int (nar .char c9)), (.int (nar .char c10)), (.int (nar .char c11)), (.int (45 : Int32)), (.int (nar .char c12)), (.int (nar .char c13)), (.int (nar .char c14)), (.int (nar .char c15)), (.int (45 : Int32)), (.int (nar .char c16)), (.int (nar .char c17)), (.int (nar .char c18)), (.int (nar .char c19)), (.int (0 : Int32)), (.int (0 : Int32)), (.int (0 : Int32)), (.int (0 : Int32)), (.int (0 : Int32)), (.int (0 : Int32)), (.int (0 : Int32)), (.int (0 : Int32)), (.int (0 : Int32)), (.int (0 : Int32)), (.int (0 : Int32)), (.int (0 : Int32)), (.int (0 : Int32))] := A_t
  refine N.aload C (pc' := 241) d1_239 rfl rfl rfl ?_
  refine N.bipush C (pc' := 243) (z := 23) d1_241 rfl rfl ?_
  refine N.bipush C (pc' := 245) (z := 45) d1_243 rfl rfl ?_
  refine N.castore C (pc' := 246) (i := 23) d1_245 A_t rfl (show 23 < 36 from by decide) g_t rfl (fun h245_45 W245 A_t => ?_)
  have Z0 : G.n0 ≤ _ := (Wr.size W245).symm ▸ Z0
  have K0 := K0.wr W245 (Or.inr sz_t)
  have A_t : Av G.Z h245_45 t .char [(.int (nar .char c0)), (.int (nar .char c1)), (.int (nar .char c2)), (.int (nar .char c3)), (.int (nar .char c4)), (.int (nar .char c5)), (.int (nar .char c6)), (.int (nar .char c7)), (.int (45 : Int32)), (.int (nar .char c8)), (.int (nar .char c9)), (.int (nar .char c10)), (.int (nar .char c11)), (.int (45 : Int32)), (.int (nar .char c12)), (.int (nar .char c13)), (.int (nar .char c14)), (.int (nar .char c15)), (.int (45 : Int32)), (.int (nar .char c16)), (.int (nar .char c17)), (.int (nar .char c18)), (.int (nar .char c19)), (.int (45 : Int32)), (.int (0 : Int32)), (.int (0 : Int32)), (.int (0 : Int32)), (.int (0 : Int32)), (.int (0 : Int32)), (.int (0 : Int32)), (.int (0 : Int32)), (.int (0 : Int32)), (.int (0 : Int32)), (.int (0 : Int32)), (.int (0 : Int32)), (.int (0 : Int32))] := A_t
  refine N.aload C (pc' := 248) d1_246 rfl rfl rfl ?_
  refine N.bipush C (pc' := 250) (z := 24) d1_248 rfl rfl ?_
  refine N.lloadN C (pc' := 251) d1_250 rfl rfl ?_
  refine N.bipush C (pc' := 253) (z := 44) d1_251 rfl rfl ?_
  refine N.callS C (pc' := 256) [(.long ll), (.int (44 : Int32))] d1_253 (C.w (i := 5) rfl) (C.w (i := 6) rfl) (C.w (i := 2) rfl) (C.w (i := 7) rfl) (by decide) (con2 G hw ll (44 : Int32) (own_nb ll 11) h245_45 (own_nib ll (44 : Int32) 11 (by decide) (by decide) (by decide)) (own_nb16 _ _)) (lenOf pd__JI_C rfl) rfl (by decide) (show 2 + (4 + 11) + _ ≤ _ from by decide) (by decide) (by decide) (rest := [(.int (24 : Int32)), (.ref t)]) rfl rfl ?_
  rintro _ h253_46 ⟨c20, rfl, rfl, e20⟩
  show N G K rm1 Q h245_45 (0 + 1) (0 + 36) 256 #[.val (.long hh), .second, .val (.long ll), .second, .val (.ref t)] [(.int c20), (.int (24 : Int32)), (.ref t)]
  refine N.castore C (pc' := 257) (i := 24) d1_256 A_t rfl (show 24 < 36 from by decide) g_t rfl (fun h256_47 W256 A_t => ?_)
  have Z0 : G.n0 ≤ _ := (Wr.size W256).symm ▸ Z0
  have K0 := K0.wr W256 (Or.inr sz_t)
  have A_t : Av G.Z h256_47 t .char [(.int (nar .char c0)), (.int (nar .char c1)), (.int (nar .char c2)), (.int (nar .char c3)), (.int (nar .char c4)), (.int (nar .char c5)), (.int (nar .char c6)), (.int (nar .char c7)), (.int (45 : Int32)), (.int (nar .char c8)), (.int (nar .char c9)), (.int (nar .char c10)), (.int (nar .char c11)), (.int (45 : Int32)), (.int (nar .char c12)), (.int (nar .char c13)), (.int (nar .char c14)), (.int (nar .char c15)), (.int (45 : Int32)), (.int (nar .char c16)), (.int (nar .char c17)), (.int (nar .char c18)), (.int (nar .char c19)), (.int (45 : Int32)), (.int (nar .char c20)), (.int (0 : Int32)), (.int (0 : Int32)), (.int (0 : Int32)), (.int (0 : Int32)), (.int (0 : Int32)), (.int (0 : Int32)), (.int (0 : Int32)), (.int (0 : Int32)), (.int (0 : Int32)), (.int (0 : Int32)), (.int (0 : Int32))] := A_t
  refine N.aload C (pc' := 259) d1_257 rfl rfl rfl ?_
  refine N.bipush C (pc' := 261) (z := 25) d1_259 rfl rfl ?_
  refine N.lloadN C (pc' := 262) d1_261 rfl rfl ?_
  refine N.bipush C (pc' := 264) (z := 40) d1_262 rfl rfl ?_
  refine N.callS C (pc' := 267) [(.long ll), (.int (40 : Int32))] d1_264 (C.w (i := 5) rfl) (C.w (i := 6) rfl) (C.w (i := 2) rfl) (C.w (i := 7) rfl) (by decide) (con2 G hw ll (40 : Int32) (own_nb ll 10) h256_47 (own_nib ll (40 : Int32) 10 (by decide) (by decide) (by decide)) (own_nb16 _ _)) (lenOf pd__JI_C rfl) rfl (by decide) (show 2 + (4 + 11) + _ ≤ _ from by decide) (by decide) (by decide) (rest := [(.int (25 : Int32)), (.ref t)]) rfl rfl ?_
  rintro _ h264_48 ⟨c21, rfl, rfl, e21⟩
  show N G K rm1 Q h256_47 (0 + 1) (0 + 36) 267 #[.val (.long hh), .second, .val (.long ll), .second, .val (.ref t)] [(.int c21), (.int (25 : Int32)), (.ref t)]
  refine N.castore C (pc' := 268) (i := 25) d1_267 A_t rfl (show 25 < 36 from by decide) g_t rfl (fun h267_49 W267 A_t => ?_)
  have Z0 : G.n0 ≤ _ := (Wr.size W267).symm ▸ Z0
  have K0 := K0.wr W267 (Or.inr sz_t)
  have A_t : Av G.Z h267_49 t .char [(.int (nar .char c0)), (.int (nar .char c1)), (.int (nar .char c2)), (.int (nar .char c3)), (.int (nar .char c4)), (.int (nar .char c5)), (.int (nar .char c6)), (.int (nar .char c7)), (.int (45 : Int32)), (.int (nar .char c8)), (.int (nar .char c9)), (.int (nar .char c10)), (.int (nar .char c11)), (.int (45 : Int32)), (.int (nar .char c12)), (.int (nar .char c13)), (.int (nar .char c14)), (.int (nar .char c15)), (.int (45 : Int32)), (.int (nar .char c16)), (.int (nar .char c17)), (.int (nar .char c18)), (.int (nar .char c19)), (.int (45 : Int32)), (.int (nar .char c20)), (.int (nar .char c21)), (.int (0 : Int32)), (.int (0 : Int32)), (.int (0 : Int32)), (.int (0 : Int32)), (.int (0 : Int32)), (.int (0 : Int32)), (.int (0 : Int32)), (.int (0 : Int32)), (.int (0 : Int32)), (.int (0 : Int32))] := A_t
  refine N.aload C (pc' := 270) d1_268 rfl rfl rfl ?_
  refine N.bipush C (pc' := 272) (z := 26) d1_270 rfl rfl ?_
  refine N.lloadN C (pc' := 273) d1_272 rfl rfl ?_
  refine N.bipush C (pc' := 275) (z := 36) d1_273 rfl rfl ?_
  refine N.callS C (pc' := 278) [(.long ll), (.int (36 : Int32))] d1_275 (C.w (i := 5) rfl) (C.w (i := 6) rfl) (C.w (i := 2) rfl) (C.w (i := 7) rfl) (by decide) (con2 G hw ll (36 : Int32) (own_nb ll 9) h267_49 (own_nib ll (36 : Int32) 9 (by decide) (by decide) (by decide)) (own_nb16 _ _)) (lenOf pd__JI_C rfl) rfl (by decide) (show 2 + (4 + 11) + _ ≤ _ from by decide) (by decide) (by decide) (rest := [(.int (26 : Int32)), (.ref t)]) rfl rfl ?_
  rintro _ h275_50 ⟨c22, rfl, rfl, e22⟩
  show N G K rm1 Q h267_49 (0 + 1) (0 + 36) 278 #[.val (.long hh), .second, .val (.long ll), .second, .val (.ref t)] [(.int c22), (.int (26 : Int32)), (.ref t)]
  refine N.castore C (pc' := 279) (i := 26) d1_278 A_t rfl (show 26 < 36 from by decide) g_t rfl (fun h278_51 W278 A_t => ?_)
  have Z0 : G.n0 ≤ _ := (Wr.size W278).symm ▸ Z0
  have K0 := K0.wr W278 (Or.inr sz_t)
  have A_t : Av G.Z h278_51 t .char [(.int (nar .char c0)), (.int (nar .char c1)), (.int (nar .char c2)), (.int (nar .char c3)), (.int (nar .char c4)), (.int (nar .char c5)), (.int (nar .char c6)), (.int (nar .char c7)), (.int (45 : Int32)), (.int (nar .char c8)), (.int (nar .char c9)), (.int (nar .char c10)), (.int (nar .char c11)), (.int (45 : Int32)), (.int (nar .char c12)), (.int (nar .char c13)), (.int (nar .char c14)), (.int (nar .char c15)), (.int (45 : Int32)), (.int (nar .char c16)), (.int (nar .char c17)), (.int (nar .char c18)), (.int (nar .char c19)), (.int (45 : Int32)), (.int (nar .char c20)), (.int (nar .char c21)), (.int (nar .char c22)), (.int (0 : Int32)), (.int (0 : Int32)), (.int (0 : Int32)), (.int (0 : Int32)), (.int (0 : Int32)), (.int (0 : Int32)), (.int (0 : Int32)), (.int (0 : Int32)), (.int (0 : Int32))] := A_t
  refine N.aload C (pc' := 281) d1_279 rfl rfl rfl ?_
  refine N.bipush C (pc' := 283) (z := 27) d1_281 rfl rfl ?_
  refine N.lloadN C (pc' := 284) d1_283 rfl rfl ?_
  refine N.bipush C (pc' := 286) (z := 32) d1_284 rfl rfl ?_
  refine N.callS C (pc' := 289) [(.long ll), (.int (32 : Int32))] d1_286 (C.w (i := 5) rfl) (C.w (i := 6) rfl) (C.w (i := 2) rfl) (C.w (i := 7) rfl) (by decide) (con2 G hw ll (32 : Int32) (own_nb ll 8) h278_51 (own_nib ll (32 : Int32) 8 (by decide) (by decide) (by decide)) (own_nb16 _ _)) (lenOf pd__JI_C rfl) rfl (by decide) (show 2 + (4 + 11) + _ ≤ _ from by decide) (by decide) (by decide) (rest := [(.int (27 : Int32)), (.ref t)]) rfl rfl ?_
  rintro _ h286_52 ⟨c23, rfl, rfl, e23⟩
  show N G K rm1 Q h278_51 (0 + 1) (0 + 36) 289 #[.val (.long hh), .second, .val (.long ll), .second, .val (.ref t)] [(.int c23), (.int (27 : Int32)), (.ref t)]
  refine N.castore C (pc' := 290) (i := 27) d1_289 A_t rfl (show 27 < 36 from by decide) g_t rfl (fun h289_53 W289 A_t => ?_)
  have Z0 : G.n0 ≤ _ := (Wr.size W289).symm ▸ Z0
  have K0 := K0.wr W289 (Or.inr sz_t)
  have A_t : Av G.Z h289_53 t .char [(.int (nar .char c0)), (.int (nar .char c1)), (.int (nar .char c2)), (.int (nar .char c3)), (.int (nar .char c4)), (.int (nar .char c5)), (.int (nar .char c6)), (.int (nar .char c7)), (.int (45 : Int32)), (.int (nar .char c8)), (.int (nar .char c9)), (.int (nar .char c10)), (.int (nar .char c11)), (.int (45 : Int32)), (.int (nar .char c12)), (.int (nar .char c13)), (.int (nar .char c14)), (.int (nar .char c15)), (.int (45 : Int32)), (.int (nar .char c16)), (.int (nar .char c17)), (.int (nar .char c18)), (.int (nar .char c19)), (.int (45 : Int32)), (.int (nar .char c20)), (.int (nar .char c21)), (.int (nar .char c22)), (.int (nar .char c23)), (.int (0 : Int32)), (.int (0 : Int32)), (.int (0 : Int32)), (.int (0 : Int32)), (.int (0 : Int32)), (.int (0 : Int32)), (.int (0 : Int32)), (.int (0 : Int32))] := A_t
  refine N.aload C (pc' := 292) d1_290 rfl rfl rfl ?_
  refine N.bipush C (pc' := 294) (z := 28) d1_292 rfl rfl ?_
  refine N.lloadN C (pc' := 295) d1_294 rfl rfl ?_
  refine N.bipush C (pc' := 297) (z := 28) d1_295 rfl rfl ?_
  refine N.callS C (pc' := 300) [(.long ll), (.int (28 : Int32))] d1_297 (C.w (i := 5) rfl) (C.w (i := 6) rfl) (C.w (i := 2) rfl) (C.w (i := 7) rfl) (by decide) (con2 G hw ll (28 : Int32) (own_nb ll 7) h289_53 (own_nib ll (28 : Int32) 7 (by decide) (by decide) (by decide)) (own_nb16 _ _)) (lenOf pd__JI_C rfl) rfl (by decide) (show 2 + (4 + 11) + _ ≤ _ from by decide) (by decide) (by decide) (rest := [(.int (28 : Int32)), (.ref t)]) rfl rfl ?_
  rintro _ h297_54 ⟨c24, rfl, rfl, e24⟩
  show N G K rm1 Q h289_53 (0 + 1) (0 + 36) 300 #[.val (.long hh), .second, .val (.long ll), .second, .val (.ref t)] [(.int c24), (.int (28 : Int32)), (.ref t)]
  refine N.castore C (pc' := 301) (i := 28) d1_300 A_t rfl (show 28 < 36 from by decide) g_t rfl (fun h300_55 W300 A_t => ?_)
  have Z0 : G.n0 ≤ _ := (Wr.size W300).symm ▸ Z0
  have K0 := K0.wr W300 (Or.inr sz_t)
  have A_t : Av G.Z h300_55 t .char [(.int (nar .char c0)), (.int (nar .char c1)), (.int (nar .char c2)), (.int (nar .char c3)), (.int (nar .char c4)), (.int (nar .char c5)), (.int (nar .char c6)), (.int (nar .char c7)), (.int (45 : Int32)), (.int (nar .char c8)), (.int (nar .char c9)), (.int (nar .char c10)), (.int (nar .char c11)), (.int (45 : Int32)), (.int (nar .char c12)), (.int (nar .char c13)), (.int (nar .char c14)), (.int (nar .char c15)), (.int (45 : Int32)), (.int (nar .char c16)), (.int (nar .char c17)), (.int (nar .char c18)), (.int (nar .char c19)), (.int (45 : Int32)), (.int (nar .char c20)), (.int (nar .char c21)), (.int (nar .char c22)), (.int (nar .char c23)), (.int (nar .char c24)), (.int (0 : Int32)), (.int (0 : Int32)), (.int (0 : Int32)), (.int (0 : Int32)), (.int (0 : Int32)), (.int (0 : Int32)), (.int (0 : Int32))] := A_t
  refine N.aload C (pc' := 303) d1_301 rfl rfl rfl ?_
  refine N.bipush C (pc' := 305) (z := 29) d1_303 rfl rfl ?_
  refine N.lloadN C (pc' := 306) d1_305 rfl rfl ?_
  refine N.bipush C (pc' := 308) (z := 24) d1_306 rfl rfl ?_
  refine N.callS C (pc' := 311) [(.long ll), (.int (24 : Int32))] d1_308 (C.w (i := 5) rfl) (C.w (i := 6) rfl) (C.w (i := 2) rfl) (C.w (i := 7) rfl) (by decide) (con2 G hw ll (24 : Int32) (own_nb ll 6) h300_55 (own_nib ll (24 : Int32) 6 (by decide) (by decide) (by decide)) (own_nb16 _ _)) (lenOf pd__JI_C rfl) rfl (by decide) (show 2 + (4 + 11) + _ ≤ _ from by decide) (by decide) (by decide) (rest := [(.int (29 : Int32)), (.ref t)]) rfl rfl ?_
  rintro _ h308_56 ⟨c25, rfl, rfl, e25⟩
  show N G K rm1 Q h300_55 (0 + 1) (0 + 36) 311 #[.val (.long hh), .second, .val (.long ll), .second, .val (.ref t)] [(.int c25), (.int (29 : Int32)), (.ref t)]
  refine N.castore C (pc' := 312) (i := 29) d1_311 A_t rfl (show 29 < 36 from by decide) g_t rfl (fun h311_57 W311 A_t => ?_)
  have Z0 : G.n0 ≤ _ := (Wr.size W311).symm ▸ Z0
  have K0 := K0.wr W311 (Or.inr sz_t)
  have A_t : Av G.Z h311_57 t .char [(.int (nar .char c0)), (.int (nar .char c1)), (.int (nar .char c2)), (.int (nar .char c3)), (.int (nar .char c4)), (.int (nar .char c5)), (.int (nar .char c6)), (.int (nar .char c7)), (.int (45 : Int32)), (.int (nar .char c8)), (.int (nar .char c9)), (.int (nar .char c10)), (.int (nar .char c11)), (.int (45 : Int32)), (.int (nar .char c12)), (.int (nar .char c13)), (.int (nar .char c14)), (.int (nar .char c15)), (.int (45 : Int32)), (.int (nar .char c16)), (.int (nar .char c17)), (.int (nar .char c18)), (.int (nar .char c19)), (.int (45 : Int32)), (.int (nar .char c20)), (.int (nar .char c21)), (.int (nar .char c22)), (.int (nar .char c23)), (.int (nar .char c24)), (.int (nar .char c25)), (.int (0 : Int32)), (.int (0 : Int32)), (.int (0 : Int32)), (.int (0 : Int32)), (.int (0 : Int32)), (.int (0 : Int32))] := A_t
  refine N.aload C (pc' := 314) d1_312 rfl rfl rfl ?_
  refine N.bipush C (pc' := 316) (z := 30) d1_314 rfl rfl ?_
  refine N.lloadN C (pc' := 317) d1_316 rfl rfl ?_
  refine N.bipush C (pc' := 319) (z := 20) d1_317 rfl rfl ?_
  refine N.callS C (pc' := 322) [(.long ll), (.int (20 : Int32))] d1_319 (C.w (i := 5) rfl) (C.w (i := 6) rfl) (C.w (i := 2) rfl) (C.w (i := 7) rfl) (by decide) (con2 G hw ll (20 : Int32) (own_nb ll 5) h311_57 (own_nib ll (20 : Int32) 5 (by decide) (by decide) (by decide)) (own_nb16 _ _)) (lenOf pd__JI_C rfl) rfl (by decide) (show 2 + (4 + 11) + _ ≤ _ from by decide) (by decide) (by decide) (rest := [(.int (30 : Int32)), (.ref t)]) rfl rfl ?_
  rintro _ h319_58 ⟨c26, rfl, rfl, e26⟩
  show N G K rm1 Q h311_57 (0 + 1) (0 + 36) 322 #[.val (.long hh), .second, .val (.long ll), .second, .val (.ref t)] [(.int c26), (.int (30 : Int32)), (.ref t)]
  refine N.castore C (pc' := 323) (i := 30) d1_322 A_t rfl (show 30 < 36 from by decide) g_t rfl (fun h322_59 W322 A_t => ?_)
  have Z0 : G.n0 ≤ _ := (Wr.size W322).symm ▸ Z0
  have K0 := K0.wr W322 (Or.inr sz_t)
  have A_t : Av G.Z h322_59 t .char [(.int (nar .char c0)), (.int (nar .char c1)), (.int (nar .char c2)), (.int (nar .char c3)), (.int (nar .char c4)), (.int (nar .char c5)), (.int (nar .char c6)), (.int (nar .char c7)), (.int (45 : Int32)), (.int (nar .char c8)), (.int (nar .char c9)), (.int (nar .char c10)), (.int (nar .char c11)), (.int (45 : Int32)), (.int (nar .char c12)), (.int (nar .char c13)), (.int (nar .char c14)), (.int (nar .char c15)), (.int (45 : Int32)), (.int (nar .char c16)), (.int (nar .char c17)), (.int (nar .char c18)), (.int (nar .char c19)), (.int (45 : Int32)), (.int (nar .char c20)), (.int (nar .char c21)), (.int (nar .char c22)), (.int (nar .char c23)), (.int (nar .char c24)), (.int (nar .char c25)), (.int (nar .char c26)), (.int (0 : Int32)), (.int (0 : Int32)), (.int (0 : Int32)), (.int (0 : Int32)), (.int (0 : Int32))] := A_t
  refine N.aload C (pc' := 325) d1_323 rfl rfl rfl ?_
  refine N.bipush C (pc' := 327) (z := 31) d1_325 rfl rfl ?_
  refine N.lloadN C (pc' := 328) d1_327 rfl rfl ?_
  refine N.bipush C (pc' := 330) (z := 16) d1_328 rfl rfl ?_
  refine N.callS C (pc' := 333) [(.long ll), (.int (16 : Int32))] d1_330 (C.w (i := 5) rfl) (C.w (i := 6) rfl) (C.w (i := 2) rfl) (C.w (i := 7) rfl) (by decide) (con2 G hw ll (16 : Int32) (own_nb ll 4) h322_59 (own_nib ll (16 : Int32) 4 (by decide) (by decide) (by decide)) (own_nb16 _ _)) (lenOf pd__JI_C rfl) rfl (by decide) (show 2 + (4 + 11) + _ ≤ _ from by decide) (by decide) (by decide) (rest := [(.int (31 : Int32)), (.ref t)]) rfl rfl ?_
  rintro _ h330_60 ⟨c27, rfl, rfl, e27⟩
  show N G K rm1 Q h322_59 (0 + 1) (0 + 36) 333 #[.val (.long hh), .second, .val (.long ll), .second, .val (.ref t)] [(.int c27), (.int (31 : Int32)), (.ref t)]
  refine N.castore C (pc' := 334) (i := 31) d1_333 A_t rfl (show 31 < 36 from by decide) g_t rfl (fun h333_61 W333 A_t => ?_)
  have Z0 : G.n0 ≤ _ := (Wr.size W333).symm ▸ Z0
  have K0 := K0.wr W333 (Or.inr sz_t)
  have A_t : Av G.Z h333_61 t .char [(.int (nar .char c0)), (.int (nar .char c1)), (.int (nar .char c2)), (.int (nar .char c3)), (.int (nar .char c4)), (.int (nar .char c5)), (.int (nar .char c6)), (.int (nar .char c7)), (.int (45 : Int32)), (.int (nar .char c8)), (.int (nar .char c9)), (.int (nar .char c10)), (.int (nar .char c11)), (.int (45 : Int32)), (.int (nar .char c12)), (.int (nar .char c13)), (.int (nar .char c14)), (.int (nar .char c15)), (.int (45 : Int32)), (.int (nar .char c16)), (.int (nar .char c17)), (.int (nar .char c18)), (.int (nar .char c19)), (.int (45 : Int32)), (.int (nar .char c20)), (.int (nar .char c21)), (.int (nar .char c22)), (.int (nar .char c23)), (.int (nar .char c24)), (.int (nar .char c25)), (.int (nar .char c26)), (.int (nar .char c27)), (.int (0 : Int32)), (.int (0 : Int32)), (.int (0 : Int32)), (.int (0 : Int32))] := A_t
  refine N.aload C (pc' := 336) d1_334 rfl rfl rfl ?_
  refine N.bipush C (pc' := 338) (z := 32) d1_336 rfl rfl ?_
  refine N.lloadN C (pc' := 339) d1_338 rfl rfl ?_
  refine N.bipush C (pc' := 341) (z := 12) d1_339 rfl rfl ?_
  refine N.callS C (pc' := 344) [(.long ll), (.int (12 : Int32))] d1_341 (C.w (i := 5) rfl) (C.w (i := 6) rfl) (C.w (i := 2) rfl) (C.w (i := 7) rfl) (by decide) (con2 G hw ll (12 : Int32) (own_nb ll 3) h333_61 (own_nib ll (12 : Int32) 3 (by decide) (by decide) (by decide)) (own_nb16 _ _)) (lenOf pd__JI_C rfl) rfl (by decide) (show 2 + (4 + 11) + _ ≤ _ from by decide) (by decide) (by decide) (rest := [(.int (32 : Int32)), (.ref t)]) rfl rfl ?_
  rintro _ h341_62 ⟨c28, rfl, rfl, e28⟩
  show N G K rm1 Q h333_61 (0 + 1) (0 + 36) 344 #[.val (.long hh), .second, .val (.long ll), .second, .val (.ref t)] [(.int c28), (.int (32 : Int32)), (.ref t)]
  refine N.castore C (pc' := 345) (i := 32) d1_344 A_t rfl (show 32 < 36 from by decide) g_t rfl (fun h344_63 W344 A_t => ?_)
  have Z0 : G.n0 ≤ _ := (Wr.size W344).symm ▸ Z0
  have K0 := K0.wr W344 (Or.inr sz_t)
  have A_t : Av G.Z h344_63 t .char [(.int (nar .char c0)), (.int (nar .char c1)), (.int (nar .char c2)), (.int (nar .char c3)), (.int (nar .char c4)), (.int (nar .char c5)), (.int (nar .char c6)), (.int (nar .char c7)), (.int (45 : Int32)), (.int (nar .char c8)), (.int (nar .char c9)), (.int (nar .char c10)), (.int (nar .char c11)), (.int (45 : Int32)), (.int (nar .char c12)), (.int (nar .char c13)), (.int (nar .char c14)), (.int (nar .char c15)), (.int (45 : Int32)), (.int (nar .char c16)), (.int (nar .char c17)), (.int (nar .char c18)), (.int (nar .char c19)), (.int (45 : Int32)), (.int (nar .char c20)), (.int (nar .char c21)), (.int (nar .char c22)), (.int (nar .char c23)), (.int (nar .char c24)), (.int (nar .char c25)), (.int (nar .char c26)), (.int (nar .char c27)), (.int (nar .char c28)), (.int (0 : Int32)), (.int (0 : Int32)), (.int (0 : Int32))] := A_t
  refine N.aload C (pc' := 347) d1_345 rfl rfl rfl ?_
  refine N.bipush C (pc' := 349) (z := 33) d1_347 rfl rfl ?_
  refine N.lloadN C (pc' := 350) d1_349 rfl rfl ?_
  refine N.bipush C (pc' := 352) (z := 8) d1_350 rfl rfl ?_
  refine N.callS C (pc' := 355) [(.long ll), (.int (8 : Int32))] d1_352 (C.w (i := 5) rfl) (C.w (i := 6) rfl) (C.w (i := 2) rfl) (C.w (i := 7) rfl) (by decide) (con2 G hw ll (8 : Int32) (own_nb ll 2) h344_63 (own_nib ll (8 : Int32) 2 (by decide) (by decide) (by decide)) (own_nb16 _ _)) (lenOf pd__JI_C rfl) rfl (by decide) (show 2 + (4 + 11) + _ ≤ _ from by decide) (by decide) (by decide) (rest := [(.int (33 : Int32)), (.ref t)]) rfl rfl ?_
  rintro _ h352_64 ⟨c29, rfl, rfl, e29⟩
  show N G K rm1 Q h344_63 (0 + 1) (0 + 36) 355 #[.val (.long hh), .second, .val (.long ll), .second, .val (.ref t)] [(.int c29), (.int (33 : Int32)), (.ref t)]
  refine N.castore C (pc' := 356) (i := 33) d1_355 A_t rfl (show 33 < 36 from by decide) g_t rfl (fun h355_65 W355 A_t => ?_)
  have Z0 : G.n0 ≤ _ := (Wr.size W355).symm ▸ Z0
  have K0 := K0.wr W355 (Or.inr sz_t)
  have A_t : Av G.Z h355_65 t .char [(.int (nar .char c0)), (.int (nar .char c1)), (.int (nar .char c2)), (.int (nar .char c3)), (.int (nar .char c4)), (.int (nar .char c5)), (.int (nar .char c6)), (.int (nar .char c7)), (.int (45 : Int32)), (.int (nar .char c8)), (.int (nar .char c9)), (.int (nar .char c10)), (.int (nar .char c11)), (.int (45 : Int32)), (.int (nar .char c12)), (.int (nar .char c13)), (.int (nar .char c14)), (.int (nar .char c15)), (.int (45 : Int32)), (.int (nar .char c16)), (.int (nar .char c17)), (.int (nar .char c18)), (.int (nar .char c19)), (.int (45 : Int32)), (.int (nar .char c20)), (.int (nar .char c21)), (.int (nar .char c22)), (.int (nar .char c23)), (.int (nar .char c24)), (.int (nar .char c25)), (.int (nar .char c26)), (.int (nar .char c27)), (.int (nar .char c28)), (.int (nar .char c29)), (.int (0 : Int32)), (.int (0 : Int32))] := A_t
  refine N.aload C (pc' := 358) d1_356 rfl rfl rfl ?_
  refine N.bipush C (pc' := 360) (z := 34) d1_358 rfl rfl ?_
  refine N.lloadN C (pc' := 361) d1_360 rfl rfl ?_
  refine N.iconst C (pc' := 362) (z := 4) d1_361 rfl rfl ?_
  refine N.callS C (pc' := 365) [(.long ll), (.int (4 : Int32))] d1_362 (C.w (i := 5) rfl) (C.w (i := 6) rfl) (C.w (i := 2) rfl) (C.w (i := 7) rfl) (by decide) (con2 G hw ll (4 : Int32) (own_nb ll 1) h355_65 (own_nib ll (4 : Int32) 1 (by decide) (by decide) (by decide)) (own_nb16 _ _)) (lenOf pd__JI_C rfl) rfl (by decide) (show 2 + (4 + 11) + _ ≤ _ from by decide) (by decide) (by decide) (rest := [(.int (34 : Int32)), (.ref t)]) rfl rfl ?_
  rintro _ h362_66 ⟨c30, rfl, rfl, e30⟩
  show N G K rm1 Q h355_65 (0 + 1) (0 + 36) 365 #[.val (.long hh), .second, .val (.long ll), .second, .val (.ref t)] [(.int c30), (.int (34 : Int32)), (.ref t)]
  refine N.castore C (pc' := 366) (i := 34) d1_365 A_t rfl (show 34 < 36 from by decide) g_t rfl (fun h365_67 W365 A_t => ?_)
  have Z0 : G.n0 ≤ _ := (Wr.size W365).symm ▸ Z0
  have K0 := K0.wr W365 (Or.inr sz_t)
  have A_t : Av G.Z h365_67 t .char [(.int (nar .char c0)), (.int (nar .char c1)), (.int (nar .char c2)), (.int (nar .char c3)), (.int (nar .char c4)), (.int (nar .char c5)), (.int (nar .char c6)), (.int (nar .char c7)), (.int (45 : Int32)), (.int (nar .char c8)), (.int (nar .char c9)), (.int (nar .char c10)), (.int (nar .char c11)), (.int (45 : Int32)), (.int (nar .char c12)), (.int (nar .char c13)), (.int (nar .char c14)), (.int (nar .char c15)), (.int (45 : Int32)), (.int (nar .char c16)), (.int (nar .char c17)), (.int (nar .char c18)), (.int (nar .char c19)), (.int (45 : Int32)), (.int (nar .char c20)), (.int (nar .char c21)), (.int (nar .char c22)), (.int (nar .char c23)), (.int (nar .char c24)), (.int (nar .char c25)), (.int (nar .char c26)), (.int (nar .char c27)), (.int (nar .char c28)), (.int (nar .char c29)), (.int (nar .char c30)), (.int (0 : Int32))] := A_t
  refine N.aload C (pc' := 368) d1_366 rfl rfl rfl ?_
  refine N.bipush C (pc' := 370) (z := 35) d1_368 rfl rfl ?_
  refine N.lloadN C (pc' := 371) d1_370 rfl rfl ?_
  refine N.iconst C (pc' := 372) (z := 0) d1_371 rfl rfl ?_
  refine N.callS C (pc' := 375) [(.long ll), (.int (0 : Int32))] d1_372 (C.w (i := 5) rfl) (C.w (i := 6) rfl) (C.w (i := 2) rfl) (C.w (i := 7) rfl) (by decide) (con2 G hw ll (0 : Int32) (own_nb ll 0) h365_67 (own_nib0 ll) (own_nb16 _ _)) (lenOf pd__JI_C rfl) rfl (by decide) (show 2 + (4 + 11) + _ ≤ _ from by decide) (by decide) (by decide) (rest := [(.int (35 : Int32)), (.ref t)]) rfl rfl ?_
  rintro _ h372_68 ⟨c31, rfl, rfl, e31⟩
  show N G K rm1 Q h365_67 (0 + 1) (0 + 36) 375 #[.val (.long hh), .second, .val (.long ll), .second, .val (.ref t)] [(.int c31), (.int (35 : Int32)), (.ref t)]
  refine N.castore C (pc' := 376) (i := 35) d1_375 A_t rfl (show 35 < 36 from by decide) g_t rfl (fun h375_69 W375 A_t => ?_)
  have Z0 : G.n0 ≤ _ := (Wr.size W375).symm ▸ Z0
  have K0 := K0.wr W375 (Or.inr sz_t)
  have A_t : Av G.Z h375_69 t .char [(.int (nar .char c0)), (.int (nar .char c1)), (.int (nar .char c2)), (.int (nar .char c3)), (.int (nar .char c4)), (.int (nar .char c5)), (.int (nar .char c6)), (.int (nar .char c7)), (.int (45 : Int32)), (.int (nar .char c8)), (.int (nar .char c9)), (.int (nar .char c10)), (.int (nar .char c11)), (.int (45 : Int32)), (.int (nar .char c12)), (.int (nar .char c13)), (.int (nar .char c14)), (.int (nar .char c15)), (.int (45 : Int32)), (.int (nar .char c16)), (.int (nar .char c17)), (.int (nar .char c18)), (.int (nar .char c19)), (.int (45 : Int32)), (.int (nar .char c20)), (.int (nar .char c21)), (.int (nar .char c22)), (.int (nar .char c23)), (.int (nar .char c24)), (.int (nar .char c25)), (.int (nar .char c26)), (.int (nar .char c27)), (.int (nar .char c28)), (.int (nar .char c29)), (.int (nar .char c30)), (.int (nar .char c31))] := A_t
  refine N.aload C (pc' := 378) d1_376 rfl rfl rfl ?_
  have hT : own_T hh ll [(nar .char c0), (nar .char c1), (nar .char c2), (nar .char c3), (nar .char c4), (nar .char c5), (nar .char c6), (nar .char c7), (45 : Int32), (nar .char c8), (nar .char c9), (nar .char c10), (nar .char c11), (45 : Int32), (nar .char c12), (nar .char c13), (nar .char c14), (nar .char c15), (45 : Int32), (nar .char c16), (nar .char c17), (nar .char c18), (nar .char c19), (45 : Int32), (nar .char c20), (nar .char c21), (nar .char c22), (nar .char c23), (nar .char c24), (nar .char c25), (nar .char c26), (nar .char c27), (nar .char c28), (nar .char c29), (nar .char c30), (nar .char c31)] := by
    refine ⟨rfl, fun i hi => ?_⟩
    rcases own_36 i hi with rfl | rfl | rfl | rfl | rfl | rfl | rfl | rfl | rfl | rfl | rfl | rfl | rfl | rfl | rfl | rfl | rfl | rfl | rfl | rfl | rfl | rfl | rfl | rfl | rfl | rfl | rfl | rfl | rfl | rfl | rfl | rfl | rfl | rfl | rfl | rfl
    · exact ⟨_, rfl, own_one e0 (own_ccr' _ _).1 (own_ccr' _ _).2⟩
    · exact ⟨_, rfl, own_one e1 (own_ccr' _ _).1 (own_ccr' _ _).2⟩
    · exact ⟨_, rfl, own_one e2 (own_ccr' _ _).1 (own_ccr' _ _).2⟩
    · exact ⟨_, rfl, own_one e3 (own_ccr' _ _).1 (own_ccr' _ _).2⟩
    · exact ⟨_, rfl, own_one e4 (own_ccr' _ _).1 (own_ccr' _ _).2⟩
    · exact ⟨_, rfl, own_one e5 (own_ccr' _ _).1 (own_ccr' _ _).2⟩
    · exact ⟨_, rfl, own_one e6 (own_ccr' _ _).1 (own_ccr' _ _).2⟩
    · exact ⟨_, rfl, own_one e7 (own_ccr' _ _).1 (own_ccr' _ _).2⟩
    · exact ⟨_, rfl, rfl⟩
    · exact ⟨_, rfl, own_one e8 (own_ccr' _ _).1 (own_ccr' _ _).2⟩
    · exact ⟨_, rfl, own_one e9 (own_ccr' _ _).1 (own_ccr' _ _).2⟩
    · exact ⟨_, rfl, own_one e10 (own_ccr' _ _).1 (own_ccr' _ _).2⟩
    · exact ⟨_, rfl, own_one e11 (own_ccr' _ _).1 (own_ccr' _ _).2⟩
    · exact ⟨_, rfl, rfl⟩
    · exact ⟨_, rfl, own_one e12 (own_ccr' _ _).1 (own_ccr' _ _).2⟩
    · exact ⟨_, rfl, own_one e13 (own_ccr' _ _).1 (own_ccr' _ _).2⟩
    · exact ⟨_, rfl, own_one e14 (own_ccr' _ _).1 (own_ccr' _ _).2⟩
    · exact ⟨_, rfl, own_one e15 (own_ccr' _ _).1 (own_ccr' _ _).2⟩
    · exact ⟨_, rfl, rfl⟩
    · exact ⟨_, rfl, own_one e16 (own_ccr' _ _).1 (own_ccr' _ _).2⟩
    · exact ⟨_, rfl, own_one e17 (own_ccr' _ _).1 (own_ccr' _ _).2⟩
    · exact ⟨_, rfl, own_one e18 (own_ccr' _ _).1 (own_ccr' _ _).2⟩
    · exact ⟨_, rfl, own_one e19 (own_ccr' _ _).1 (own_ccr' _ _).2⟩
    · exact ⟨_, rfl, rfl⟩
    · exact ⟨_, rfl, own_one e20 (own_ccr' _ _).1 (own_ccr' _ _).2⟩
    · exact ⟨_, rfl, own_one e21 (own_ccr' _ _).1 (own_ccr' _ _).2⟩
    · exact ⟨_, rfl, own_one e22 (own_ccr' _ _).1 (own_ccr' _ _).2⟩
    · exact ⟨_, rfl, own_one e23 (own_ccr' _ _).1 (own_ccr' _ _).2⟩
    · exact ⟨_, rfl, own_one e24 (own_ccr' _ _).1 (own_ccr' _ _).2⟩
    · exact ⟨_, rfl, own_one e25 (own_ccr' _ _).1 (own_ccr' _ _).2⟩
    · exact ⟨_, rfl, own_one e26 (own_ccr' _ _).1 (own_ccr' _ _).2⟩
    · exact ⟨_, rfl, own_one e27 (own_ccr' _ _).1 (own_ccr' _ _).2⟩
    · exact ⟨_, rfl, own_one e28 (own_ccr' _ _).1 (own_ccr' _ _).2⟩
    · exact ⟨_, rfl, own_one e29 (own_ccr' _ _).1 (own_ccr' _ _).2⟩
    · exact ⟨_, rfl, own_one e30 (own_ccr' _ _).1 (own_ccr' _ _).2⟩
    · exact ⟨_, rfl, own_one e31 (own_ccr' _ _).1 (own_ccr' _ _).2⟩
  exact N.retA C rfl rfl d1_378 (by decide) (by decide) (by subst hQ; exact ⟨t, [(nar .char c0), (nar .char c1), (nar .char c2), (nar .char c3), (nar .char c4), (nar .char c5), (nar .char c6), (nar .char c7), (45 : Int32), (nar .char c8), (nar .char c9), (nar .char c10), (nar .char c11), (45 : Int32), (nar .char c12), (nar .char c13), (nar .char c14), (nar .char c15), (45 : Int32), (nar .char c16), (nar .char c17), (nar .char c18), (nar .char c19), (45 : Int32), (nar .char c20), (nar .char c21), (nar .char c22), (nar .char c23), (nar .char c24), (nar .char c25), (nar .char c26), (nar .char c27), (nar .char c28), (nar .char c29), (nar .char c30), (nar .char c31)], rfl, sz_t, K0, A_t, hT⟩)
set_option maxRecDepth 65536 in
set_option maxHeartbeats 40000000 in
theorem con11 (G : Gx) (hw : ∀ d ∈ tables_1, d.before G.a0 G.Z = true) (x : Addr) (m l : Int64) (h : Heap) (Z0 : G.n0 ≤ h.size) (g_x : G.n0 ≤ x) (E_x : Exa G.Z h x "java/util/UUID") (F_x_mostSigBits : Fld G.Z h x "java/util/UUID" "mostSigBits" "J" (.long (0 : Int64))) (F_x_leastSigBits : Fld G.Z h x "java/util/UUID" "leastSigBits" "J" (.long (0 : Int64))) :
    Con G (⟨"java/util/UUID", "<init>", "(JJ)V"⟩ : MethodName) jdk_2758_method_2_code 5 none rm11 #[(.ref x), (.long m), (.long l)] h (fun v h' => v = none ∧ Keep h h' [x] ∧ Fld G.Z h' x "java/util/UUID" "mostSigBits" "J" (.long m) ∧ Fld G.Z h' x "java/util/UUID" "leastSigBits" "J" (.long l)) := by
  refine Con.of (W := tables_1) (plainFor_of_name pn11) hw (fun mm => ef11 mm x m l) (fun K C => ?_)
  have C : Cx G K "java/util/UUID" "<init>" jdk_2758_method_2_code 5 none tables_1 := C
  generalize hQ : (fun v h' => v = none ∧ Keep h h' [x] ∧ Fld G.Z h' x "java/util/UUID" "mostSigBits" "J" (.long m) ∧ Fld G.Z h' x "java/util/UUID" "leastSigBits" "J" (.long l) : Option Value → Heap → Prop) = Q
  have K0 : Keep h h [x] := Keep.refl _ _
  refine N.aloadN C (pc' := 1) d11_0 rfl rfl rfl ?_
  refine N.initO C (pc' := 4) d11_1 (C.w (i := 56) rfl) (C.w (i := 16) rfl) (C.w (i := 17) rfl) rfl (by decide) (show 0 + 12 ≤ _ from by decide) rfl ?_
  refine N.aloadN C (pc' := 5) d11_4 rfl rfl rfl ?_
  refine N.lloadN C (pc' := 6) d11_5 rfl rfl ?_
  refine N.putF C (pc' := 9) d11_6 (C.w (i := 57) rfl) F_x_mostSigBits E_x (Or.inr ⟨(C.w (i := 58) rfl), rfl, rfl⟩) (C.w (i := 51) rfl) (ty := .long) (by decide) rfl rfl g_x rfl (fun h6_1 W6 => ?_)
  have Z0 : G.n0 ≤ _ := (Wr.size W6).symm ▸ Z0
  have F_x_mostSigBits := F_x_mostSigBits.same W6
  have F_x_leastSigBits := F_x_leastSigBits.other W6 (Or.inr (slot_ne (Or.inr (C.w (i := 60) rfl)) (Or.inr (C.w (i := 58) rfl)) (by decide) (t := .long) (t' := .long) (by decide) (by decide)))
  have E_x := E_x.wr W6
  have K0 := K0.wr W6 (Or.inl (List.mem_of_getElem? (i := 0) rfl))
  refine N.aloadN C (pc' := 10) d11_9 rfl rfl rfl ?_
  refine N.lloadN C (pc' := 11) d11_10 rfl rfl ?_
  refine N.putF C (pc' := 14) d11_11 (C.w (i := 59) rfl) F_x_leastSigBits E_x (Or.inr ⟨(C.w (i := 60) rfl), rfl, rfl⟩) (C.w (i := 51) rfl) (ty := .long) (by decide) rfl rfl g_x rfl (fun h11_2 W11 => ?_)
  have Z0 : G.n0 ≤ _ := (Wr.size W11).symm ▸ Z0
  have F_x_mostSigBits := F_x_mostSigBits.other W11 (Or.inr (slot_ne (Or.inr (C.w (i := 58) rfl)) (Or.inr (C.w (i := 60) rfl)) (by decide) (t := .long) (t' := .long) (by decide) (by decide)))
  have F_x_leastSigBits := F_x_leastSigBits.same W11
  have E_x := E_x.wr W11
  have K0 := K0.wr W11 (Or.inl (List.mem_of_getElem? (i := 0) rfl))
  exact N.ret0 C rfl d11_14 (by decide) (by decide) (by subst hQ; exact ⟨rfl, K0, F_x_mostSigBits, F_x_leastSigBits⟩)
set_option maxRecDepth 65536 in
set_option maxHeartbeats 40000000 in
theorem con12 (G : Gx) (hw : ∀ d ∈ tables_1, d.before G.a0 G.Z = true) (x : Addr) (z : Int64) (h : Heap) (F_x_mostSigBits : Fld G.Z h x "java/util/UUID" "mostSigBits" "J" (.long z)) :
    Con G (⟨"java/util/UUID", "getMostSignificantBits", "()J"⟩ : MethodName) jdk_2758_method_9_code 1 (some .long) rm12 #[(.ref x)] h (fun v h' => v = some (.long z) ∧ h = h') := by
  refine Con.of (W := tables_1) (plainFor_of_name pn12) hw (fun mm => ef12 mm x) (fun K C => ?_)
  have C : Cx G K "java/util/UUID" "getMostSignificantBits" jdk_2758_method_9_code 1 (some .long) tables_1 := C
  generalize hQ : (fun v h' => v = some (.long z) ∧ h = h' : Option Value → Heap → Prop) = Q
  refine N.aloadN C (pc' := 1) d12_0 rfl rfl rfl ?_
  refine N.getF C (pc' := 4) d12_1 (C.w (i := 57) rfl) F_x_mostSigBits rfl ?_
  exact N.retL C d12_4 (by decide) (by decide) (by subst hQ; exact ⟨rfl, rfl⟩)
set_option maxRecDepth 65536 in
set_option maxHeartbeats 40000000 in
theorem con13 (G : Gx) (hw : ∀ d ∈ tables_1, d.before G.a0 G.Z = true) (x : Addr) (z : Int64) (h : Heap) (F_x_leastSigBits : Fld G.Z h x "java/util/UUID" "leastSigBits" "J" (.long z)) :
    Con G (⟨"java/util/UUID", "getLeastSignificantBits", "()J"⟩ : MethodName) jdk_2758_method_8_code 1 (some .long) rm13 #[(.ref x)] h (fun v h' => v = some (.long z) ∧ h = h') := by
  refine Con.of (W := tables_1) (plainFor_of_name pn13) hw (fun mm => ef13 mm x) (fun K C => ?_)
  have C : Cx G K "java/util/UUID" "getLeastSignificantBits" jdk_2758_method_8_code 1 (some .long) tables_1 := C
  generalize hQ : (fun v h' => v = some (.long z) ∧ h = h' : Option Value → Heap → Prop) = Q
  refine N.aloadN C (pc' := 1) d13_0 rfl rfl rfl ?_
  refine N.getF C (pc' := 4) d13_1 (C.w (i := 59) rfl) F_x_leastSigBits rfl ?_
  exact N.retL C d13_4 (by decide) (by decide) (by subst hQ; exact ⟨rfl, rfl⟩)
set_option maxRecDepth 65536 in
set_option maxHeartbeats 40000000 in
theorem con6 (G : Gx) (hw : ∀ d ∈ tables_1, d.before G.a0 G.Z = true) (c : Int32) (h : Heap) (h0 : 0 ≤ c.toInt) (h1 : c.toInt < 128) (h2 : c.toInt < 65 ∨ 90 < c.toInt) :
    Con G (⟨"com/example/grantgraph/grantgraph/bench/Ids", "ascii", "(C)B"⟩ : MethodName) prog_9_method_7_code 1 (some .byte) rm6 #[(.int c)] h (fun v h' => ∃ z : Int32, v = some (.int z) ∧ h = h' ∧ z.toInt = c.toInt) := by
  refine Con.of (W := tables_1) (plainFor_of_name pn6) hw (fun mm => ef6 mm c) (fun K C => ?_)
  have C : Cx G K "com/example/grantgraph/grantgraph/bench/Ids" "ascii" prog_9_method_7_code 1 (some .byte) tables_1 := C
  generalize hQ : (fun v h' => ∃ z : Int32, v = some (.int z) ∧ h = h' ∧ z.toInt = c.toInt : Option Value → Heap → Prop) = Q
  refine N.iloadN C (pc' := 1) d6_0 rfl rfl ?_
  refine N.sipush C (pc' := 4) (z := 128) d6_1 rfl rfl ?_
  refine N.icmp C (pt := 24) (pf := 7) d6_4 rfl rfl (fun (hc4 : 128 ≤ c.toInt) => absurd (show False from by omega) id) (fun (hc4 : c.toInt < 128) => ?_)
  refine N.iloadN C (pc' := 8) d6_7 rfl rfl ?_
  refine N.bipush C (pc' := 10) (z := 65) d6_8 rfl rfl ?_
  refine N.icmp C (pt := 19) (pf := 13) d6_10 rfl rfl (fun (hc10 : c.toInt < 65) => ?_) (fun (hc10 : 65 ≤ c.toInt) => ?_)
  · refine N.iloadN C (pc' := 20) d6_19 rfl rfl ?_
    refine N.i2b C (pc' := 21) d6_20 rfl ?_
    refine N.goto C (pc' := 25) d6_21 rfl ?_
    exact N.retN C (by simp) rfl d6_25 (by decide) (by decide) (by subst hQ; exact ⟨_, rfl, rfl, own_asc h0 h1⟩)
  · refine N.iloadN C (pc' := 14) d6_13 rfl rfl ?_
    refine N.bipush C (pc' := 16) (z := 90) d6_14 rfl rfl ?_
    refine N.icmp C (pt := 24) (pf := 19) d6_16 rfl rfl (fun (hc16 : c.toInt ≤ 90) => absurd (show False from by omega) id) (fun (hc16 : 90 < c.toInt) => ?_)
    refine N.iloadN C (pc' := 20) d6_19 rfl rfl ?_
    refine N.i2b C (pc' := 21) d6_20 rfl ?_
    refine N.goto C (pc' := 25) d6_21 rfl ?_
    exact N.retN C (by simp) rfl d6_25 (by decide) (by decide) (by subst hQ; exact ⟨_, rfl, rfl, own_asc h0 h1⟩)
set_option maxRecDepth 65536 in
set_option maxHeartbeats 40000000 in
theorem con10 (G : Gx) (hw : ∀ d ∈ tables_1, d.before G.a0 G.Z = true) (tx w : Addr) (fr to : Int32) (a b : Nat) (ds : Nat → Nat) (tb : List Int32) (wl : List Value) (h : Heap) (hfr : fr.toInt = (a : Nat)) (hto : to.toInt = (b : Nat)) (hab : a ≤ b) (h12 : b - a ≤ 12) (hb36 : b ≤ 36) (hd16 : ∀ j, ds j < 16) (hdig : ∀ j, a ≤ j → j < b → ∃ c : Int32, tb[j]? = some c ∧ c.toInt = own_cc (ds j)) (A_tx : Av G.Z h tx .byte (tb.map .int)) (O : Old G.Z G.n0 h) (HX : own_HX G w wl) :
    Con G (⟨"com/example/grantgraph/grantgraph/graph/Uuids", "hexValue", "([BII)J"⟩ : MethodName) prog_38_method_7_code 8 (some .long) rm10 #[(.ref tx), (.int fr), (.int to)] h (fun v h' => ∃ r : Int64, v = some (.long r) ∧ h = h' ∧ r.toInt = own_hv ds a (b - a)) := by
  refine Con.of (W := tables_1) (plainFor_of_name pn10) hw (fun mm => ef10 mm tx fr to) (fun K C => ?_)
  have C : Cx G K "com/example/grantgraph/grantgraph/graph/Uuids" "hexValue" prog_38_method_7_code 8 (some .long) tables_1 := C
  generalize hQ : (fun v h' => ∃ r : Int64, v = some (.long r) ∧ h = h' ∧ r.toInt = own_hv ds a (b - a) : Option Value → Heap → Prop) = Q
  have hi := hfr
  have hk : a ≤ b := hab
  obtain ⟨k, hka⟩ : ∃ k, k = a := ⟨_, rfl⟩
  rw [← hka] at hi
  have ha : (0 : Int64).toInt = 0 := by decide
  refine N.lconst C (pc' := 1) (z := 0) d10_0 rfl rfl ?_
  refine N.lstoreN C (pc' := 2) (ls' := #[.val (.ref tx), .val (.int fr), .val (.int to), .val (.long (0 : Int64)), .second, .unset, .unset, .unset]) d10_1 rfl rfl ?_
  refine N.iloadN C (pc' := 3) d10_2 rfl rfl ?_
  refine N.istore C (pc' := 5) (ls' := #[.val (.ref tx), .val (.int fr), .val (.int to), .val (.long (0 : Int64)), .second, .val (.int fr), .unset, .unset]) d10_3 rfl rfl ?_
  have loop : ∀ (n : Nat) (acc : Int64) (i s6 s7 : Int32) (k m : Nat), b - k ≤ n → i.toInt = (k : Nat) → k ≤ b → a + m = k → acc.toInt = own_hv ds a m → N G K rm10 Q h 0 0 5 #[.val (.ref tx), .val (.int fr), .val (.int to), .val (.long acc), .second, .val (.int i), .val (.int s6), .val (.int s7)] [] := by
    intro n
    induction n using Nat.strongRecOn with
    | _ n ih =>
    intro acc i s6 s7 k m hn hi hk hm ha
    refine N.iload C (pc' := 7) d10_5 rfl rfl ?_
    refine N.iloadN C (pc' := 8) d10_7 rfl rfl ?_
    refine N.icmp C (pt := 65) (pf := 11) d10_8 rfl rfl (fun (hc8 : to.toInt ≤ i.toInt) => ?_) (fun (hc8 : i.toInt < to.toInt) => ?_)
    · refine N.lloadN C (pc' := 66) d10_65 rfl rfl ?_
      exact N.retL C d10_66 (by decide) (by decide) (by subst hQ; have e : b - a = m := (by omega); rw [e]; exact ⟨_, rfl, rfl, ha⟩)
    · refine N.aloadN C (pc' := 12) d10_11 rfl rfl rfl ?_
      refine N.iload C (pc' := 14) d10_12 rfl rfl ?_
      obtain ⟨c, hc1, hc2⟩ := hdig k (by omega) (by omega)
      have hcr := own_ccr (hd16 k)
      refine N.baload C (pc' := 15) (i := k) (v := (.int c)) d10_14 A_tx hi (own_pm hc1) rfl ?_
      refine N.sipush C (pc' := 18) (z := 255) d10_15 rfl rfl ?_
      refine N.iand C (pc' := 19) d10_18 rfl ?_
      have hch := own_m255 (c := c) (by omega) (by omega)
      generalize hd_ch : (c &&& (255 : Int32)) = ch at *
      refine N.istore C (pc' := 21) (ls' := #[.val (.ref tx), .val (.int fr), .val (.int to), .val (.long acc), .second, .val (.int i), .val (.int ch), .val (.int s7)]) d10_19 rfl rfl ?_
      obtain ⟨z, hz1, hz2⟩ := HX.2.2.2 (ds k) (hd16 k)
      refine N.iload C (pc' := 23) d10_21 rfl rfl ?_
      have S_HEX_DIGITS := HX.1.ext O.2
      have A_w := HX.2.1.ext O.2
      have len_w : (103 : Int32).toInt = ((wl.length : Nat) : Int) := by rw [HX.2.2.1]; decide
      refine N.getS C (pc' := 26) d10_23 (C.w (i := 48) rfl) S_HEX_DIGITS rfl ?_
      refine N.alen C (pc' := 27) (n := (103 : Int32)) d10_26 A_w len_w rfl ?_
      refine N.icmp C (pt := 39) (pf := 30) d10_27 rfl rfl (fun (hc27 : 103 ≤ ch.toInt) => absurd (show False from by omega) id) (fun (hc27 : ch.toInt < 103) => ?_)
      refine N.getS C (pc' := 33) d10_30 (C.w (i := 48) rfl) S_HEX_DIGITS rfl ?_
      refine N.iload C (pc' := 35) d10_33 rfl rfl ?_
      refine N.baload C (pc' := 36) (i := (own_cc (ds k)).toNat) (v := (.int z)) d10_35 A_w (by omega) hz1 rfl ?_
      refine N.goto C (pc' := 40) d10_36 rfl ?_
      refine N.istore C (pc' := 42) (ls' := #[.val (.ref tx), .val (.int fr), .val (.int to), .val (.long acc), .second, .val (.int i), .val (.int ch), .val (.int z)]) d10_40 rfl rfl ?_
      refine N.iload C (pc' := 44) d10_42 rfl rfl ?_
      refine N.ifc C (pt := 51) (pf := 47) d10_44 rfl rfl (fun (hc44 : 0 ≤ z.toInt) => ?_) (fun (hc44 : z.toInt < 0) => absurd (show False from by omega) id)
      refine N.lloadN C (pc' := 52) d10_51 rfl rfl ?_
      refine N.iconst C (pc' := 53) (z := 4) d10_52 rfl rfl ?_
      refine N.lshl C (pc' := 54) d10_53 rfl ?_
      refine N.iload C (pc' := 56) d10_54 rfl rfl ?_
      refine N.i2l C (pc' := 57) d10_56 rfl ?_
      refine N.lor C (pc' := 58) d10_57 rfl ?_
      refine N.lstoreN C (pc' := 59) (ls' := #[.val (.ref tx), .val (.int fr), .val (.int to), .val (.long (((acc <<< ((4 : Int32) &&& 0x3f).toInt64)) ||| (z.toInt64))), .second, .val (.int i), .val (.int ch), .val (.int z)]) d10_58 rfl rfl ?_
      refine N.iinc C (pc' := 62) (z := 1) (ls' := #[.val (.ref tx), .val (.int fr), .val (.int to), .val (.long (((acc <<< ((4 : Int32) &&& 0x3f).toInt64)) ||| (z.toInt64))), .second, .val (.int (i + (1 : Int32))), .val (.int ch), .val (.int z)]) d10_59 rfl rfl rfl rfl ?_
      refine N.goto C (pc' := 5) d10_62 rfl ?_
      exact ih _ (by omega) _ _ _ _ _ _ (Nat.le_refl _) (own_inc hi (by omega)) (by omega) (show a + (m + 1) = k + 1 from by omega) (by rw [own_acc ha (own_hv_bd hd16 a m).1 (by have := (own_hv_bd hd16 a m).2; have := own_p12 m (by omega); omega) hz2 (hd16 _)]; rw [show k = a + m from by omega]; rfl)
  refine N.iload C (pc' := 7) d10_5 rfl rfl ?_
  refine N.iloadN C (pc' := 8) d10_7 rfl rfl ?_
  refine N.icmp C (pt := 65) (pf := 11) d10_8 rfl rfl (fun (hc8 : to.toInt ≤ fr.toInt) => ?_) (fun (hc8 : fr.toInt < to.toInt) => ?_)
  · refine N.lloadN C (pc' := 66) d10_65 rfl rfl ?_
    exact N.retL C d10_66 (by decide) (by decide) (by subst hQ; have e : b - a = 0 := (by omega); rw [e]; exact ⟨_, rfl, rfl, ha⟩)
  · refine N.aloadN C (pc' := 12) d10_11 rfl rfl rfl ?_
    refine N.iload C (pc' := 14) d10_12 rfl rfl ?_
    obtain ⟨c, hc1, hc2⟩ := hdig k (by omega) (by omega)
    have hcr := own_ccr (hd16 k)
    refine N.baload C (pc' := 15) (i := k) (v := (.int c)) d10_14 A_tx hi (own_pm hc1) rfl ?_
    refine N.sipush C (pc' := 18) (z := 255) d10_15 rfl rfl ?_
    refine N.iand C (pc' := 19) d10_18 rfl ?_
    have hch := own_m255 (c := c) (by omega) (by omega)
    generalize hd_ch : (c &&& (255 : Int32)) = ch at *
    refine N.istore C (pc' := 21) (ls' := #[.val (.ref tx), .val (.int fr), .val (.int to), .val (.long (0 : Int64)), .second, .val (.int fr), .val (.int ch), .unset]) d10_19 rfl rfl ?_
    obtain ⟨z, hz1, hz2⟩ := HX.2.2.2 (ds k) (hd16 k)
    refine N.iload C (pc' := 23) d10_21 rfl rfl ?_
    have S_HEX_DIGITS := HX.1.ext O.2
    have A_w := HX.2.1.ext O.2
    have len_w : (103 : Int32).toInt = ((wl.length : Nat) : Int) := by rw [HX.2.2.1]; decide
    refine N.getS C (pc' := 26) d10_23 (C.w (i := 48) rfl) S_HEX_DIGITS rfl ?_
    refine N.alen C (pc' := 27) (n := (103 : Int32)) d10_26 A_w len_w rfl ?_
    refine N.icmp C (pt := 39) (pf := 30) d10_27 rfl rfl (fun (hc27 : 103 ≤ ch.toInt) => absurd (show False from by omega) id) (fun (hc27 : ch.toInt < 103) => ?_)
    refine N.getS C (pc' := 33) d10_30 (C.w (i := 48) rfl) S_HEX_DIGITS rfl ?_
    refine N.iload C (pc' := 35) d10_33 rfl rfl ?_
    refine N.baload C (pc' := 36) (i := (own_cc (ds k)).toNat) (v := (.int z)) d10_35 A_w (by omega) hz1 rfl ?_
    refine N.goto C (pc' := 40) d10_36 rfl ?_
    refine N.istore C (pc' := 42) (ls' := #[.val (.ref tx), .val (.int fr), .val (.int to), .val (.long (0 : Int64)), .second, .val (.int fr), .val (.int ch), .val (.int z)]) d10_40 rfl rfl ?_
    refine N.iload C (pc' := 44) d10_42 rfl rfl ?_
    refine N.ifc C (pt := 51) (pf := 47) d10_44 rfl rfl (fun (hc44 : 0 ≤ z.toInt) => ?_) (fun (hc44 : z.toInt < 0) => absurd (show False from by omega) id)
    refine N.lloadN C (pc' := 52) d10_51 rfl rfl ?_
    refine N.iconst C (pc' := 53) (z := 4) d10_52 rfl rfl ?_
    refine N.lshl C (pc' := 54) d10_53 rfl ?_
    refine N.iload C (pc' := 56) d10_54 rfl rfl ?_
    refine N.i2l C (pc' := 57) d10_56 rfl ?_
    refine N.lor C (pc' := 58) d10_57 rfl ?_
    refine N.lstoreN C (pc' := 59) (ls' := #[.val (.ref tx), .val (.int fr), .val (.int to), .val (.long ((((0 : Int64) <<< ((4 : Int32) &&& 0x3f).toInt64)) ||| (z.toInt64))), .second, .val (.int fr), .val (.int ch), .val (.int z)]) d10_58 rfl rfl ?_
    refine N.iinc C (pc' := 62) (z := 1) (ls' := #[.val (.ref tx), .val (.int fr), .val (.int to), .val (.long ((((0 : Int64) <<< ((4 : Int32) &&& 0x3f).toInt64)) ||| (z.toInt64))), .second, .val (.int (fr + (1 : Int32))), .val (.int ch), .val (.int z)]) d10_59 rfl rfl rfl rfl ?_
    refine N.goto C (pc' := 5) d10_62 rfl ?_
    exact loop _ _ _ _ _ _ _ (Nat.le_refl _) (own_inc hi (by omega)) (by omega) (show a + (0 + 1) = k + 1 from by omega) (by rw [own_acc ha (by decide) (by decide) hz2 (hd16 _), hka]; rfl)
set_option maxRecDepth 65536 in
set_option maxHeartbeats 40000000 in
theorem con9 (G : Gx) (hw : ∀ d ∈ tables_1, d.before G.a0 G.Z = true) (tx w : Addr) (hh ll : Int64) (tb : List Int32) (wl : List Value) (h : Heap) (hT : own_T hh ll tb) (Z0 : G.n0 ≤ h.size) (A_tx : Av G.Z h tx .byte (tb.map .int)) (O : Old G.Z G.n0 h) (HX : own_HX G w wl) :
    Con G (⟨"com/example/grantgraph/grantgraph/graph/Uuids", "digits", "([BI)Ljava/util/UUID;"⟩ : MethodName) prog_38_method_4_code 13 (some (.object "java/util/UUID")) rm9 #[(.ref tx), (.int (0 : Int32))] h (fun v h' => ∃ u : Addr, v = some (.ref u) ∧ h.size ≤ u ∧ Keep h h' [] ∧ Exa G.Z h' u "java/util/UUID" ∧ Fld G.Z h' u "java/util/UUID" "mostSigBits" "J" (.long hh) ∧ Fld G.Z h' u "java/util/UUID" "leastSigBits" "J" (.long ll)) := by
  refine Con.of (W := tables_1) (plainFor_of_name pn9) hw (fun mm => ef9 mm tx (0 : Int32)) (fun K C => ?_)
  have C : Cx G K "com/example/grantgraph/grantgraph/graph/Uuids" "digits" prog_38_method_4_code 13 (some (.object "java/util/UUID")) tables_1 := C
  generalize hQ : (fun v h' => ∃ u : Addr, v = some (.ref u) ∧ h.size ≤ u ∧ Keep h h' [] ∧ Exa G.Z h' u "java/util/UUID" ∧ Fld G.Z h' u "java/util/UUID" "mostSigBits" "J" (.long hh) ∧ Fld G.Z h' u "java/util/UUID" "leastSigBits" "J" (.long ll) : Option Value → Heap → Prop) = Q
  have K0 : Keep h h [] := Keep.refl _ _
  refine N.aconst_null C (pc' := 1) d9_0 rfl ?_
  refine N.astoreN C (pc' := 2) (ls' := #[.val (.ref tx), .val (.int (0 : Int32)), .val .null, .unset, .unset, .unset, .unset, .unset, .unset, .unset, .unset, .unset, .unset]) d9_1 rfl rfl rfl ?_
  refine N.aloadN C (pc' := 3) d9_2 rfl rfl rfl ?_
  refine N.iloadN C (pc' := 4) d9_3 rfl rfl ?_
  refine N.bipush C (pc' := 6) (z := 8) d9_4 rfl rfl ?_
  refine N.iadd C (pc' := 7) d9_6 rfl ?_
  show N G K rm9 Q h 0 0 7 #[.val (.ref tx), .val (.int (0 : Int32)), .val .null, .unset, .unset, .unset, .unset, .unset, .unset, .unset, .unset, .unset, .unset] [(.int (8 : Int32)), (.ref tx)]
  obtain ⟨k8, m8, d8⟩ := hT.2 8 (by decide)
  have d8 : k8.toInt = 45 := d8
  refine N.baload C (pc' := 8) (i := 8) (v := (.int k8)) d9_7 A_tx rfl (own_pm m8) rfl ?_
  refine N.bipush C (pc' := 10) (z := 45) d9_8 rfl rfl ?_
  refine N.icmp C (pt := 159) (pf := 13) d9_10 rfl rfl (fun (hc10 : ¬ k8 = (45 : Int32)) => absurd (show False from by exact hc10 (Int32.toInt_inj.mp d8)) id) (fun (hc10 : k8 = (45 : Int32)) => ?_)
  refine N.aloadN C (pc' := 14) d9_13 rfl rfl rfl ?_
  refine N.iloadN C (pc' := 15) d9_14 rfl rfl ?_
  refine N.bipush C (pc' := 17) (z := 13) d9_15 rfl rfl ?_
  refine N.iadd C (pc' := 18) d9_17 rfl ?_
  show N G K rm9 Q h 0 0 18 #[.val (.ref tx), .val (.int (0 : Int32)), .val .null, .unset, .unset, .unset, .unset, .unset, .unset, .unset, .unset, .unset, .unset] [(.int (13 : Int32)), (.ref tx)]
  obtain ⟨k13, m13, d13⟩ := hT.2 13 (by decide)
  have d13 : k13.toInt = 45 := d13
  refine N.baload C (pc' := 19) (i := 13) (v := (.int k13)) d9_18 A_tx rfl (own_pm m13) rfl ?_
  refine N.bipush C (pc' := 21) (z := 45) d9_19 rfl rfl ?_
  refine N.icmp C (pt := 159) (pf := 24) d9_21 rfl rfl (fun (hc21 : ¬ k13 = (45 : Int32)) => absurd (show False from by exact hc21 (Int32.toInt_inj.mp d13)) id) (fun (hc21 : k13 = (45 : Int32)) => ?_)
  refine N.aloadN C (pc' := 25) d9_24 rfl rfl rfl ?_
  refine N.iloadN C (pc' := 26) d9_25 rfl rfl ?_
  refine N.bipush C (pc' := 28) (z := 18) d9_26 rfl rfl ?_
  refine N.iadd C (pc' := 29) d9_28 rfl ?_
  show N G K rm9 Q h 0 0 29 #[.val (.ref tx), .val (.int (0 : Int32)), .val .null, .unset, .unset, .unset, .unset, .unset, .unset, .unset, .unset, .unset, .unset] [(.int (18 : Int32)), (.ref tx)]
  obtain ⟨k18, m18, d18⟩ := hT.2 18 (by decide)
  have d18 : k18.toInt = 45 := d18
  refine N.baload C (pc' := 30) (i := 18) (v := (.int k18)) d9_29 A_tx rfl (own_pm m18) rfl ?_
  refine N.bipush C (pc' := 32) (z := 45) d9_30 rfl rfl ?_
  refine N.icmp C (pt := 159) (pf := 35) d9_32 rfl rfl (fun (hc32 : ¬ k18 = (45 : Int32)) => absurd (show False from by exact hc32 (Int32.toInt_inj.mp d18)) id) (fun (hc32 : k18 = (45 : Int32)) => ?_)
  refine N.aloadN C (pc' := 36) d9_35 rfl rfl rfl ?_
  refine N.iloadN C (pc' := 37) d9_36 rfl rfl ?_
  refine N.bipush C (pc' := 39) (z := 23) d9_37 rfl rfl ?_
  refine N.iadd C (pc' := 40) d9_39 rfl ?_
  show N G K rm9 Q h 0 0 40 #[.val (.ref tx), .val (.int (0 : Int32)), .val .null, .unset, .unset, .unset, .unset, .unset, .unset, .unset, .unset, .unset, .unset] [(.int (23 : Int32)), (.ref tx)]
  obtain ⟨k23, m23, d23⟩ := hT.2 23 (by decide)
  have d23 : k23.toInt = 45 := d23
  refine N.baload C (pc' := 41) (i := 23) (v := (.int k23)) d9_40 A_tx rfl (own_pm m23) rfl ?_
  refine N.bipush C (pc' := 43) (z := 45) d9_41 rfl rfl ?_
  refine N.icmp C (pt := 159) (pf := 46) d9_43 rfl rfl (fun (hc43 : ¬ k23 = (45 : Int32)) => absurd (show False from by exact hc43 (Int32.toInt_inj.mp d23)) id) (fun (hc43 : k23 = (45 : Int32)) => ?_)
  refine N.aloadN C (pc' := 47) d9_46 rfl rfl rfl ?_
  refine N.iloadN C (pc' := 48) d9_47 rfl rfl ?_
  refine N.iloadN C (pc' := 49) d9_48 rfl rfl ?_
  refine N.bipush C (pc' := 51) (z := 8) d9_49 rfl rfl ?_
  refine N.iadd C (pc' := 52) d9_51 rfl ?_
  show N G K rm9 Q h 0 0 52 #[.val (.ref tx), .val (.int (0 : Int32)), .val .null, .unset, .unset, .unset, .unset, .unset, .unset, .unset, .unset, .unset, .unset] [(.int (8 : Int32)), (.int (0 : Int32)), (.ref tx)]
  refine N.callS C (pc' := 55) [(.ref tx), (.int (0 : Int32)), (.int (8 : Int32))] d9_52 (C.w (i := 45) rfl) (C.w (i := 46) rfl) (C.w (i := 40) rfl) (C.w (i := 47) rfl) (by decide) (con10 G hw tx w (0 : Int32) (8 : Int32) 0 8 (own_dh hh ll) tb wl h (by decide) (by decide) (by decide) (by decide) (by decide) (own_dh16 hh ll) (own_dig hT (by decide) (by decide) (by decide) (by decide) (by decide)) A_tx O HX) (lenOf pd___BII_J rfl) rfl (by decide) (show 0 + (8 + 11) + _ ≤ _ from by decide) (by decide) (by decide) (rest := []) rfl rfl ?_
  rintro _ h52_1 ⟨r1, rfl, rfl, er1⟩
  show N G K rm9 Q h 0 0 55 #[.val (.ref tx), .val (.int (0 : Int32)), .val .null, .unset, .unset, .unset, .unset, .unset, .unset, .unset, .unset, .unset, .unset] [(.long r1)]
  refine N.lstoreN C (pc' := 56) (ls' := #[.val (.ref tx), .val (.int (0 : Int32)), .val .null, .val (.long r1), .second, .unset, .unset, .unset, .unset, .unset, .unset, .unset, .unset]) d9_55 rfl rfl ?_
  refine N.aloadN C (pc' := 57) d9_56 rfl rfl rfl ?_
  refine N.iloadN C (pc' := 58) d9_57 rfl rfl ?_
  refine N.bipush C (pc' := 60) (z := 9) d9_58 rfl rfl ?_
  refine N.iadd C (pc' := 61) d9_60 rfl ?_
  show N G K rm9 Q h 0 0 61 #[.val (.ref tx), .val (.int (0 : Int32)), .val .null, .val (.long r1), .second, .unset, .unset, .unset, .unset, .unset, .unset, .unset, .unset] [(.int (9 : Int32)), (.ref tx)]
  refine N.iloadN C (pc' := 62) d9_61 rfl rfl ?_
  refine N.bipush C (pc' := 64) (z := 13) d9_62 rfl rfl ?_
  refine N.iadd C (pc' := 65) d9_64 rfl ?_
  show N G K rm9 Q h 0 0 65 #[.val (.ref tx), .val (.int (0 : Int32)), .val .null, .val (.long r1), .second, .unset, .unset, .unset, .unset, .unset, .unset, .unset, .unset] [(.int (13 : Int32)), (.int (9 : Int32)), (.ref tx)]
  refine N.callS C (pc' := 68) [(.ref tx), (.int (9 : Int32)), (.int (13 : Int32))] d9_65 (C.w (i := 45) rfl) (C.w (i := 46) rfl) (C.w (i := 40) rfl) (C.w (i := 47) rfl) (by decide) (con10 G hw tx w (9 : Int32) (13 : Int32) 9 13 (own_dh hh ll) tb wl h (by decide) (by decide) (by decide) (by decide) (by decide) (own_dh16 hh ll) (own_dig hT (by decide) (by decide) (by decide) (by decide) (by decide)) A_tx O HX) (lenOf pd___BII_J rfl) rfl (by decide) (show 0 + (8 + 11) + _ ≤ _ from by decide) (by decide) (by decide) (rest := []) rfl rfl ?_
  rintro _ h65_2 ⟨r2, rfl, rfl, er2⟩
  show N G K rm9 Q h 0 0 68 #[.val (.ref tx), .val (.int (0 : Int32)), .val .null, .val (.long r1), .second, .unset, .unset, .unset, .unset, .unset, .unset, .unset, .unset] [(.long r2)]
  refine N.lstore C (pc' := 70) (ls' := #[.val (.ref tx), .val (.int (0 : Int32)), .val .null, .val (.long r1), .second, .val (.long r2), .second, .unset, .unset, .unset, .unset, .unset, .unset]) d9_68 rfl rfl ?_
  refine N.aloadN C (pc' := 71) d9_70 rfl rfl rfl ?_
  refine N.iloadN C (pc' := 72) d9_71 rfl rfl ?_
  refine N.bipush C (pc' := 74) (z := 14) d9_72 rfl rfl ?_
  refine N.iadd C (pc' := 75) d9_74 rfl ?_
  show N G K rm9 Q h 0 0 75 #[.val (.ref tx), .val (.int (0 : Int32)), .val .null, .val (.long r1), .second, .val (.long r2), .second, .unset, .unset, .unset, .unset, .unset, .unset] [(.int (14 : Int32)), (.ref tx)]
  refine N.iloadN C (pc' := 76) d9_75 rfl rfl ?_
  refine N.bipush C (pc' := 78) (z := 18) d9_76 rfl rfl ?_
  refine N.iadd C (pc' := 79) d9_78 rfl ?_
  show N G K rm9 Q h 0 0 79 #[.val (.ref tx), .val (.int (0 : Int32)), .val .null, .val (.long r1), .second, .val (.long r2), .second, .unset, .unset, .unset, .unset, .unset, .unset] [(.int (18 : Int32)), (.int (14 : Int32)), (.ref tx)]
  refine N.callS C (pc' := 82) [(.ref tx), (.int (14 : Int32)), (.int (18 : Int32))] d9_79 (C.w (i := 45) rfl) (C.w (i := 46) rfl) (C.w (i := 40) rfl) (C.w (i := 47) rfl) (by decide) (con10 G hw tx w (14 : Int32) (18 : Int32) 14 18 (own_dh hh ll) tb wl h (by decide) (by decide) (by decide) (by decide) (by decide) (own_dh16 hh ll) (own_dig hT (by decide) (by decide) (by decide) (by decide) (by decide)) A_tx O HX) (lenOf pd___BII_J rfl) rfl (by decide) (show 0 + (8 + 11) + _ ≤ _ from by decide) (by decide) (by decide) (rest := []) rfl rfl ?_
  rintro _ h79_3 ⟨r3, rfl, rfl, er3⟩
  show N G K rm9 Q h 0 0 82 #[.val (.ref tx), .val (.int (0 : Int32)), .val .null, .val (.long r1), .second, .val (.long r2), .second, .unset, .unset, .unset, .unset, .unset, .unset] [(.long r3)]
  refine N.lstore C (pc' := 84) (ls' := #[.val (.ref tx), .val (.int (0 : Int32)), .val .null, .val (.long r1), .second, .val (.long r2), .second, .val (.long r3), .second, .unset, .unset, .unset, .unset]) d9_82 rfl rfl ?_
  refine N.aloadN C (pc' := 85) d9_84 rfl rfl rfl ?_
  refine N.iloadN C (pc' := 86) d9_85 rfl rfl ?_
  refine N.bipush C (pc' := 88) (z := 19) d9_86 rfl rfl ?_
  refine N.iadd C (pc' := 89) d9_88 rfl ?_
  show N G K rm9 Q h 0 0 89 #[.val (.ref tx), .val (.int (0 : Int32)), .val .null, .val (.long r1), .second, .val (.long r2), .second, .val (.long r3), .second, .unset, .unset, .unset, .unset] [(.int (19 : Int32)), (.ref tx)]
  refine N.iloadN C (pc' := 90) d9_89 rfl rfl ?_
  refine N.bipush C (pc' := 92) (z := 23) d9_90 rfl rfl ?_
  refine N.iadd C (pc' := 93) d9_92 rfl ?_
  show N G K rm9 Q h 0 0 93 #[.val (.ref tx), .val (.int (0 : Int32)), .val .null, .val (.long r1), .second, .val (.long r2), .second, .val (.long r3), .second, .unset, .unset, .unset, .unset] [(.int (23 : Int32)), (.int (19 : Int32)), (.ref tx)]
  refine N.callS C (pc' := 96) [(.ref tx), (.int (19 : Int32)), (.int (23 : Int32))] d9_93 (C.w (i := 45) rfl) (C.w (i := 46) rfl) (C.w (i := 40) rfl) (C.w (i := 47) rfl) (by decide) (con10 G hw tx w (19 : Int32) (23 : Int32) 19 23 (own_dh hh ll) tb wl h (by decide) (by decide) (by decide) (by decide) (by decide) (own_dh16 hh ll) (own_dig hT (by decide) (by decide) (by decide) (by decide) (by decide)) A_tx O HX) (lenOf pd___BII_J rfl) rfl (by decide) (show 0 + (8 + 11) + _ ≤ _ from by decide) (by decide) (by decide) (rest := []) rfl rfl ?_
  rintro _ h93_4 ⟨r4, rfl, rfl, er4⟩
  show N G K rm9 Q h 0 0 96 #[.val (.ref tx), .val (.int (0 : Int32)), .val .null, .val (.long r1), .second, .val (.long r2), .second, .val (.long r3), .second, .unset, .unset, .unset, .unset] [(.long r4)]
  refine N.lstore C (pc' := 98) (ls' := #[.val (.ref tx), .val (.int (0 : Int32)), .val .null, .val (.long r1), .second, .val (.long r2), .second, .val (.long r3), .second, .val (.long r4), .second, .unset, .unset]) d9_96 rfl rfl ?_
  refine N.aloadN C (pc' := 99) d9_98 rfl rfl rfl ?_
  refine N.iloadN C (pc' := 100) d9_99 rfl rfl ?_
  refine N.bipush C (pc' := 102) (z := 24) d9_100 rfl rfl ?_
  refine N.iadd C (pc' := 103) d9_102 rfl ?_
  show N G K rm9 Q h 0 0 103 #[.val (.ref tx), .val (.int (0 : Int32)), .val .null, .val (.long r1), .second, .val (.long r2), .second, .val (.long r3), .second, .val (.long r4), .second, .unset, .unset] [(.int (24 : Int32)), (.ref tx)]
  refine N.iloadN C (pc' := 104) d9_103 rfl rfl ?_
  refine N.bipush C (pc' := 106) (z := 36) d9_104 rfl rfl ?_
  refine N.iadd C (pc' := 107) d9_106 rfl ?_
  show N G K rm9 Q h 0 0 107 #[.val (.ref tx), .val (.int (0 : Int32)), .val .null, .val (.long r1), .second, .val (.long r2), .second, .val (.long r3), .second, .val (.long r4), .second, .unset, .unset] [(.int (36 : Int32)), (.int (24 : Int32)), (.ref tx)]
  refine N.callS C (pc' := 110) [(.ref tx), (.int (24 : Int32)), (.int (36 : Int32))] d9_107 (C.w (i := 45) rfl) (C.w (i := 46) rfl) (C.w (i := 40) rfl) (C.w (i := 47) rfl) (by decide) (con10 G hw tx w (24 : Int32) (36 : Int32) 24 36 (own_dh hh ll) tb wl h (by decide) (by decide) (by decide) (by decide) (by decide) (own_dh16 hh ll) (own_dig hT (by decide) (by decide) (by decide) (by decide) (by decide)) A_tx O HX) (lenOf pd___BII_J rfl) rfl (by decide) (show 0 + (8 + 11) + _ ≤ _ from by decide) (by decide) (by decide) (rest := []) rfl rfl ?_
  rintro _ h107_5 ⟨r5, rfl, rfl, er5⟩
  show N G K rm9 Q h 0 0 110 #[.val (.ref tx), .val (.int (0 : Int32)), .val .null, .val (.long r1), .second, .val (.long r2), .second, .val (.long r3), .second, .val (.long r4), .second, .unset, .unset] [(.long r5)]
  refine N.lstore C (pc' := 112) (ls' := #[.val (.ref tx), .val (.int (0 : Int32)), .val .null, .val (.long r1), .second, .val (.long r2), .second, .val (.long r3), .second, .val (.long r4), .second, .val (.long r5), .second]) d9_110 rfl rfl ?_
  have v1 := er1.trans (own_v1 hh ll)
  have v2 := er2.trans (own_v2 hh ll)
  have v3 := er3.trans (own_v3 hh ll)
  have v4 := er4.trans (own_v4 hh ll)
  have v5 := er5.trans (own_v5 hh ll)
  have b1 := own_U_bd hh
  have b2 := own_U_bd ll
  refine N.lloadN C (pc' := 113) d9_112 rfl rfl ?_
  refine N.lload C (pc' := 115) d9_113 rfl rfl ?_
  refine N.lor C (pc' := 116) d9_115 rfl ?_
  refine N.lload C (pc' := 118) d9_116 rfl rfl ?_
  refine N.lor C (pc' := 119) d9_118 rfl ?_
  refine N.lload C (pc' := 121) d9_119 rfl rfl ?_
  refine N.lor C (pc' := 122) d9_121 rfl ?_
  refine N.lload C (pc' := 124) d9_122 rfl rfl ?_
  refine N.lor C (pc' := 125) d9_124 rfl ?_
  refine N.lconst C (pc' := 126) (z := 0) d9_125 rfl rfl ?_
  refine N.lcmp C (pc' := 127) d9_126 rfl ?_
  refine N.lif C (pt := 159) (pf := 130) d9_127 rfl rfl (fun (hc127 : ((((r1 ||| r2) ||| r3) ||| r4) ||| r5).toInt < 0) => absurd (show False from by exact absurd (own_or5 (a := r1) (b := r2) (c := r3) (d := r4) (e := r5) (by omega) (by omega) (by omega) (by omega) (by omega)) (Int.not_le.mpr hc127)) id) (fun (hc127 : 0 ≤ ((((r1 ||| r2) ||| r3) ||| r4) ||| r5).toInt) => ?_)
  refine N.newO C (pc' := 133) d9_130 (C.w (i := 50) rfl) (C.w (i := 51) rfl) (C.w (i := 52) rfl) (by decide) (by decide) rfl (fun h130_6 u hx_u Ex130 E_u D_u => ?_)
  have ne_tx_u : tx ≠ u := by rw [hx_u]; exact Nat.ne_of_lt A_tx.lt
  have ne_u_tx := Ne.symm ne_tx_u
  have g_u : G.n0 ≤ u := by rw [hx_u]; exact Z0
  have sz_u : h.size ≤ u := by rw [hx_u]; exact K0.1
  have Z0 := Nat.le_trans Z0 Ex130.1
  have A_tx := A_tx.ext Ex130
  have K0 := K0.ext Ex130
  have F_u_mostSigBits : Fld G.Z h130_6 u "java/util/UUID" "mostSigBits" "J" (.long (0 : Int64)) := D_u (Or.inr (C.w (i := 58) rfl)) (ty := .long) (by decide)
  have F_u_leastSigBits : Fld G.Z h130_6 u "java/util/UUID" "leastSigBits" "J" (.long (0 : Int64)) := D_u (Or.inr (C.w (i := 60) rfl)) (ty := .long) (by decide)
  refine N.dup C (pc' := 134) d9_133 rfl rfl ?_
  refine N.lloadN C (pc' := 135) d9_134 rfl rfl ?_
  refine N.bipush C (pc' := 137) (z := 32) d9_135 rfl rfl ?_
  refine N.lshl C (pc' := 138) d9_137 rfl ?_
  refine N.lload C (pc' := 140) d9_138 rfl rfl ?_
  refine N.bipush C (pc' := 142) (z := 16) d9_140 rfl rfl ?_
  refine N.lshl C (pc' := 143) d9_142 rfl ?_
  refine N.lor C (pc' := 144) d9_143 rfl ?_
  refine N.lload C (pc' := 146) d9_144 rfl rfl ?_
  refine N.lor C (pc' := 147) d9_146 rfl ?_
  refine N.lload C (pc' := 149) d9_147 rfl rfl ?_
  refine N.bipush C (pc' := 151) (z := 48) d9_149 rfl rfl ?_
  refine N.lshl C (pc' := 152) d9_151 rfl ?_
  refine N.lload C (pc' := 154) d9_152 rfl rfl ?_
  refine N.lor C (pc' := 155) d9_154 rfl ?_
  refine N.callI C (pc' := 158) u [(.long ((((r1 <<< ((32 : Int32) &&& 0x3f).toInt64)) ||| ((r2 <<< ((16 : Int32) &&& 0x3f).toInt64))) ||| r3)), (.long (((r4 <<< ((48 : Int32) &&& 0x3f).toInt64)) ||| r5))] d9_155 rfl (C.w (i := 53) rfl) (C.w (i := 54) rfl) (C.w (i := 52) rfl) (C.w (i := 55) rfl) (by decide) (con11 G hw u ((((r1 <<< ((32 : Int32) &&& 0x3f).toInt64)) ||| ((r2 <<< ((16 : Int32) &&& 0x3f).toInt64))) ||| r3) (((r4 <<< ((48 : Int32) &&& 0x3f).toInt64)) ||| r5) h130_6 Z0 g_u E_u F_u_mostSigBits F_u_leastSigBits) (lenOf pd__JJ_V rfl) rfl (by decide) (show 1 + (5 + 11) + _ ≤ _ from by decide) (by decide) (by decide) (rest := [(.ref u)]) rfl rfl ?_
  rintro _ h155_7 ⟨rfl, KpU, F1U, F2U⟩
  have Z0 := Nat.le_trans Z0 KpU.1
  have E_u := E_u.keep KpU
  have A_tx := A_tx.keep KpU (ninS ne_tx_u nin0)
  have K0 := K0.trans KpU (allS (Or.inr sz_u) all0)
  have F_u_mostSigBits := F1U
  have F_u_leastSigBits := F2U
  show N G K rm9 Q h155_7 (0 + 1) (0 + 2) 158 #[.val (.ref tx), .val (.int (0 : Int32)), .val .null, .val (.long r1), .second, .val (.long r2), .second, .val (.long r3), .second, .val (.long r4), .second, .val (.long r5), .second] [(.ref u)]
  refine N.astoreN C (pc' := 159) (ls' := #[.val (.ref tx), .val (.int (0 : Int32)), .val (.ref u), .val (.long r1), .second, .val (.long r2), .second, .val (.long r3), .second, .val (.long r4), .second, .val (.long r5), .second]) d9_158 rfl rfl rfl ?_
  refine N.aloadN C (pc' := 160) d9_159 rfl rfl rfl ?_
  exact N.retA C rfl rfl d9_160 (by decide) (by decide) (by subst hQ; exact ⟨u, rfl, sz_u, K0, E_u, own_msb v1 v2 v3 ▸ F_u_mostSigBits, own_lsb v4 v5 ▸ F_u_leastSigBits⟩)
set_option maxRecDepth 65536 in
set_option maxHeartbeats 40000000 in
theorem con8 (G : Gx) (hw : ∀ d ∈ tables_1, d.before G.a0 G.Z = true) (tx w : Addr) (hh ll : Int64) (tb : List Int32) (wl : List Value) (h : Heap) (hT : own_T hh ll tb) (Z0 : G.n0 ≤ h.size) (A_tx : Av G.Z h tx .byte (tb.map .int)) (O : Old G.Z G.n0 h) (HX : own_HX G w wl) :
    Con G (⟨"com/example/grantgraph/grantgraph/graph/Uuids", "parse", "([BII)Ljava/util/UUID;"⟩ : MethodName) prog_38_method_3_code 4 (some (.object "java/util/UUID")) rm8 #[(.ref tx), (.int (0 : Int32)), (.int (36 : Int32))] h (fun v h' => ∃ u : Addr, v = some (.ref u) ∧ h.size ≤ u ∧ Keep h h' [] ∧ Exa G.Z h' u "java/util/UUID" ∧ Fld G.Z h' u "java/util/UUID" "mostSigBits" "J" (.long hh) ∧ Fld G.Z h' u "java/util/UUID" "leastSigBits" "J" (.long ll)) := by
  refine Con.of (W := tables_1) (plainFor_of_name pn8) hw (fun mm => ef8 mm tx (0 : Int32) (36 : Int32)) (fun K C => ?_)
  have C : Cx G K "com/example/grantgraph/grantgraph/graph/Uuids" "parse" prog_38_method_3_code 4 (some (.object "java/util/UUID")) tables_1 := C
  generalize hQ : (fun v h' => ∃ u : Addr, v = some (.ref u) ∧ h.size ≤ u ∧ Keep h h' [] ∧ Exa G.Z h' u "java/util/UUID" ∧ Fld G.Z h' u "java/util/UUID" "mostSigBits" "J" (.long hh) ∧ Fld G.Z h' u "java/util/UUID" "leastSigBits" "J" (.long ll) : Option Value → Heap → Prop) = Q
  refine N.iloadN C (pc' := 1) d8_0 rfl rfl ?_
  refine N.bipush C (pc' := 3) (z := 36) d8_1 rfl rfl ?_
  refine N.icmp C (pt := 14) (pf := 6) d8_3 rfl rfl (fun (q : ¬ (36 : Int32) = (36 : Int32)) => absurd q (by decide)) (fun _ => ?_)
  refine N.aloadN C (pc' := 7) d8_6 rfl rfl rfl ?_
  refine N.iloadN C (pc' := 8) d8_7 rfl rfl ?_
  refine N.callS C (pc' := 11) [(.ref tx), (.int (0 : Int32))] d8_8 (C.w (i := 42) rfl) (C.w (i := 43) rfl) (C.w (i := 40) rfl) (C.w (i := 44) rfl) (by decide) (con9 G hw tx w hh ll tb wl h hT Z0 A_tx O HX) (lenOf pd___BI_Ljava_util_UUID_ rfl) rfl (by decide) (show 0 + (13 + 11) + _ ≤ _ from by decide) (by decide) (by decide) (rest := []) rfl rfl ?_
  rintro _ h8_1 ⟨u, rfl, hu, KpD, EU, FM, FL⟩
  show N G K rm8 Q h8_1 (0 + 1) (0 + 2) 11 #[.val (.ref tx), .val (.int (0 : Int32)), .val (.int (36 : Int32)), .unset] [(.ref u)]
  refine N.goto C (pc' := 15) d8_11 rfl ?_
  refine N.astoreN C (pc' := 16) (ls' := #[.val (.ref tx), .val (.int (0 : Int32)), .val (.int (36 : Int32)), .val (.ref u)]) d8_15 rfl rfl rfl ?_
  refine N.aloadN C (pc' := 17) d8_16 rfl rfl rfl ?_
  refine N.ifnonnull1 C (pc' := 37) d8_17 rfl ?_
  refine N.aloadN C (pc' := 38) d8_37 rfl rfl rfl ?_
  exact N.retA C rfl rfl d8_38 (by decide) (by decide) (by subst hQ; exact ⟨u, rfl, hu, KpD, EU, FM, FL⟩)
set_option maxRecDepth 65536 in
set_option maxHeartbeats 40000000 in
theorem con3 (G : Gx) (hw : ∀ d ∈ tables_1, d.before G.a0 G.Z = true) (x : Addr) (h : Heap) (Z0 : G.n0 ≤ h.size) (g_x : G.n0 ≤ x) (E_x : Exa G.Z h x "com/example/grantgraph/grantgraph/bench/Ids") (F_x_high : Fld G.Z h x "com/example/grantgraph/grantgraph/bench/Ids" "high" "[J" .null) (F_x_low : Fld G.Z h x "com/example/grantgraph/grantgraph/bench/Ids" "low" "[J" .null) (F_x_text : Fld G.Z h x "com/example/grantgraph/grantgraph/bench/Ids" "text" "[B" .null) (F_x_size : Fld G.Z h x "com/example/grantgraph/grantgraph/bench/Ids" "size" "I" (.int (0 : Int32))) :
    Con G (⟨"com/example/grantgraph/grantgraph/bench/Ids", "<init>", "()V"⟩ : MethodName) prog_9_method_1_code 1 none rm3 #[(.ref x)] h (fun v h' => v = none ∧ Keep h h' [x] ∧ ∃ (hi lo tx : Addr) (hs ls : List Value) (tb : List Int32), h.size ≤ hi ∧ h.size ≤ lo ∧ h.size ≤ tx ∧ Iq G h' x hi lo tx 0 hs ls tb) := by
  refine Con.of (W := tables_1) (plainFor_of_name pn3) hw (fun mm => ef3 mm x) (fun K C => ?_)
  have C : Cx G K "com/example/grantgraph/grantgraph/bench/Ids" "<init>" prog_9_method_1_code 1 none tables_1 := C
  generalize hQ : (fun v h' => v = none ∧ Keep h h' [x] ∧ ∃ (hi lo tx : Addr) (hs ls : List Value) (tb : List Int32), h.size ≤ hi ∧ h.size ≤ lo ∧ h.size ≤ tx ∧ Iq G h' x hi lo tx 0 hs ls tb : Option Value → Heap → Prop) = Q
  have K0 : Keep h h [x] := Keep.refl _ _
  refine N.aloadN C (pc' := 1) d3_0 rfl rfl rfl ?_
  refine N.initO C (pc' := 4) d3_1 (C.w (i := 15) rfl) (C.w (i := 16) rfl) (C.w (i := 17) rfl) rfl (by decide) (show 0 + 12 ≤ _ from by decide) rfl ?_
  refine N.aloadN C (pc' := 5) d3_4 rfl rfl rfl ?_
  refine N.sipush C (pc' := 8) (z := 1024) d3_5 rfl rfl ?_
  refine N.newP C (pc' := 10) (n := (1024 : Int32)) 1024 d3_8 (C.w (i := 18) rfl) (by decide) (by decide) (by decide) (by decide) (by decide) rfl (fun h8_1 hi hx_hi Ex8 A'_hi => ?_)
  have ne_x_hi : x ≠ hi := by rw [hx_hi]; exact Nat.ne_of_lt F_x_high.lt
  have ne_hi_x := Ne.symm ne_x_hi
  have g_hi : G.n0 ≤ hi := by rw [hx_hi]; exact Z0
  have sz_hi : h.size ≤ hi := by rw [hx_hi]; exact K0.1
  have Z0 := Nat.le_trans Z0 Ex8.1
  have F_x_high := F_x_high.ext Ex8
  have F_x_low := F_x_low.ext Ex8
  have F_x_text := F_x_text.ext Ex8
  have F_x_size := F_x_size.ext Ex8
  have E_x := E_x.ext Ex8
  have K0 := K0.ext Ex8
  have A_hi : Av G.Z h8_1 hi .long (List.replicate (1024 : Int32).toInt.toNat (.long (0 : Int64))) := A'_hi
  refine N.putF C (pc' := 13) d3_10 (C.w (i := 19) rfl) F_x_high E_x (Or.inl (C.w (i := 20) rfl)) (C.w (i := 10) rfl) (ty := (.array .long)) (by decide) rfl rfl g_x rfl (fun h10_2 W10 => ?_)
  have Z0 : G.n0 ≤ _ := (Wr.size W10).symm ▸ Z0
  have F_x_high := F_x_high.same W10
  have F_x_low := F_x_low.other W10 (Or.inr (slot_ne (Or.inl (C.w (i := 22) rfl)) (Or.inl (C.w (i := 20) rfl)) (by decide) (t := (.array .long)) (t' := (.array .long)) (by decide) (by decide)))
  have F_x_text := F_x_text.other W10 (Or.inr (slot_ne (Or.inr (C.w (i := 25) rfl)) (Or.inl (C.w (i := 20) rfl)) (by decide) (t := (.array .byte)) (t' := (.array .long)) (by decide) (by decide)))
  have F_x_size := F_x_size.other W10 (Or.inr (slot_ne (Or.inl (C.w (i := 62) rfl)) (Or.inl (C.w (i := 20) rfl)) (by decide) (t := .int) (t' := (.array .long)) (by decide) (by decide)))
  have E_x := E_x.wr W10
  have A_hi := A_hi.other W10 ne_hi_x
  have K0 := K0.wr W10 (Or.inl (List.mem_of_getElem? (i := 0) rfl))
  refine N.aloadN C (pc' := 14) d3_13 rfl rfl rfl ?_
  refine N.sipush C (pc' := 17) (z := 1024) d3_14 rfl rfl ?_
  refine N.newP C (pc' := 19) (n := (1024 : Int32)) 1024 d3_17 (C.w (i := 18) rfl) (by decide) (by decide) (by decide) (by decide) (by decide) rfl (fun h17_3 lo hx_lo Ex17 A'_lo => ?_)
  have ne_x_lo : x ≠ lo := by rw [hx_lo]; exact Nat.ne_of_lt F_x_high.lt
  have ne_lo_x := Ne.symm ne_x_lo
  have ne_hi_lo : hi ≠ lo := by rw [hx_lo]; exact Nat.ne_of_lt A_hi.lt
  have ne_lo_hi := Ne.symm ne_hi_lo
  have g_lo : G.n0 ≤ lo := by rw [hx_lo]; exact Z0
  have sz_lo : h.size ≤ lo := by rw [hx_lo]; exact K0.1
  have Z0 := Nat.le_trans Z0 Ex17.1
  have F_x_high := F_x_high.ext Ex17
  have F_x_low := F_x_low.ext Ex17
  have F_x_text := F_x_text.ext Ex17
  have F_x_size := F_x_size.ext Ex17
  have E_x := E_x.ext Ex17
  have A_hi := A_hi.ext Ex17
  have K0 := K0.ext Ex17
  have A_lo : Av G.Z h17_3 lo .long (List.replicate (1024 : Int32).toInt.toNat (.long (0 : Int64))) := A'_lo
  refine N.putF C (pc' := 22) d3_19 (C.w (i := 21) rfl) F_x_low E_x (Or.inl (C.w (i := 22) rfl)) (C.w (i := 10) rfl) (ty := (.array .long)) (by decide) rfl rfl g_x rfl (fun h19_4 W19 => ?_)
  have Z0 : G.n0 ≤ _ := (Wr.size W19).symm ▸ Z0
  have F_x_high := F_x_high.other W19 (Or.inr (slot_ne (Or.inl (C.w (i := 20) rfl)) (Or.inl (C.w (i := 22) rfl)) (by decide) (t := (.array .long)) (t' := (.array .long)) (by decide) (by decide)))
  have F_x_low := F_x_low.same W19
  have F_x_text := F_x_text.other W19 (Or.inr (slot_ne (Or.inr (C.w (i := 25) rfl)) (Or.inl (C.w (i := 22) rfl)) (by decide) (t := (.array .byte)) (t' := (.array .long)) (by decide) (by decide)))
  have F_x_size := F_x_size.other W19 (Or.inr (slot_ne (Or.inl (C.w (i := 62) rfl)) (Or.inl (C.w (i := 22) rfl)) (by decide) (t := .int) (t' := (.array .long)) (by decide) (by decide)))
  have E_x := E_x.wr W19
  have A_hi := A_hi.other W19 ne_hi_x
  have A_lo := A_lo.other W19 ne_lo_x
  have K0 := K0.wr W19 (Or.inl (List.mem_of_getElem? (i := 0) rfl))
  refine N.aloadN C (pc' := 23) d3_22 rfl rfl rfl ?_
  refine N.bipush C (pc' := 25) (z := 36) d3_23 rfl rfl ?_
  refine N.newP C (pc' := 27) (n := (36 : Int32)) 36 d3_25 (C.w (i := 23) rfl) (by decide) (by decide) (by decide) (by decide) (by decide) rfl (fun h25_5 tx hx_tx Ex25 A'_tx => ?_)
  have ne_x_tx : x ≠ tx := by rw [hx_tx]; exact Nat.ne_of_lt F_x_high.lt
  have ne_tx_x := Ne.symm ne_x_tx
  have ne_hi_tx : hi ≠ tx := by rw [hx_tx]; exact Nat.ne_of_lt A_hi.lt
  have ne_tx_hi := Ne.symm ne_hi_tx
  have ne_lo_tx : lo ≠ tx := by rw [hx_tx]; exact Nat.ne_of_lt A_lo.lt
  have ne_tx_lo := Ne.symm ne_lo_tx
  have g_tx : G.n0 ≤ tx := by rw [hx_tx]; exact Z0
  have sz_tx : h.size ≤ tx := by rw [hx_tx]; exact K0.1
  have Z0 := Nat.le_trans Z0 Ex25.1
  have F_x_high := F_x_high.ext Ex25
  have F_x_low := F_x_low.ext Ex25
  have F_x_text := F_x_text.ext Ex25
  have F_x_size := F_x_size.ext Ex25
  have E_x := E_x.ext Ex25
  have A_hi := A_hi.ext Ex25
  have A_lo := A_lo.ext Ex25
  have K0 := K0.ext Ex25
  have A_tx : Av G.Z h25_5 tx .byte [(.int (0 : Int32)), (.int (0 : Int32)), (.int (0 : Int32)), (.int (0 : Int32)), (.int (0 : Int32)), (.int (0 : Int32)), (.int (0 : Int32)), (.int (0 : Int32)), (.int (0 : Int32)), (.int (0 : Int32)), (.int (0 : Int32)), (.int (0 : Int32)), (.int (0 : Int32)), (.int (0 : Int32)), (.int (0 : Int32)), (.int (0 : Int32)), (.int (0 : Int32)), (.int (0 : Int32)), (.int (0 : Int32)), (.int (0 : Int32)), (.int (0 : Int32)), (.int (0 : Int32)), (.int (0 : Int32)), (.int (0 : Int32)), (.int (0 : Int32)), (.int (0 : Int32)), (.int (0 : Int32)), (.int (0 : Int32)), (.int (0 : Int32)), (.int (0 : Int32)), (.int (0 : Int32)), (.int (0 : Int32)), (.int (0 : Int32)), (.int (0 : Int32)), (.int (0 : Int32)), (.int (0 : Int32))] := A'_tx
  refine N.putF C (pc' := 30) d3_27 (C.w (i := 24) rfl) F_x_text E_x (Or.inr ⟨(C.w (i := 25) rfl), rfl, rfl⟩) (C.w (i := 10) rfl) (ty := (.array .byte)) (by decide) rfl rfl g_x rfl (fun h27_6 W27 => ?_)
  have Z0 : G.n0 ≤ _ := (Wr.size W27).symm ▸ Z0
  have F_x_high := F_x_high.other W27 (Or.inr (slot_ne (Or.inl (C.w (i := 20) rfl)) (Or.inr (C.w (i := 25) rfl)) (by decide) (t := (.array .long)) (t' := (.array .byte)) (by decide) (by decide)))
  have F_x_low := F_x_low.other W27 (Or.inr (slot_ne (Or.inl (C.w (i := 22) rfl)) (Or.inr (C.w (i := 25) rfl)) (by decide) (t := (.array .long)) (t' := (.array .byte)) (by decide) (by decide)))
  have F_x_text := F_x_text.same W27
  have F_x_size := F_x_size.other W27 (Or.inr (slot_ne (Or.inl (C.w (i := 62) rfl)) (Or.inr (C.w (i := 25) rfl)) (by decide) (t := .int) (t' := (.array .byte)) (by decide) (by decide)))
  have E_x := E_x.wr W27
  have A_hi := A_hi.other W27 ne_hi_x
  have A_lo := A_lo.other W27 ne_lo_x
  have A_tx := A_tx.other W27 ne_tx_x
  have K0 := K0.wr W27 (Or.inl (List.mem_of_getElem? (i := 0) rfl))
  exact N.ret0 C rfl d3_30 (by decide) (by decide) (by subst hQ; exact ⟨rfl, K0, hi, lo, tx, List.replicate 1024 (.long 0), List.replicate 1024 (.long 0), List.replicate 36 0, sz_hi, sz_lo, sz_tx, ⟨ne_x_hi, ne_x_lo, ne_x_tx, ne_hi_lo, ne_hi_tx, ne_lo_tx, g_x, g_hi, g_lo, g_tx, E_x, F_x_high, F_x_low, F_x_text, F_x_size, A_hi, (by simp), A_lo, (by simp), (by rw [List.map_replicate]; exact A_tx), (by simp)⟩⟩)
set_option maxRecDepth 65536 in
set_option maxHeartbeats 40000000 in
theorem con7 (G : Gx) (hw : ∀ d ∈ tables_1, d.before G.a0 G.Z = true) (x hi lo tx w : Addr) (hh ll : Int64) (n : Int32) (k : Nat) (hs ls : List Value) (tb : List Int32) (wl : List Value) (h : Heap) (hn : n.toInt = (k : Nat)) (hk : k < 1024) (hT : own_T hh ll tb) (Z0 : G.n0 ≤ h.size) (HI : Iq G h x hi lo tx n hs ls tb) (O : Old G.Z G.n0 h) (HX : own_HX G w wl) :
    ConW G (⟨"com/example/grantgraph/grantgraph/bench/Ids", "addText", "()Z"⟩ : MethodName) prog_9_method_6_code 3 (some .boolean) [(0, 11, 14, 55)] rm7 #[(.ref x)] h (fun v h' => v = some (.int 1) ∧ Keep h h' [x, hi, lo, tx] ∧ Iq G h' x hi lo tx (n + (1 : Int32)) (hs.set k (.long hh)) (ls.set k (.long ll)) tb) := by
  refine ConW.of (W := tables_1) (plainFor_of_name pn7) hw (fun mm => ef7 mm x) (fun K C => ?_)
  have C : Cx G K "com/example/grantgraph/grantgraph/bench/Ids" "addText" prog_9_method_6_code 3 (some .boolean) tables_1 := C
  generalize hQ : (fun v h' => v = some (.int 1) ∧ Keep h h' [x, hi, lo, tx] ∧ Iq G h' x hi lo tx (n + (1 : Int32)) (hs.set k (.long hh)) (ls.set k (.long ll)) tb : Option Value → Heap → Prop) = Q
  obtain ⟨ne_x_hi, ne_x_lo, ne_x_tx, ne_hi_lo, ne_hi_tx, ne_lo_tx, g_x, g_hi, g_lo, g_tx, E_x, F_x_high, F_x_low, F_x_text, F_x_size, A_hi, l_hi, A_lo, l_lo, A_tx, l_tx⟩ := HI
  have ne_hi_x := Ne.symm ne_x_hi
  have ne_lo_x := Ne.symm ne_x_lo
  have ne_tx_x := Ne.symm ne_x_tx
  have ne_lo_hi := Ne.symm ne_hi_lo
  have ne_tx_hi := Ne.symm ne_hi_tx
  have ne_tx_lo := Ne.symm ne_lo_tx
  have K0 : Keep h h [x, hi, lo, tx] := Keep.refl _ _
  have len_hi : (1024 : Int32).toInt = ((hs.length : Nat) : Int) := by rw [l_hi]; decide
  refine N.aloadN C (pc' := 1) d7_0 rfl rfl rfl ?_
  refine N.getF C (pc' := 4) d7_1 (C.w (i := 24) rfl) F_x_text rfl ?_
  refine N.iconst C (pc' := 5) (z := 0) d7_4 rfl rfl ?_
  refine N.bipush C (pc' := 7) (z := 36) d7_5 rfl rfl ?_
  refine N.callS C (pc' := 10) [(.ref tx), (.int (0 : Int32)), (.int (36 : Int32))] d7_7 (C.w (i := 38) rfl) (C.w (i := 39) rfl) (C.w (i := 40) rfl) (C.w (i := 41) rfl) (by decide) (con8 G hw tx w hh ll tb wl h hT Z0 A_tx O HX) (lenOf pd___BII_Ljava_util_UUID_ rfl) rfl (by decide) (show 0 + (4 + 11) + _ ≤ _ from by decide) (by decide) (by decide) (rest := []) rfl rfl ?_
  rintro _ h7_1 ⟨u, rfl, hu, KpP, EU, FMu, FLu⟩
  have ne_u_x : u ≠ x := Nat.ne_of_gt (Nat.lt_of_lt_of_le E_x.lt hu)
  have ne_u_hi : u ≠ hi := Nat.ne_of_gt (Nat.lt_of_lt_of_le A_hi.lt hu)
  have ne_u_lo : u ≠ lo := Nat.ne_of_gt (Nat.lt_of_lt_of_le A_lo.lt hu)
  have Z0 := Nat.le_trans Z0 KpP.1
  have F_x_high := F_x_high.keep KpP nin0
  have F_x_low := F_x_low.keep KpP nin0
  have F_x_text := F_x_text.keep KpP nin0
  have F_x_size := F_x_size.keep KpP nin0
  have E_x := E_x.keep KpP
  have A_hi := A_hi.keep KpP nin0
  have A_lo := A_lo.keep KpP nin0
  have A_tx := A_tx.keep KpP nin0
  have K0 := K0.trans KpP all0
  have F_u_mostSigBits := FMu
  have F_u_leastSigBits := FLu
  have E_u := EU
  show N G K rm7 Q h7_1 (0 + 1) (0 + 2) 10 #[.val (.ref x), .unset, .unset] [(.ref u)]
  refine N.astoreN C (pc' := 11) (ls' := #[.val (.ref x), .val (.ref u), .unset]) d7_10 rfl rfl rfl ?_
  refine N.goto C (pc' := 17) d7_11 rfl ?_
  refine N.aloadN C (pc' := 18) d7_17 rfl rfl rfl ?_
  refine N.getF C (pc' := 21) d7_18 (C.w (i := 61) rfl) F_x_size rfl ?_
  refine N.aloadN C (pc' := 22) d7_21 rfl rfl rfl ?_
  refine N.getF C (pc' := 25) d7_22 (C.w (i := 19) rfl) F_x_high rfl ?_
  refine N.alen C (pc' := 26) (n := (1024 : Int32)) d7_25 A_hi len_hi rfl ?_
  refine N.icmp C (pt := 63) (pf := 29) d7_26 rfl rfl (fun (hc26 : ¬ n = (1024 : Int32)) => ?_) (fun (hc26 : n = (1024 : Int32)) => absurd (show False from by have := eqI hc26; have e : (1024 : Int32).toInt = 1024 := (by decide); omega) id)
  refine N.aloadN C (pc' := 64) d7_63 rfl rfl rfl ?_
  refine N.getF C (pc' := 67) d7_64 (C.w (i := 19) rfl) F_x_high rfl ?_
  refine N.aloadN C (pc' := 68) d7_67 rfl rfl rfl ?_
  refine N.getF C (pc' := 71) d7_68 (C.w (i := 61) rfl) F_x_size rfl ?_
  refine N.aloadN C (pc' := 72) d7_71 rfl rfl rfl ?_
  refine N.callV C (pc' := 75) u [] d7_72 (C.w (i := 63) rfl) (C.w (i := 64) rfl) (C.w (i := 66) rfl) (C.w (i := 65) rfl) (C.w (i := 52) rfl) (C.w (i := 67) rfl) (by decide) E_u (con12 G hw u hh h7_1 F_u_mostSigBits) (lenOf pd___J rfl) rfl (by decide) (show 2 + (1 + 11) + _ ≤ _ from by decide) (by decide) (by decide) (rest := [(.int n), (.ref hi)]) rfl rfl ?_
  rintro _ h72_2 ⟨rfl, rfl⟩
  show N G K rm7 Q h7_1 (0 + 1) (0 + 2) 75 #[.val (.ref x), .val (.ref u), .unset] [(.long hh), (.int n), (.ref hi)]
  refine N.lastore C (pc' := 76) (i := k) d7_75 A_hi hn (by rw [l_hi]; omega) g_hi rfl (fun h75_3 W75 A_hi => ?_)
  have Z0 : G.n0 ≤ _ := (Wr.size W75).symm ▸ Z0
  have F_x_high := F_x_high.other W75 (Or.inl ne_x_hi)
  have F_x_low := F_x_low.other W75 (Or.inl ne_x_hi)
  have F_x_text := F_x_text.other W75 (Or.inl ne_x_hi)
  have F_x_size := F_x_size.other W75 (Or.inl ne_x_hi)
  have F_u_mostSigBits := F_u_mostSigBits.other W75 (Or.inl ne_u_hi)
  have F_u_leastSigBits := F_u_leastSigBits.other W75 (Or.inl ne_u_hi)
  have E_x := E_x.wr W75
  have E_u := E_u.wr W75
  have A_lo := A_lo.other W75 ne_lo_hi
  have A_tx := A_tx.other W75 ne_tx_hi
  have K0 := K0.wr W75 (Or.inl (List.mem_of_getElem? (i := 1) rfl))
  refine N.aloadN C (pc' := 77) d7_76 rfl rfl rfl ?_
  refine N.getF C (pc' := 80) d7_77 (C.w (i := 21) rfl) F_x_low rfl ?_
  refine N.aloadN C (pc' := 81) d7_80 rfl rfl rfl ?_
  refine N.getF C (pc' := 84) d7_81 (C.w (i := 61) rfl) F_x_size rfl ?_
  refine N.aloadN C (pc' := 85) d7_84 rfl rfl rfl ?_
  refine N.callV C (pc' := 88) u [] d7_85 (C.w (i := 68) rfl) (C.w (i := 69) rfl) (C.w (i := 71) rfl) (C.w (i := 70) rfl) (C.w (i := 52) rfl) (C.w (i := 72) rfl) (by decide) E_u (con13 G hw u ll h75_3 F_u_leastSigBits) (lenOf pd___J rfl) rfl (by decide) (show 2 + (1 + 11) + _ ≤ _ from by decide) (by decide) (by decide) (rest := [(.int n), (.ref lo)]) rfl rfl ?_
  rintro _ h85_4 ⟨rfl, rfl⟩
  show N G K rm7 Q h75_3 (0 + 1) (0 + 2) 88 #[.val (.ref x), .val (.ref u), .unset] [(.long ll), (.int n), (.ref lo)]
  refine N.lastore C (pc' := 89) (i := k) d7_88 A_lo hn (by rw [l_lo]; omega) g_lo rfl (fun h88_5 W88 A_lo => ?_)
  have Z0 : G.n0 ≤ _ := (Wr.size W88).symm ▸ Z0
  have F_x_high := F_x_high.other W88 (Or.inl ne_x_lo)
  have F_x_low := F_x_low.other W88 (Or.inl ne_x_lo)
  have F_x_text := F_x_text.other W88 (Or.inl ne_x_lo)
  have F_x_size := F_x_size.other W88 (Or.inl ne_x_lo)
  have F_u_mostSigBits := F_u_mostSigBits.other W88 (Or.inl ne_u_lo)
  have F_u_leastSigBits := F_u_leastSigBits.other W88 (Or.inl ne_u_lo)
  have E_x := E_x.wr W88
  have E_u := E_u.wr W88
  have A_hi := A_hi.other W88 ne_hi_lo
  have A_tx := A_tx.other W88 ne_tx_lo
  have K0 := K0.wr W88 (Or.inl (List.mem_of_getElem? (i := 2) rfl))
  refine N.aloadN C (pc' := 90) d7_89 rfl rfl rfl ?_
  refine N.dup C (pc' := 91) d7_90 rfl rfl ?_
  refine N.getF C (pc' := 94) d7_91 (C.w (i := 61) rfl) F_x_size rfl ?_
  refine N.iconst C (pc' := 95) (z := 1) d7_94 rfl rfl ?_
  refine N.iadd C (pc' := 96) d7_95 rfl ?_
  refine N.putF C (pc' := 99) d7_96 (C.w (i := 61) rfl) F_x_size E_x (Or.inl (C.w (i := 62) rfl)) (C.w (i := 10) rfl) (ty := .int) (by decide) rfl rfl g_x rfl (fun h96_6 W96 => ?_)
  have Z0 : G.n0 ≤ _ := (Wr.size W96).symm ▸ Z0
  have F_x_high := F_x_high.other W96 (Or.inr (slot_ne (Or.inl (C.w (i := 20) rfl)) (Or.inl (C.w (i := 62) rfl)) (by decide) (t := (.array .long)) (t' := .int) (by decide) (by decide)))
  have F_x_low := F_x_low.other W96 (Or.inr (slot_ne (Or.inl (C.w (i := 22) rfl)) (Or.inl (C.w (i := 62) rfl)) (by decide) (t := (.array .long)) (t' := .int) (by decide) (by decide)))
  have F_x_text := F_x_text.other W96 (Or.inr (slot_ne (Or.inr (C.w (i := 25) rfl)) (Or.inl (C.w (i := 62) rfl)) (by decide) (t := (.array .byte)) (t' := .int) (by decide) (by decide)))
  have F_x_size := F_x_size.same W96
  have F_u_mostSigBits := F_u_mostSigBits.other W96 (Or.inl ne_u_x)
  have F_u_leastSigBits := F_u_leastSigBits.other W96 (Or.inl ne_u_x)
  have E_x := E_x.wr W96
  have E_u := E_u.wr W96
  have A_hi := A_hi.other W96 ne_hi_x
  have A_lo := A_lo.other W96 ne_lo_x
  have A_tx := A_tx.other W96 ne_tx_x
  have K0 := K0.wr W96 (Or.inl (List.mem_of_getElem? (i := 0) rfl))
  refine N.iconst C (pc' := 100) (z := 1) d7_99 rfl rfl ?_
  exact N.retN C (by simp) (z' := (1 : Int32)) rfl d7_100 (by decide) (by decide) (by subst hQ; exact ⟨rfl, K0, ⟨ne_x_hi, ne_x_lo, ne_x_tx, ne_hi_lo, ne_hi_tx, ne_lo_tx, g_x, g_hi, g_lo, g_tx, E_x, F_x_high, F_x_low, F_x_text, F_x_size, A_hi, (by simp [l_hi]), A_lo, (by simp [l_lo]), A_tx, l_tx⟩⟩)
set_option maxRecDepth 65536 in
set_option maxHeartbeats 40000000 in
theorem con5 (G : Gx) (hw : ∀ d ∈ tables_1, d.before G.a0 G.Z = true) (x hi lo tx t w : Addr) (hh ll : Int64) (n : Int32) (kn : Nat) (hs ls : List Value) (tb cs : List Int32) (wl : List Value) (h : Heap) (hn : n.toInt = (kn : Nat)) (hkn : kn < 1024) (hT : own_T hh ll cs) (ne_t_x : t ≠ x) (ne_t_hi : t ≠ hi) (ne_t_lo : t ≠ lo) (ne_t_tx : t ≠ tx) (A_t : Av G.Z h t .char (cs.map .int)) (Z0 : G.n0 ≤ h.size) (HI : Iq G h x hi lo tx n hs ls tb) (O : Old G.Z G.n0 h) (HX : own_HX G w wl) :
    Con G (⟨"com/example/grantgraph/grantgraph/bench/Ids", "add", "([CII)V"⟩ : MethodName) prog_9_method_4_code 6 none rm5 #[(.ref x), (.ref t), (.int (0 : Int32)), (.int (36 : Int32))] h (fun v h' => v = none ∧ Keep h h' [x, hi, lo, tx] ∧ Iq G h' x hi lo tx (n + (1 : Int32)) (hs.set kn (.long hh)) (ls.set kn (.long ll)) cs) := by
  refine Con.of (W := tables_1) (plainFor_of_name pn5) hw (fun mm => ef5 mm x t (0 : Int32) (36 : Int32)) (fun K C => ?_)
  have C : Cx G K "com/example/grantgraph/grantgraph/bench/Ids" "add" prog_9_method_4_code 6 none tables_1 := C
  generalize hQ : (fun v h' => v = none ∧ Keep h h' [x, hi, lo, tx] ∧ Iq G h' x hi lo tx (n + (1 : Int32)) (hs.set kn (.long hh)) (ls.set kn (.long ll)) cs : Option Value → Heap → Prop) = Q
  obtain ⟨ne_x_hi, ne_x_lo, ne_x_tx, ne_hi_lo, ne_hi_tx, ne_lo_tx, g_x, g_hi, g_lo, g_tx, E_x, F_x_high, F_x_low, F_x_text, F_x_size, A_hi, l_hi, A_lo, l_lo, A_tx, l_tx⟩ := HI
  have ne_hi_x := Ne.symm ne_x_hi
  have ne_lo_x := Ne.symm ne_x_lo
  have ne_tx_x := Ne.symm ne_x_tx
  have ne_lo_hi := Ne.symm ne_hi_lo
  have ne_tx_hi := Ne.symm ne_hi_tx
  have ne_tx_lo := Ne.symm ne_lo_tx
  have K0 : Keep h h [x, hi, lo, tx] := Keep.refl _ _
  refine N.iloadN C (pc' := 1) d5_0 rfl rfl ?_
  refine N.bipush C (pc' := 3) (z := 36) d5_1 rfl rfl ?_
  refine N.icmp C (pt := 10) (pf := 6) d5_3 rfl rfl (fun (q : ¬ (36 : Int32) = (36 : Int32)) => absurd q (by decide)) (fun _ => ?_)
  refine N.iconst C (pc' := 7) (z := 1) d5_6 rfl rfl ?_
  refine N.goto C (pc' := 11) d5_7 rfl ?_
  refine N.istore C (pc' := 13) (ls' := #[.val (.ref x), .val (.ref t), .val (.int (0 : Int32)), .val (.int (36 : Int32)), .val (.int (1 : Int32)), .unset]) d5_11 rfl rfl ?_
  refine N.iconst C (pc' := 14) (z := 0) d5_13 rfl rfl ?_
  refine N.istore C (pc' := 16) (ls' := #[.val (.ref x), .val (.ref t), .val (.int (0 : Int32)), .val (.int (36 : Int32)), .val (.int (1 : Int32)), .val (.int (0 : Int32))]) d5_14 rfl rfl ?_
  suffices j50 : ∀ (h1 : Heap) (i : Int32), Exa G.Z h1 x "com/example/grantgraph/grantgraph/bench/Ids" → Fld G.Z h1 x "com/example/grantgraph/grantgraph/bench/Ids" "high" "[J" (.ref hi) → Fld G.Z h1 x "com/example/grantgraph/grantgraph/bench/Ids" "low" "[J" (.ref lo) → Fld G.Z h1 x "com/example/grantgraph/grantgraph/bench/Ids" "text" "[B" (.ref tx) → Fld G.Z h1 x "com/example/grantgraph/grantgraph/bench/Ids" "size" "I" (.int n) → Av G.Z h1 hi .long hs → Av G.Z h1 lo .long ls → Av G.Z h1 tx .byte (cs.map .int) → Av G.Z h1 t .char (cs.map .int) → Keep h h1 [x, hi, lo, tx] → G.n0 ≤ h1.size → Old G.Z G.n0 h1 → cs.length = 36 → N G K rm5 Q h1 0 0 50 #[.val (.ref x), .val (.ref t), .val (.int (0 : Int32)), .val (.int (36 : Int32)), .val (.int (1 : Int32)), .val (.int i)] [] by
    have loop : ∀ (m : Nat) (h1 : Heap) (i : Int32) (tb : List Int32) (k : Nat), i.toInt = (k : Nat) → k ≤ 36 → 36 - k ≤ m → tb.length = 36 → (∀ j : Nat, j < k → tb[j]? = cs[j]?) → Exa G.Z h1 x "com/example/grantgraph/grantgraph/bench/Ids" → Fld G.Z h1 x "com/example/grantgraph/grantgraph/bench/Ids" "high" "[J" (.ref hi) → Fld G.Z h1 x "com/example/grantgraph/grantgraph/bench/Ids" "low" "[J" (.ref lo) → Fld G.Z h1 x "com/example/grantgraph/grantgraph/bench/Ids" "text" "[B" (.ref tx) → Fld G.Z h1 x "com/example/grantgraph/grantgraph/bench/Ids" "size" "I" (.int n) → Av G.Z h1 hi .long hs → Av G.Z h1 lo .long ls → Av G.Z h1 tx .byte (tb.map .int) → Av G.Z h1 t .char (cs.map .int) → Keep h h1 [x, hi, lo, tx] → G.n0 ≤ h1.size → Old G.Z G.n0 h1 → N G K rm5 Q h1 0 0 16 #[.val (.ref x), .val (.ref t), .val (.int (0 : Int32)), .val (.int (36 : Int32)), .val (.int (1 : Int32)), .val (.int i)] [] := by
      intro m
      induction m with
      | zero =>
        intro h1 i tb k hi' hk hm l_tx hpre E_x F_x_high F_x_low F_x_text F_x_size A_hi A_lo A_tx A_t K0 Z0 O
        refine N.iload C (pc' := 18) d5_16 rfl rfl ?_
        refine N.ifc C (pt := 50) (pf := 21) d5_18 rfl rfl (fun (q : (1 : Int32) = (0 : Int32)) => absurd q (by decide)) (fun _ => ?_)
        refine N.iload C (pc' := 23) d5_21 rfl rfl ?_
        refine N.bipush C (pc' := 25) (z := 36) d5_23 rfl rfl ?_
        refine N.icmp C (pt := 50) (pf := 28) d5_25 rfl rfl (fun (hc25 : 36 ≤ i.toInt) => ?_) (fun (hc25 : i.toInt < 36) => absurd (show False from by omega) id)
        have ek : k = 36 := by omega
        subst ek
        have etb := own_eqT hT l_tx hpre
        subst etb
        exact j50 _ _ E_x F_x_high F_x_low F_x_text F_x_size A_hi A_lo A_tx A_t K0 Z0 O l_tx
      | succ m ih =>
        intro h1 i tb k hi' hk hm l_tx hpre E_x F_x_high F_x_low F_x_text F_x_size A_hi A_lo A_tx A_t K0 Z0 O
        refine N.iload C (pc' := 18) d5_16 rfl rfl ?_
        refine N.ifc C (pt := 50) (pf := 21) d5_18 rfl rfl (fun (q : (1 : Int32) = (0 : Int32)) => absurd q (by decide)) (fun _ => ?_)
        refine N.iload C (pc' := 23) d5_21 rfl rfl ?_
        refine N.bipush C (pc' := 25) (z := 36) d5_23 rfl rfl ?_
        refine N.icmp C (pt := 50) (pf := 28) d5_25 rfl rfl (fun (hc25 : 36 ≤ i.toInt) => ?_) (fun (hc25 : i.toInt < 36) => ?_)
        · have ek : k = 36 := by omega
          subst ek
          have etb := own_eqT hT l_tx hpre
          subst etb
          exact j50 _ _ E_x F_x_high F_x_low F_x_text F_x_size A_hi A_lo A_tx A_t K0 Z0 O l_tx
        · refine N.aloadN C (pc' := 29) d5_28 rfl rfl rfl ?_
          refine N.getF C (pc' := 32) d5_29 (C.w (i := 24) rfl) F_x_text rfl ?_
          refine N.iload C (pc' := 34) d5_32 rfl rfl ?_
          refine N.aloadN C (pc' := 35) d5_34 rfl rfl rfl ?_
          refine N.iloadN C (pc' := 36) d5_35 rfl rfl ?_
          refine N.iload C (pc' := 38) d5_36 rfl rfl ?_
          refine N.iadd C (pc' := 39) d5_38 rfl ?_
          obtain ⟨c, hc1, hc2⟩ := hT.2 k (by omega)
          have hcr := own_txr hh ll k
          refine N.caload C (pc' := 40) (i := k) (v := (.int c)) d5_39 A_t (own_0i hi' (by omega)) (own_pm hc1) rfl ?_
          refine N.callS C (pc' := 43) [(.int c)] d5_40 (C.w (i := 31) rfl) (C.w (i := 32) rfl) (C.w (i := 11) rfl) (C.w (i := 33) rfl) (by decide) (con6 G hw c h1 (by omega) (by omega) (by omega)) (lenOf pd__C_B rfl) rfl (by decide) (show 2 + (1 + 11) + _ ≤ _ from by decide) (by decide) (by decide) (rest := [(.int i), (.ref tx)]) rfl rfl ?_
          rintro _ h40_1 ⟨z, rfl, rfl, hz⟩
          show N G K rm5 Q h1 0 0 43 #[.val (.ref x), .val (.ref t), .val (.int (0 : Int32)), .val (.int (36 : Int32)), .val (.int (1 : Int32)), .val (.int i)] [(.int z), (.int i), (.ref tx)]
          refine N.bastore C (pc' := 44) (i := k) d5_43 A_tx hi' (by rw [List.length_map, l_tx]; omega) g_tx rfl (fun h43_2 W43 A_tx => ?_)
          have Z0 : G.n0 ≤ _ := (Wr.size W43).symm ▸ Z0
          have F_x_high := F_x_high.other W43 (Or.inl ne_x_tx)
          have F_x_low := F_x_low.other W43 (Or.inl ne_x_tx)
          have F_x_text := F_x_text.other W43 (Or.inl ne_x_tx)
          have F_x_size := F_x_size.other W43 (Or.inl ne_x_tx)
          have E_x := E_x.wr W43
          have A_hi := A_hi.other W43 ne_hi_tx
          have A_lo := A_lo.other W43 ne_lo_tx
          have A_t := A_t.other W43 ne_t_tx
          have K0 := K0.wr W43 (Or.inl (List.mem_of_getElem? (i := 3) rfl))
          have hzc : z = c := Int32.toInt_inj.mp hz
          have A_tx : Av G.Z h43_2 tx .byte ((tb.set k c).map .int) := by rw [List.map_set, ← hzc]; rw [own_narb (by omega) (by omega)] at A_tx; exact A_tx
          have O := O.wr W43 g_tx
          refine N.iinc C (pc' := 47) (z := 1) (ls' := #[.val (.ref x), .val (.ref t), .val (.int (0 : Int32)), .val (.int (36 : Int32)), .val (.int (1 : Int32)), .val (.int (i + (1 : Int32)))]) d5_44 rfl rfl rfl rfl ?_
          refine N.goto C (pc' := 16) d5_47 rfl ?_
          exact ih _ _ _ _ (own_inc hi' (by omega)) (by omega) (by omega) (by simp [l_tx]) (own_stp l_tx (by omega) hpre hc1) E_x F_x_high F_x_low F_x_text F_x_size A_hi A_lo A_tx A_t K0 Z0 O
    exact loop 36 _ _ tb 0 (by decide) (by decide) (by decide) l_tx (fun j hj => absurd hj (Nat.not_lt_zero _)) E_x F_x_high F_x_low F_x_text F_x_size A_hi A_lo A_tx A_t K0 Z0 O
  clear A_tx E_x F_x_high F_x_low F_x_text F_x_size A_hi A_lo A_t K0 Z0 O l_tx
  intro h1 i E_x F_x_high F_x_low F_x_text F_x_size A_hi A_lo A_tx A_t K0 Z0 O l_tx
  show N G K rm5 Q h1 0 0 50 #[.val (.ref x), .val (.ref t), .val (.int (0 : Int32)), .val (.int (36 : Int32)), .val (.int (1 : Int32)), .val (.int i)] []
  refine N.iload C (pc' := 52) d5_50 rfl rfl ?_
  refine N.ifc C (pt := 62) (pf := 55) d5_52 rfl rfl (fun (q : (1 : Int32) = (0 : Int32)) => absurd q (by decide)) (fun _ => ?_)
  refine N.aloadN C (pc' := 56) d5_55 rfl rfl rfl ?_
  refine N.callPW C (pc' := 59) x [] d5_56 (C.w (i := 34) rfl) (Jvm.Kit.selects_private (by decide) (C.w (i := 10) rfl) (C.w (i := 36) rfl) (C.w (i := 35) rfl)) (C.w (i := 35) rfl) (C.w (i := 11) rfl) (C.w (i := 37) rfl) (by decide) E_x (con7 G hw x hi lo tx w hh ll n kn hs ls cs wl h1 hn hkn hT Z0 ⟨ne_x_hi, ne_x_lo, ne_x_tx, ne_hi_lo, ne_hi_tx, ne_lo_tx, g_x, g_hi, g_lo, g_tx, E_x, F_x_high, F_x_low, F_x_text, F_x_size, A_hi, l_hi, A_lo, l_lo, A_tx, l_tx⟩ O HX) (lenOf pd___Z rfl) rfl (by decide) (show 0 + (3 + 11) + _ ≤ _ from by decide) (by decide) (by decide) (rest := []) rfl rfl ?_
  rintro _ h56_1 ⟨rfl, KpA, HI2⟩
  have K0 := K0.trans KpA (allS (Or.inl (List.mem_of_getElem? (i := 0) rfl)) (allS (Or.inl (List.mem_of_getElem? (i := 1) rfl)) (allS (Or.inl (List.mem_of_getElem? (i := 2) rfl)) (allS (Or.inl (List.mem_of_getElem? (i := 3) rfl)) all0))))
  show N G K rm5 Q h56_1 (0 + 1) (0 + 2) 59 #[.val (.ref x), .val (.ref t), .val (.int (0 : Int32)), .val (.int (36 : Int32)), .val (.int (1 : Int32)), .val (.int i)] [(.int (1 : Int32))]
  refine N.ifc C (pt := 76) (pf := 62) d5_59 rfl rfl (fun _ => ?_) (fun (q : (1 : Int32) = (0 : Int32)) => absurd q (by decide))
  exact N.ret0 C rfl d5_76 (by decide) (by decide) (by subst hQ; exact ⟨rfl, K0, HI2⟩)
set_option maxRecDepth 65536 in
set_option maxHeartbeats 40000000 in
theorem con14 (G : Gx) (hw : ∀ d ∈ tables_1, d.before G.a0 G.Z = true) (x y ah1 al1 ah2 al2 : Addr) (j : Int32) (k : Nat) (v1 v2 u1 u2 : Int64) (l1 l2 l3 l4 : List Value) (h : Heap) (hj : j.toInt = (k : Nat)) (F_x_high : Fld G.Z h x "com/example/grantgraph/grantgraph/bench/Ids" "high" "[J" (.ref ah1)) (F_x_low : Fld G.Z h x "com/example/grantgraph/grantgraph/bench/Ids" "low" "[J" (.ref al1)) (F_y_high : Fld G.Z h y "com/example/grantgraph/grantgraph/bench/Ids" "high" "[J" (.ref ah2)) (F_y_low : Fld G.Z h y "com/example/grantgraph/grantgraph/bench/Ids" "low" "[J" (.ref al2)) (A_ah1 : Av G.Z h ah1 .long l1) (A_ah2 : Av G.Z h ah2 .long l2) (A_al1 : Av G.Z h al1 .long l3) (A_al2 : Av G.Z h al2 .long l4) (e1 : l1[k]? = some (.long v1)) (e2 : l2[k]? = some (.long v2)) (e3 : l3[k]? = some (.long u1)) (e4 : l4[k]? = some (.long u2)) :
    Con G (⟨"com/example/grantgraph/grantgraph/bench/Ids", "sameAt", "(ILcom/example/grantgraph/grantgraph/bench/Ids;)Z"⟩ : MethodName) prog_9_method_9_code 3 (some .boolean) rm14 #[(.ref x), (.int j), (.ref y)] h (fun v h' => ∃ z : Int32, v = some (.int z) ∧ h = h' ∧ ((z = 1 ∧ (v1 = v2 ∧ u1 = u2)) ∨ (z = 0 ∧ ¬ (v1 = v2 ∧ u1 = u2)))) := by
  refine Con.of (W := tables_1) (plainFor_of_name pn14) hw (fun mm => ef14 mm x j y) (fun K C => ?_)
  have C : Cx G K "com/example/grantgraph/grantgraph/bench/Ids" "sameAt" prog_9_method_9_code 3 (some .boolean) tables_1 := C
  generalize hQ : (fun v h' => ∃ z : Int32, v = some (.int z) ∧ h = h' ∧ ((z = 1 ∧ (v1 = v2 ∧ u1 = u2)) ∨ (z = 0 ∧ ¬ (v1 = v2 ∧ u1 = u2))) : Option Value → Heap → Prop) = Q
  refine N.aloadN C (pc' := 1) d14_0 rfl rfl rfl ?_
  refine N.getF C (pc' := 4) d14_1 (C.w (i := 19) rfl) F_x_high rfl ?_
  refine N.iloadN C (pc' := 5) d14_4 rfl rfl ?_
  refine N.laload C (pc' := 6) (i := k) (v := (.long v1)) d14_5 A_ah1 hj e1 rfl ?_
  refine N.aloadN C (pc' := 7) d14_6 rfl rfl rfl ?_
  refine N.getF C (pc' := 10) d14_7 (C.w (i := 19) rfl) F_y_high rfl ?_
  refine N.iloadN C (pc' := 11) d14_10 rfl rfl ?_
  refine N.laload C (pc' := 12) (i := k) (v := (.long v2)) d14_11 A_ah2 hj e2 rfl ?_
  refine N.lcmp C (pc' := 13) d14_12 rfl ?_
  refine N.lif C (pt := 36) (pf := 16) d14_13 rfl rfl (fun (hc13 : ¬ v1 = v2) => ?_) (fun (hc13 : v1 = v2) => ?_)
  · have hi13 : ¬ v1.toInt = v2.toInt := neL hc13
    refine N.iconst C (pc' := 37) (z := 0) d14_36 rfl rfl ?_
    exact N.retN C (by simp) (z' := (0 : Int32)) rfl d14_37 (by decide) (by decide) (by subst hQ; exact ⟨0, rfl, rfl, Or.inr ⟨rfl, fun q => hc13 q.1⟩⟩)
  · have hi13 : v1.toInt = v2.toInt := eqL hc13
    refine N.aloadN C (pc' := 17) d14_16 rfl rfl rfl ?_
    refine N.getF C (pc' := 20) d14_17 (C.w (i := 21) rfl) F_x_low rfl ?_
    refine N.iloadN C (pc' := 21) d14_20 rfl rfl ?_
    refine N.laload C (pc' := 22) (i := k) (v := (.long u1)) d14_21 A_al1 hj e3 rfl ?_
    refine N.aloadN C (pc' := 23) d14_22 rfl rfl rfl ?_
    refine N.getF C (pc' := 26) d14_23 (C.w (i := 21) rfl) F_y_low rfl ?_
    refine N.iloadN C (pc' := 27) d14_26 rfl rfl ?_
    refine N.laload C (pc' := 28) (i := k) (v := (.long u2)) d14_27 A_al2 hj e4 rfl ?_
    refine N.lcmp C (pc' := 29) d14_28 rfl ?_
    refine N.lif C (pt := 36) (pf := 32) d14_29 rfl rfl (fun (hc29 : ¬ u1 = u2) => ?_) (fun (hc29 : u1 = u2) => ?_)
    · have hi29 : ¬ u1.toInt = u2.toInt := neL hc29
      refine N.iconst C (pc' := 37) (z := 0) d14_36 rfl rfl ?_
      exact N.retN C (by simp) (z' := (0 : Int32)) rfl d14_37 (by decide) (by decide) (by subst hQ; exact ⟨0, rfl, rfl, Or.inr ⟨rfl, fun q => hc29 q.2⟩⟩)
    · have hi29 : u1.toInt = u2.toInt := eqL hc29
      refine N.iconst C (pc' := 33) (z := 1) d14_32 rfl rfl ?_
      refine N.goto C (pc' := 37) d14_33 rfl ?_
      exact N.retN C (by simp) (z' := (1 : Int32)) rfl d14_37 (by decide) (by decide) (by subst hQ; exact ⟨1, rfl, rfl, Or.inl ⟨rfl, hc13, hc29⟩⟩)
set_option maxRecDepth 65536 in
set_option maxHeartbeats 40000000 in
theorem con0 (G : Gx) (hw : ∀ d ∈ tables_1, d.before G.a0 G.Z = true) (h1 l1 h2 l2 : Int64) (sel k : Int32) (w : Addr) (wl : List Value) (h : Heap) (Z0 : G.n0 ≤ h.size) (O : Old G.Z G.n0 h) (HX : own_HX G w wl) :
    Con G x code maxLocals ret room_1 #[(.long h1), (.long l1), (.long h2), (.long l2), (.int sel), (.int k)] h (fun v _ => v = some (.int 1)) := by
  refine Con.of (W := tables_1) (plainFor_of_name pn0) hw (fun mm => ef0 mm h1 l1 h2 l2 sel k) (fun K C => ?_)
  have C : Cx G K "com/example/grantgraph/grantgraph/bench/IdsSameAtPinLaw" "law" code maxLocals ret tables_1 := C
  generalize hQ : (fun v _ => v = some (.int 1) : Option Value → Heap → Prop) = Q
  suffices j35 : ∀ bh0 : Int64, N G K room_1 Q h 0 0 35 #[.val (.long h1), .second, .val (.long l1), .second, .val (.long h2), .second, .val (.long l2), .second, .val (.int sel), .val (.int k), .val (.long bh0), .second, .unset, .unset, .unset, .unset, .unset, .unset, .unset, .unset, .unset, .unset, .unset, .unset, .unset, .unset, .unset, .unset] [] by
    refine N.iload C (pc' := 2) at_0 rfl rfl ?_
    refine N.iconst C (pc' := 3) (z := 1) at_2 rfl rfl ?_
    refine N.iand C (pc' := 4) at_3 rfl ?_
    refine N.ifc C (pt := 11) (pf := 7) at_4 rfl rfl (fun (hc4 : (sel &&& (1 : Int32)) = (0 : Int32)) => ?_) (fun (hc4 : ¬ (sel &&& (1 : Int32)) = (0 : Int32)) => ?_)
    · have hi4 : (sel &&& (1 : Int32)).toInt = 0 := eqI hc4
      refine N.lload C (pc' := 13) at_11 rfl rfl ?_
      refine N.iload C (pc' := 15) at_13 rfl rfl ?_
      refine N.bipush C (pc' := 17) (z := 16) at_15 rfl rfl ?_
      refine N.iand C (pc' := 18) at_17 rfl ?_
      refine N.ifc C (pt := 31) (pf := 21) at_18 rfl rfl (fun (hc18 : (sel &&& (16 : Int32)) = (0 : Int32)) => ?_) (fun (hc18 : ¬ (sel &&& (16 : Int32)) = (0 : Int32)) => ?_)
      · have hi18 : (sel &&& (16 : Int32)).toInt = 0 := eqI hc18
        refine N.lconst C (pc' := 32) (z := 0) at_31 rfl rfl ?_
        refine N.lxor C (pc' := 33) at_32 rfl ?_
        refine N.lstore C (pc' := 35) (ls' := #[.val (.long h1), .second, .val (.long l1), .second, .val (.long h2), .second, .val (.long l2), .second, .val (.int sel), .val (.int k), .val (.long (h2 ^^^ (0 : Int64))), .second, .unset, .unset, .unset, .unset, .unset, .unset, .unset, .unset, .unset, .unset, .unset, .unset, .unset, .unset, .unset, .unset]) at_33 rfl rfl ?_
        exact j35 _
      · have hi18 : ¬ (sel &&& (16 : Int32)).toInt = 0 := neI hc18
        refine N.lconst C (pc' := 22) (z := 1) at_21 rfl rfl ?_
        refine N.iload C (pc' := 24) at_22 rfl rfl ?_
        refine N.bipush C (pc' := 26) (z := 63) at_24 rfl rfl ?_
        refine N.iand C (pc' := 27) at_26 rfl ?_
        refine N.lshl C (pc' := 28) at_27 rfl ?_
        refine N.goto C (pc' := 32) at_28 rfl ?_
        refine N.lxor C (pc' := 33) at_32 rfl ?_
        refine N.lstore C (pc' := 35) (ls' := #[.val (.long h1), .second, .val (.long l1), .second, .val (.long h2), .second, .val (.long l2), .second, .val (.int sel), .val (.int k), .val (.long (h2 ^^^ (((1 : Int64) <<< ((k &&& (63 : Int32)) &&& 0x3f).toInt64)))), .second, .unset, .unset, .unset, .unset, .unset, .unset, .unset, .unset, .unset, .unset, .unset, .unset, .unset, .unset, .unset, .unset]) at_33 rfl rfl ?_
        exact j35 _
    · have hi4 : ¬ (sel &&& (1 : Int32)).toInt = 0 := neI hc4
      refine N.lloadN C (pc' := 8) at_7 rfl rfl ?_
      refine N.goto C (pc' := 13) at_8 rfl ?_
      refine N.iload C (pc' := 15) at_13 rfl rfl ?_
      refine N.bipush C (pc' := 17) (z := 16) at_15 rfl rfl ?_
      refine N.iand C (pc' := 18) at_17 rfl ?_
      refine N.ifc C (pt := 31) (pf := 21) at_18 rfl rfl (fun (hc18 : (sel &&& (16 : Int32)) = (0 : Int32)) => ?_) (fun (hc18 : ¬ (sel &&& (16 : Int32)) = (0 : Int32)) => ?_)
      · have hi18 : (sel &&& (16 : Int32)).toInt = 0 := eqI hc18
        refine N.lconst C (pc' := 32) (z := 0) at_31 rfl rfl ?_
        refine N.lxor C (pc' := 33) at_32 rfl ?_
        refine N.lstore C (pc' := 35) (ls' := #[.val (.long h1), .second, .val (.long l1), .second, .val (.long h2), .second, .val (.long l2), .second, .val (.int sel), .val (.int k), .val (.long (h1 ^^^ (0 : Int64))), .second, .unset, .unset, .unset, .unset, .unset, .unset, .unset, .unset, .unset, .unset, .unset, .unset, .unset, .unset, .unset, .unset]) at_33 rfl rfl ?_
        exact j35 _
      · have hi18 : ¬ (sel &&& (16 : Int32)).toInt = 0 := neI hc18
        refine N.lconst C (pc' := 22) (z := 1) at_21 rfl rfl ?_
        refine N.iload C (pc' := 24) at_22 rfl rfl ?_
        refine N.bipush C (pc' := 26) (z := 63) at_24 rfl rfl ?_
        refine N.iand C (pc' := 27) at_26 rfl ?_
        refine N.lshl C (pc' := 28) at_27 rfl ?_
        refine N.goto C (pc' := 32) at_28 rfl ?_
        refine N.lxor C (pc' := 33) at_32 rfl ?_
        refine N.lstore C (pc' := 35) (ls' := #[.val (.long h1), .second, .val (.long l1), .second, .val (.long h2), .second, .val (.long l2), .second, .val (.int sel), .val (.int k), .val (.long (h1 ^^^ (((1 : Int64) <<< ((k &&& (63 : Int32)) &&& 0x3f).toInt64)))), .second, .unset, .unset, .unset, .unset, .unset, .unset, .unset, .unset, .unset, .unset, .unset, .unset, .unset, .unset, .unset, .unset]) at_33 rfl rfl ?_
        exact j35 _
  intro bh0
  suffices j73 : ∀ bl0 : Int64, N G K room_1 Q h 0 0 73 #[.val (.long h1), .second, .val (.long l1), .second, .val (.long h2), .second, .val (.long l2), .second, .val (.int sel), .val (.int k), .val (.long bh0), .second, .val (.long bl0), .second, .unset, .unset, .unset, .unset, .unset, .unset, .unset, .unset, .unset, .unset, .unset, .unset, .unset, .unset] [] by
    refine N.iload C (pc' := 37) at_35 rfl rfl ?_
    refine N.iconst C (pc' := 38) (z := 2) at_37 rfl rfl ?_
    refine N.iand C (pc' := 39) at_38 rfl ?_
    refine N.ifc C (pt := 46) (pf := 42) at_39 rfl rfl (fun (hc39 : (sel &&& (2 : Int32)) = (0 : Int32)) => ?_) (fun (hc39 : ¬ (sel &&& (2 : Int32)) = (0 : Int32)) => ?_)
    · have hi39 : (sel &&& (2 : Int32)).toInt = 0 := eqI hc39
      refine N.lload C (pc' := 48) at_46 rfl rfl ?_
      refine N.iload C (pc' := 50) at_48 rfl rfl ?_
      refine N.bipush C (pc' := 52) (z := 64) at_50 rfl rfl ?_
      refine N.iand C (pc' := 53) at_52 rfl ?_
      refine N.ifc C (pt := 69) (pf := 56) at_53 rfl rfl (fun (hc53 : (sel &&& (64 : Int32)) = (0 : Int32)) => ?_) (fun (hc53 : ¬ (sel &&& (64 : Int32)) = (0 : Int32)) => ?_)
      · have hi53 : (sel &&& (64 : Int32)).toInt = 0 := eqI hc53
        refine N.lconst C (pc' := 70) (z := 0) at_69 rfl rfl ?_
        refine N.lxor C (pc' := 71) at_70 rfl ?_
        refine N.lstore C (pc' := 73) (ls' := #[.val (.long h1), .second, .val (.long l1), .second, .val (.long h2), .second, .val (.long l2), .second, .val (.int sel), .val (.int k), .val (.long bh0), .second, .val (.long (l2 ^^^ (0 : Int64))), .second, .unset, .unset, .unset, .unset, .unset, .unset, .unset, .unset, .unset, .unset, .unset, .unset, .unset, .unset]) at_71 rfl rfl ?_
        exact j73 _
      · have hi53 : ¬ (sel &&& (64 : Int32)).toInt = 0 := neI hc53
        refine N.lconst C (pc' := 57) (z := 1) at_56 rfl rfl ?_
        refine N.iload C (pc' := 59) at_57 rfl rfl ?_
        refine N.bipush C (pc' := 61) (z := 12) at_59 rfl rfl ?_
        refine N.iushr C (pc' := 62) at_61 rfl ?_
        refine N.bipush C (pc' := 64) (z := 63) at_62 rfl rfl ?_
        refine N.iand C (pc' := 65) at_64 rfl ?_
        refine N.lshl C (pc' := 66) at_65 rfl ?_
        refine N.goto C (pc' := 70) at_66 rfl ?_
        refine N.lxor C (pc' := 71) at_70 rfl ?_
        refine N.lstore C (pc' := 73) (ls' := #[.val (.long h1), .second, .val (.long l1), .second, .val (.long h2), .second, .val (.long l2), .second, .val (.int sel), .val (.int k), .val (.long bh0), .second, .val (.long (l2 ^^^ (((1 : Int64) <<< ((((k.toUInt32 >>> ((12 : Int32) &&& 31).toUInt32).toInt32) &&& (63 : Int32)) &&& 0x3f).toInt64)))), .second, .unset, .unset, .unset, .unset, .unset, .unset, .unset, .unset, .unset, .unset, .unset, .unset, .unset, .unset]) at_71 rfl rfl ?_
        exact j73 _
    · have hi39 : ¬ (sel &&& (2 : Int32)).toInt = 0 := neI hc39
      refine N.lloadN C (pc' := 43) at_42 rfl rfl ?_
      refine N.goto C (pc' := 48) at_43 rfl ?_
      refine N.iload C (pc' := 50) at_48 rfl rfl ?_
      refine N.bipush C (pc' := 52) (z := 64) at_50 rfl rfl ?_
      refine N.iand C (pc' := 53) at_52 rfl ?_
      refine N.ifc C (pt := 69) (pf := 56) at_53 rfl rfl (fun (hc53 : (sel &&& (64 : Int32)) = (0 : Int32)) => ?_) (fun (hc53 : ¬ (sel &&& (64 : Int32)) = (0 : Int32)) => ?_)
      · have hi53 : (sel &&& (64 : Int32)).toInt = 0 := eqI hc53
        refine N.lconst C (pc' := 70) (z := 0) at_69 rfl rfl ?_
        refine N.lxor C (pc' := 71) at_70 rfl ?_
        refine N.lstore C (pc' := 73) (ls' := #[.val (.long h1), .second, .val (.long l1), .second, .val (.long h2), .second, .val (.long l2), .second, .val (.int sel), .val (.int k), .val (.long bh0), .second, .val (.long (l1 ^^^ (0 : Int64))), .second, .unset, .unset, .unset, .unset, .unset, .unset, .unset, .unset, .unset, .unset, .unset, .unset, .unset, .unset]) at_71 rfl rfl ?_
        exact j73 _
      · have hi53 : ¬ (sel &&& (64 : Int32)).toInt = 0 := neI hc53
        refine N.lconst C (pc' := 57) (z := 1) at_56 rfl rfl ?_
        refine N.iload C (pc' := 59) at_57 rfl rfl ?_
        refine N.bipush C (pc' := 61) (z := 12) at_59 rfl rfl ?_
        refine N.iushr C (pc' := 62) at_61 rfl ?_
        refine N.bipush C (pc' := 64) (z := 63) at_62 rfl rfl ?_
        refine N.iand C (pc' := 65) at_64 rfl ?_
        refine N.lshl C (pc' := 66) at_65 rfl ?_
        refine N.goto C (pc' := 70) at_66 rfl ?_
        refine N.lxor C (pc' := 71) at_70 rfl ?_
        refine N.lstore C (pc' := 73) (ls' := #[.val (.long h1), .second, .val (.long l1), .second, .val (.long h2), .second, .val (.long l2), .second, .val (.int sel), .val (.int k), .val (.long bh0), .second, .val (.long (l1 ^^^ (((1 : Int64) <<< ((((k.toUInt32 >>> ((12 : Int32) &&& 31).toUInt32).toInt32) &&& (63 : Int32)) &&& 0x3f).toInt64)))), .second, .unset, .unset, .unset, .unset, .unset, .unset, .unset, .unset, .unset, .unset, .unset, .unset, .unset, .unset]) at_71 rfl rfl ?_
        exact j73 _
  intro bl0
  suffices j112 : ∀ bh1 : Int64, N G K room_1 Q h 0 0 112 #[.val (.long h1), .second, .val (.long l1), .second, .val (.long h2), .second, .val (.long l2), .second, .val (.int sel), .val (.int k), .val (.long bh0), .second, .val (.long bl0), .second, .val (.long bh1), .second, .unset, .unset, .unset, .unset, .unset, .unset, .unset, .unset, .unset, .unset, .unset, .unset] [] by
    refine N.iload C (pc' := 75) at_73 rfl rfl ?_
    refine N.iconst C (pc' := 76) (z := 4) at_75 rfl rfl ?_
    refine N.iand C (pc' := 77) at_76 rfl ?_
    refine N.ifc C (pt := 85) (pf := 80) at_77 rfl rfl (fun (hc77 : (sel &&& (4 : Int32)) = (0 : Int32)) => ?_) (fun (hc77 : ¬ (sel &&& (4 : Int32)) = (0 : Int32)) => ?_)
    · have hi77 : (sel &&& (4 : Int32)).toInt = 0 := eqI hc77
      refine N.lloadN C (pc' := 86) at_85 rfl rfl ?_
      refine N.iload C (pc' := 88) at_86 rfl rfl ?_
      refine N.sipush C (pc' := 91) (z := 128) at_88 rfl rfl ?_
      refine N.iand C (pc' := 92) at_91 rfl ?_
      refine N.ifc C (pt := 108) (pf := 95) at_92 rfl rfl (fun (hc92 : (sel &&& (128 : Int32)) = (0 : Int32)) => ?_) (fun (hc92 : ¬ (sel &&& (128 : Int32)) = (0 : Int32)) => ?_)
      · have hi92 : (sel &&& (128 : Int32)).toInt = 0 := eqI hc92
        refine N.lconst C (pc' := 109) (z := 0) at_108 rfl rfl ?_
        refine N.lxor C (pc' := 110) at_109 rfl ?_
        refine N.lstore C (pc' := 112) (ls' := #[.val (.long h1), .second, .val (.long l1), .second, .val (.long h2), .second, .val (.long l2), .second, .val (.int sel), .val (.int k), .val (.long bh0), .second, .val (.long bl0), .second, .val (.long (h1 ^^^ (0 : Int64))), .second, .unset, .unset, .unset, .unset, .unset, .unset, .unset, .unset, .unset, .unset, .unset, .unset]) at_110 rfl rfl ?_
        exact j112 _
      · have hi92 : ¬ (sel &&& (128 : Int32)).toInt = 0 := neI hc92
        refine N.lconst C (pc' := 96) (z := 1) at_95 rfl rfl ?_
        refine N.iload C (pc' := 98) at_96 rfl rfl ?_
        refine N.bipush C (pc' := 100) (z := 18) at_98 rfl rfl ?_
        refine N.iushr C (pc' := 101) at_100 rfl ?_
        refine N.bipush C (pc' := 103) (z := 63) at_101 rfl rfl ?_
        refine N.iand C (pc' := 104) at_103 rfl ?_
        refine N.lshl C (pc' := 105) at_104 rfl ?_
        refine N.goto C (pc' := 109) at_105 rfl ?_
        refine N.lxor C (pc' := 110) at_109 rfl ?_
        refine N.lstore C (pc' := 112) (ls' := #[.val (.long h1), .second, .val (.long l1), .second, .val (.long h2), .second, .val (.long l2), .second, .val (.int sel), .val (.int k), .val (.long bh0), .second, .val (.long bl0), .second, .val (.long (h1 ^^^ (((1 : Int64) <<< ((((k.toUInt32 >>> ((18 : Int32) &&& 31).toUInt32).toInt32) &&& (63 : Int32)) &&& 0x3f).toInt64)))), .second, .unset, .unset, .unset, .unset, .unset, .unset, .unset, .unset, .unset, .unset, .unset, .unset]) at_110 rfl rfl ?_
        exact j112 _
    · have hi77 : ¬ (sel &&& (4 : Int32)).toInt = 0 := neI hc77
      refine N.lload C (pc' := 82) at_80 rfl rfl ?_
      refine N.goto C (pc' := 86) at_82 rfl ?_
      refine N.iload C (pc' := 88) at_86 rfl rfl ?_
      refine N.sipush C (pc' := 91) (z := 128) at_88 rfl rfl ?_
      refine N.iand C (pc' := 92) at_91 rfl ?_
      refine N.ifc C (pt := 108) (pf := 95) at_92 rfl rfl (fun (hc92 : (sel &&& (128 : Int32)) = (0 : Int32)) => ?_) (fun (hc92 : ¬ (sel &&& (128 : Int32)) = (0 : Int32)) => ?_)
      · have hi92 : (sel &&& (128 : Int32)).toInt = 0 := eqI hc92
        refine N.lconst C (pc' := 109) (z := 0) at_108 rfl rfl ?_
        refine N.lxor C (pc' := 110) at_109 rfl ?_
        refine N.lstore C (pc' := 112) (ls' := #[.val (.long h1), .second, .val (.long l1), .second, .val (.long h2), .second, .val (.long l2), .second, .val (.int sel), .val (.int k), .val (.long bh0), .second, .val (.long bl0), .second, .val (.long (h2 ^^^ (0 : Int64))), .second, .unset, .unset, .unset, .unset, .unset, .unset, .unset, .unset, .unset, .unset, .unset, .unset]) at_110 rfl rfl ?_
        exact j112 _
      · have hi92 : ¬ (sel &&& (128 : Int32)).toInt = 0 := neI hc92
        refine N.lconst C (pc' := 96) (z := 1) at_95 rfl rfl ?_
        refine N.iload C (pc' := 98) at_96 rfl rfl ?_
        refine N.bipush C (pc' := 100) (z := 18) at_98 rfl rfl ?_
        refine N.iushr C (pc' := 101) at_100 rfl ?_
        refine N.bipush C (pc' := 103) (z := 63) at_101 rfl rfl ?_
        refine N.iand C (pc' := 104) at_103 rfl ?_
        refine N.lshl C (pc' := 105) at_104 rfl ?_
        refine N.goto C (pc' := 109) at_105 rfl ?_
        refine N.lxor C (pc' := 110) at_109 rfl ?_
        refine N.lstore C (pc' := 112) (ls' := #[.val (.long h1), .second, .val (.long l1), .second, .val (.long h2), .second, .val (.long l2), .second, .val (.int sel), .val (.int k), .val (.long bh0), .second, .val (.long bl0), .second, .val (.long (h2 ^^^ (((1 : Int64) <<< ((((k.toUInt32 >>> ((18 : Int32) &&& 31).toUInt32).toInt32) &&& (63 : Int32)) &&& 0x3f).toInt64)))), .second, .unset, .unset, .unset, .unset, .unset, .unset, .unset, .unset, .unset, .unset, .unset, .unset]) at_110 rfl rfl ?_
        exact j112 _
  intro bh1
  suffices j151 : ∀ bl1 : Int64, N G K room_1 Q h 0 0 151 #[.val (.long h1), .second, .val (.long l1), .second, .val (.long h2), .second, .val (.long l2), .second, .val (.int sel), .val (.int k), .val (.long bh0), .second, .val (.long bl0), .second, .val (.long bh1), .second, .val (.long bl1), .second, .unset, .unset, .unset, .unset, .unset, .unset, .unset, .unset, .unset, .unset] [] by
    refine N.iload C (pc' := 114) at_112 rfl rfl ?_
    refine N.bipush C (pc' := 116) (z := 8) at_114 rfl rfl ?_
    refine N.iand C (pc' := 117) at_116 rfl ?_
    refine N.ifc C (pt := 125) (pf := 120) at_117 rfl rfl (fun (hc117 : (sel &&& (8 : Int32)) = (0 : Int32)) => ?_) (fun (hc117 : ¬ (sel &&& (8 : Int32)) = (0 : Int32)) => ?_)
    · have hi117 : (sel &&& (8 : Int32)).toInt = 0 := eqI hc117
      refine N.lloadN C (pc' := 126) at_125 rfl rfl ?_
      refine N.iload C (pc' := 128) at_126 rfl rfl ?_
      refine N.bipush C (pc' := 130) (z := 32) at_128 rfl rfl ?_
      refine N.iand C (pc' := 131) at_130 rfl ?_
      refine N.ifc C (pt := 147) (pf := 134) at_131 rfl rfl (fun (hc131 : (sel &&& (32 : Int32)) = (0 : Int32)) => ?_) (fun (hc131 : ¬ (sel &&& (32 : Int32)) = (0 : Int32)) => ?_)
      · have hi131 : (sel &&& (32 : Int32)).toInt = 0 := eqI hc131
        refine N.lconst C (pc' := 148) (z := 0) at_147 rfl rfl ?_
        refine N.lxor C (pc' := 149) at_148 rfl ?_
        refine N.lstore C (pc' := 151) (ls' := #[.val (.long h1), .second, .val (.long l1), .second, .val (.long h2), .second, .val (.long l2), .second, .val (.int sel), .val (.int k), .val (.long bh0), .second, .val (.long bl0), .second, .val (.long bh1), .second, .val (.long (l1 ^^^ (0 : Int64))), .second, .unset, .unset, .unset, .unset, .unset, .unset, .unset, .unset, .unset, .unset]) at_149 rfl rfl ?_
        exact j151 _
      · have hi131 : ¬ (sel &&& (32 : Int32)).toInt = 0 := neI hc131
        refine N.lconst C (pc' := 135) (z := 1) at_134 rfl rfl ?_
        refine N.iload C (pc' := 137) at_135 rfl rfl ?_
        refine N.bipush C (pc' := 139) (z := 6) at_137 rfl rfl ?_
        refine N.iushr C (pc' := 140) at_139 rfl ?_
        refine N.bipush C (pc' := 142) (z := 63) at_140 rfl rfl ?_
        refine N.iand C (pc' := 143) at_142 rfl ?_
        refine N.lshl C (pc' := 144) at_143 rfl ?_
        refine N.goto C (pc' := 148) at_144 rfl ?_
        refine N.lxor C (pc' := 149) at_148 rfl ?_
        refine N.lstore C (pc' := 151) (ls' := #[.val (.long h1), .second, .val (.long l1), .second, .val (.long h2), .second, .val (.long l2), .second, .val (.int sel), .val (.int k), .val (.long bh0), .second, .val (.long bl0), .second, .val (.long bh1), .second, .val (.long (l1 ^^^ (((1 : Int64) <<< ((((k.toUInt32 >>> ((6 : Int32) &&& 31).toUInt32).toInt32) &&& (63 : Int32)) &&& 0x3f).toInt64)))), .second, .unset, .unset, .unset, .unset, .unset, .unset, .unset, .unset, .unset, .unset]) at_149 rfl rfl ?_
        exact j151 _
    · have hi117 : ¬ (sel &&& (8 : Int32)).toInt = 0 := neI hc117
      refine N.lload C (pc' := 122) at_120 rfl rfl ?_
      refine N.goto C (pc' := 126) at_122 rfl ?_
      refine N.iload C (pc' := 128) at_126 rfl rfl ?_
      refine N.bipush C (pc' := 130) (z := 32) at_128 rfl rfl ?_
      refine N.iand C (pc' := 131) at_130 rfl ?_
      refine N.ifc C (pt := 147) (pf := 134) at_131 rfl rfl (fun (hc131 : (sel &&& (32 : Int32)) = (0 : Int32)) => ?_) (fun (hc131 : ¬ (sel &&& (32 : Int32)) = (0 : Int32)) => ?_)
      · have hi131 : (sel &&& (32 : Int32)).toInt = 0 := eqI hc131
        refine N.lconst C (pc' := 148) (z := 0) at_147 rfl rfl ?_
        refine N.lxor C (pc' := 149) at_148 rfl ?_
        refine N.lstore C (pc' := 151) (ls' := #[.val (.long h1), .second, .val (.long l1), .second, .val (.long h2), .second, .val (.long l2), .second, .val (.int sel), .val (.int k), .val (.long bh0), .second, .val (.long bl0), .second, .val (.long bh1), .second, .val (.long (l2 ^^^ (0 : Int64))), .second, .unset, .unset, .unset, .unset, .unset, .unset, .unset, .unset, .unset, .unset]) at_149 rfl rfl ?_
        exact j151 _
      · have hi131 : ¬ (sel &&& (32 : Int32)).toInt = 0 := neI hc131
        refine N.lconst C (pc' := 135) (z := 1) at_134 rfl rfl ?_
        refine N.iload C (pc' := 137) at_135 rfl rfl ?_
        refine N.bipush C (pc' := 139) (z := 6) at_137 rfl rfl ?_
        refine N.iushr C (pc' := 140) at_139 rfl ?_
        refine N.bipush C (pc' := 142) (z := 63) at_140 rfl rfl ?_
        refine N.iand C (pc' := 143) at_142 rfl ?_
        refine N.lshl C (pc' := 144) at_143 rfl ?_
        refine N.goto C (pc' := 148) at_144 rfl ?_
        refine N.lxor C (pc' := 149) at_148 rfl ?_
        refine N.lstore C (pc' := 151) (ls' := #[.val (.long h1), .second, .val (.long l1), .second, .val (.long h2), .second, .val (.long l2), .second, .val (.int sel), .val (.int k), .val (.long bh0), .second, .val (.long bl0), .second, .val (.long bh1), .second, .val (.long (l2 ^^^ (((1 : Int64) <<< ((((k.toUInt32 >>> ((6 : Int32) &&& 31).toUInt32).toInt32) &&& (63 : Int32)) &&& 0x3f).toInt64)))), .second, .unset, .unset, .unset, .unset, .unset, .unset, .unset, .unset, .unset, .unset]) at_149 rfl rfl ?_
        exact j151 _
  intro bl1
  refine N.lloadN C (pc' := 152) at_151 rfl rfl ?_
  refine N.lloadN C (pc' := 153) at_152 rfl rfl ?_
  refine N.callS C (pc' := 156) [(.long h1), (.long l1)] at_153 (C.w (i := 0) rfl) (C.w (i := 1) rfl) (C.w (i := 2) rfl) (C.w (i := 3) rfl) (by decide) (con1 G hw h1 l1 h Z0) (lenOf pd__JJ__C rfl) rfl (by decide) (show 0 + (5 + 11) + _ ≤ _ from by decide) (by decide) (by decide) (rest := []) rfl rfl ?_
  rintro _ h153_1 ⟨t0, cs0, rfl, ht0, KT0, A_t0, hT0⟩
  have Z0 := Nat.le_trans Z0 KT0.1
  have O := O.keep KT0 all0
  have hlt0 : @LT.lt Nat instLTNat t0 (Array.size h153_1) := A_t0.lt
  have hsz0 := KT0.1
  show N G K room_1 Q h153_1 (0 + 1) (0 + 36) 156 #[.val (.long h1), .second, .val (.long l1), .second, .val (.long h2), .second, .val (.long l2), .second, .val (.int sel), .val (.int k), .val (.long bh0), .second, .val (.long bl0), .second, .val (.long bh1), .second, .val (.long bl1), .second, .unset, .unset, .unset, .unset, .unset, .unset, .unset, .unset, .unset, .unset] [(.ref t0)]
  refine N.astore C (pc' := 158) (ls' := #[.val (.long h1), .second, .val (.long l1), .second, .val (.long h2), .second, .val (.long l2), .second, .val (.int sel), .val (.int k), .val (.long bh0), .second, .val (.long bl0), .second, .val (.long bh1), .second, .val (.long bl1), .second, .val (.ref t0), .unset, .unset, .unset, .unset, .unset, .unset, .unset, .unset, .unset]) at_156 rfl rfl rfl ?_
  refine N.lload C (pc' := 160) at_158 rfl rfl ?_
  refine N.lload C (pc' := 162) at_160 rfl rfl ?_
  refine N.callS C (pc' := 165) [(.long h2), (.long l2)] at_162 (C.w (i := 0) rfl) (C.w (i := 1) rfl) (C.w (i := 2) rfl) (C.w (i := 3) rfl) (by decide) (con1 G hw h2 l2 h153_1 Z0) (lenOf pd__JJ__C rfl) rfl (by decide) (show 0 + (5 + 11) + _ ≤ _ from by decide) (by decide) (by decide) (rest := []) rfl rfl ?_
  rintro _ h162_2 ⟨t1, cs1, rfl, ht1, KT1, A_t1, hT1⟩
  have Z0 := Nat.le_trans Z0 KT1.1
  have A_t0 := A_t0.keep KT1 nin0
  have O := O.keep KT1 all0
  have hlt1 : @LT.lt Nat instLTNat t1 (Array.size h162_2) := A_t1.lt
  have hsz1 := KT1.1
  show N G K room_1 Q h162_2 ((0 + 1) + 1) ((0 + 36) + 36) 165 #[.val (.long h1), .second, .val (.long l1), .second, .val (.long h2), .second, .val (.long l2), .second, .val (.int sel), .val (.int k), .val (.long bh0), .second, .val (.long bl0), .second, .val (.long bh1), .second, .val (.long bl1), .second, .val (.ref t0), .unset, .unset, .unset, .unset, .unset, .unset, .unset, .unset, .unset] [(.ref t1)]
  refine N.astore C (pc' := 167) (ls' := #[.val (.long h1), .second, .val (.long l1), .second, .val (.long h2), .second, .val (.long l2), .second, .val (.int sel), .val (.int k), .val (.long bh0), .second, .val (.long bl0), .second, .val (.long bh1), .second, .val (.long bl1), .second, .val (.ref t0), .val (.ref t1), .unset, .unset, .unset, .unset, .unset, .unset, .unset, .unset]) at_165 rfl rfl rfl ?_
  refine N.lload C (pc' := 169) at_167 rfl rfl ?_
  refine N.lload C (pc' := 171) at_169 rfl rfl ?_
  refine N.callS C (pc' := 174) [(.long bh0), (.long bl0)] at_171 (C.w (i := 0) rfl) (C.w (i := 1) rfl) (C.w (i := 2) rfl) (C.w (i := 3) rfl) (by decide) (con1 G hw bh0 bl0 h162_2 Z0) (lenOf pd__JJ__C rfl) rfl (by decide) (show 0 + (5 + 11) + _ ≤ _ from by decide) (by decide) (by decide) (rest := []) rfl rfl ?_
  rintro _ h171_3 ⟨t2, cs2, rfl, ht2, KT2, A_t2, hT2⟩
  have Z0 := Nat.le_trans Z0 KT2.1
  have A_t0 := A_t0.keep KT2 nin0
  have A_t1 := A_t1.keep KT2 nin0
  have O := O.keep KT2 all0
  have hlt2 : @LT.lt Nat instLTNat t2 (Array.size h171_3) := A_t2.lt
  have hsz2 := KT2.1
  show N G K room_1 Q h171_3 (((0 + 1) + 1) + 1) (((0 + 36) + 36) + 36) 174 #[.val (.long h1), .second, .val (.long l1), .second, .val (.long h2), .second, .val (.long l2), .second, .val (.int sel), .val (.int k), .val (.long bh0), .second, .val (.long bl0), .second, .val (.long bh1), .second, .val (.long bl1), .second, .val (.ref t0), .val (.ref t1), .unset, .unset, .unset, .unset, .unset, .unset, .unset, .unset] [(.ref t2)]
  refine N.astore C (pc' := 176) (ls' := #[.val (.long h1), .second, .val (.long l1), .second, .val (.long h2), .second, .val (.long l2), .second, .val (.int sel), .val (.int k), .val (.long bh0), .second, .val (.long bl0), .second, .val (.long bh1), .second, .val (.long bl1), .second, .val (.ref t0), .val (.ref t1), .val (.ref t2), .unset, .unset, .unset, .unset, .unset, .unset, .unset]) at_174 rfl rfl rfl ?_
  refine N.lload C (pc' := 178) at_176 rfl rfl ?_
  refine N.lload C (pc' := 180) at_178 rfl rfl ?_
  refine N.callS C (pc' := 183) [(.long bh1), (.long bl1)] at_180 (C.w (i := 0) rfl) (C.w (i := 1) rfl) (C.w (i := 2) rfl) (C.w (i := 3) rfl) (by decide) (con1 G hw bh1 bl1 h171_3 Z0) (lenOf pd__JJ__C rfl) rfl (by decide) (show 0 + (5 + 11) + _ ≤ _ from by decide) (by decide) (by decide) (rest := []) rfl rfl ?_
  rintro _ h180_4 ⟨t3, cs3, rfl, ht3, KT3, A_t3, hT3⟩
  have Z0 := Nat.le_trans Z0 KT3.1
  have A_t0 := A_t0.keep KT3 nin0
  have A_t1 := A_t1.keep KT3 nin0
  have A_t2 := A_t2.keep KT3 nin0
  have O := O.keep KT3 all0
  have hlt3 : @LT.lt Nat instLTNat t3 (Array.size h180_4) := A_t3.lt
  have hsz3 := KT3.1
  show N G K room_1 Q h180_4 ((((0 + 1) + 1) + 1) + 1) ((((0 + 36) + 36) + 36) + 36) 183 #[.val (.long h1), .second, .val (.long l1), .second, .val (.long h2), .second, .val (.long l2), .second, .val (.int sel), .val (.int k), .val (.long bh0), .second, .val (.long bl0), .second, .val (.long bh1), .second, .val (.long bl1), .second, .val (.ref t0), .val (.ref t1), .val (.ref t2), .unset, .unset, .unset, .unset, .unset, .unset, .unset] [(.ref t3)]
  refine N.astore C (pc' := 185) (ls' := #[.val (.long h1), .second, .val (.long l1), .second, .val (.long h2), .second, .val (.long l2), .second, .val (.int sel), .val (.int k), .val (.long bh0), .second, .val (.long bl0), .second, .val (.long bh1), .second, .val (.long bl1), .second, .val (.ref t0), .val (.ref t1), .val (.ref t2), .val (.ref t3), .unset, .unset, .unset, .unset, .unset, .unset]) at_183 rfl rfl rfl ?_
  refine N.newO C (pc' := 188) at_185 (C.w (i := 9) rfl) (C.w (i := 10) rfl) (C.w (i := 11) rfl) (by decide) (by decide) rfl (fun h185_5 a hx_a Ex185 E_a D_a => ?_)
  have g_a : G.n0 ≤ a := by rw [hx_a]; exact Z0
  have hxn_a : @Eq Nat a (Array.size h180_4) := hx_a
  have Z0 := Nat.le_trans Z0 Ex185.1
  have A_t0 := A_t0.ext Ex185
  have A_t1 := A_t1.ext Ex185
  have A_t2 := A_t2.ext Ex185
  have A_t3 := A_t3.ext Ex185
  have F_a_high : Fld G.Z h185_5 a "com/example/grantgraph/grantgraph/bench/Ids" "high" "[J" .null := D_a (Or.inl (C.w (i := 20) rfl)) (ty := (.array .long)) (by decide)
  have F_a_low : Fld G.Z h185_5 a "com/example/grantgraph/grantgraph/bench/Ids" "low" "[J" .null := D_a (Or.inl (C.w (i := 22) rfl)) (ty := (.array .long)) (by decide)
  have F_a_text : Fld G.Z h185_5 a "com/example/grantgraph/grantgraph/bench/Ids" "text" "[B" .null := D_a (Or.inr (C.w (i := 25) rfl)) (ty := (.array .byte)) (by decide)
  have F_a_size : Fld G.Z h185_5 a "com/example/grantgraph/grantgraph/bench/Ids" "size" "I" (.int (0 : Int32)) := D_a (Or.inl (C.w (i := 62) rfl)) (ty := .int) (by decide)
  have O := O.ext Ex185
  have hla : @LT.lt Nat instLTNat a (Array.size h185_5) := E_a.lt
  have hsEa := Ex185.1
  refine N.dup C (pc' := 189) at_188 rfl rfl ?_
  refine N.callI C (pc' := 192) a [] at_189 rfl (C.w (i := 12) rfl) (C.w (i := 13) rfl) (C.w (i := 11) rfl) (C.w (i := 14) rfl) (by decide) (con3 G hw a h185_5 Z0 g_a E_a F_a_high F_a_low F_a_text F_a_size) (lenOf pd___V rfl) rfl (by decide) (show 1 + (1 + 11) + _ ≤ _ from by decide) (by decide) (by decide) (rest := [(.ref a)]) rfl rfl ?_
  rintro _ h189_6 ⟨rfl, KIa, hia, loa, txa, hsa, lsa, tba, haa, hba, hca, HIa⟩
  have Z0 := Nat.le_trans Z0 KIa.1
  have E_a := E_a.keep KIa
  have A_t0 := A_t0.keep KIa (ninS (show @Ne Nat t0 a from by omega) nin0)
  have A_t1 := A_t1.keep KIa (ninS (show @Ne Nat t1 a from by omega) nin0)
  have A_t2 := A_t2.keep KIa (ninS (show @Ne Nat t2 a from by omega) nin0)
  have A_t3 := A_t3.keep KIa (ninS (show @Ne Nat t3 a from by omega) nin0)
  have O := O.keep KIa (allS g_a all0)
  have hsIa := KIa.1
  have hlta : @LT.lt Nat instLTNat a (Array.size h189_6) := HIa.lts.1
  have hlthia : @LT.lt Nat instLTNat hia (Array.size h189_6) := HIa.lts.2.1
  have hltloa : @LT.lt Nat instLTNat loa (Array.size h189_6) := HIa.lts.2.2.1
  have hlttxa : @LT.lt Nat instLTNat txa (Array.size h189_6) := HIa.lts.2.2.2
  have E_a := HIa.exa
  show N G K room_1 Q h189_6 ((((((0 + 1) + 1) + 1) + 1) + 1) + 3) ((((((0 + 36) + 36) + 36) + 36) + 4) + 2084) 192 #[.val (.long h1), .second, .val (.long l1), .second, .val (.long h2), .second, .val (.long l2), .second, .val (.int sel), .val (.int k), .val (.long bh0), .second, .val (.long bl0), .second, .val (.long bh1), .second, .val (.long bl1), .second, .val (.ref t0), .val (.ref t1), .val (.ref t2), .val (.ref t3), .unset, .unset, .unset, .unset, .unset, .unset] [(.ref a)]
  refine N.astore C (pc' := 194) (ls' := #[.val (.long h1), .second, .val (.long l1), .second, .val (.long h2), .second, .val (.long l2), .second, .val (.int sel), .val (.int k), .val (.long bh0), .second, .val (.long bl0), .second, .val (.long bh1), .second, .val (.long bl1), .second, .val (.ref t0), .val (.ref t1), .val (.ref t2), .val (.ref t3), .val (.ref a), .unset, .unset, .unset, .unset, .unset]) at_192 rfl rfl rfl ?_
  refine N.newO C (pc' := 197) at_194 (C.w (i := 9) rfl) (C.w (i := 10) rfl) (C.w (i := 11) rfl) (by decide) (by decide) rfl (fun h194_7 b hx_b Ex194 E_b D_b => ?_)
  have g_b : G.n0 ≤ b := by rw [hx_b]; exact Z0
  have hxn_b : @Eq Nat b (Array.size h189_6) := hx_b
  have Z0 := Nat.le_trans Z0 Ex194.1
  have A_t0 := A_t0.ext Ex194
  have A_t1 := A_t1.ext Ex194
  have A_t2 := A_t2.ext Ex194
  have A_t3 := A_t3.ext Ex194
  have F_b_high : Fld G.Z h194_7 b "com/example/grantgraph/grantgraph/bench/Ids" "high" "[J" .null := D_b (Or.inl (C.w (i := 20) rfl)) (ty := (.array .long)) (by decide)
  have F_b_low : Fld G.Z h194_7 b "com/example/grantgraph/grantgraph/bench/Ids" "low" "[J" .null := D_b (Or.inl (C.w (i := 22) rfl)) (ty := (.array .long)) (by decide)
  have F_b_text : Fld G.Z h194_7 b "com/example/grantgraph/grantgraph/bench/Ids" "text" "[B" .null := D_b (Or.inr (C.w (i := 25) rfl)) (ty := (.array .byte)) (by decide)
  have F_b_size : Fld G.Z h194_7 b "com/example/grantgraph/grantgraph/bench/Ids" "size" "I" (.int (0 : Int32)) := D_b (Or.inl (C.w (i := 62) rfl)) (ty := .int) (by decide)
  have O := O.ext Ex194
  have HIa := HIa.ext Ex194
  have E_a := HIa.exa
  have hlb : @LT.lt Nat instLTNat b (Array.size h194_7) := E_b.lt
  have hsEb := Ex194.1
  refine N.dup C (pc' := 198) at_197 rfl rfl ?_
  refine N.callI C (pc' := 201) b [] at_198 rfl (C.w (i := 12) rfl) (C.w (i := 13) rfl) (C.w (i := 11) rfl) (C.w (i := 14) rfl) (by decide) (con3 G hw b h194_7 Z0 g_b E_b F_b_high F_b_low F_b_text F_b_size) (lenOf pd___V rfl) rfl (by decide) (show 1 + (1 + 11) + _ ≤ _ from by decide) (by decide) (by decide) (rest := [(.ref b)]) rfl rfl ?_
  rintro _ h198_8 ⟨rfl, KIb, hib, lob, txb, hsb, lsb, tbb, hab, hbb, hcb, HIb⟩
  have Z0 := Nat.le_trans Z0 KIb.1
  have E_b := E_b.keep KIb
  have A_t0 := A_t0.keep KIb (ninS (show @Ne Nat t0 b from by omega) nin0)
  have A_t1 := A_t1.keep KIb (ninS (show @Ne Nat t1 b from by omega) nin0)
  have A_t2 := A_t2.keep KIb (ninS (show @Ne Nat t2 b from by omega) nin0)
  have A_t3 := A_t3.keep KIb (ninS (show @Ne Nat t3 b from by omega) nin0)
  have O := O.keep KIb (allS g_b all0)
  have hsIb := KIb.1
  have hltb : @LT.lt Nat instLTNat b (Array.size h198_8) := HIb.lts.1
  have hlthib : @LT.lt Nat instLTNat hib (Array.size h198_8) := HIb.lts.2.1
  have hltlob : @LT.lt Nat instLTNat lob (Array.size h198_8) := HIb.lts.2.2.1
  have hlttxb : @LT.lt Nat instLTNat txb (Array.size h198_8) := HIb.lts.2.2.2
  have HIa := HIa.keep KIb (ninS (show @Ne Nat a b from by omega) nin0) (ninS (show @Ne Nat hia b from by omega) nin0) (ninS (show @Ne Nat loa b from by omega) nin0) (ninS (show @Ne Nat txa b from by omega) nin0)
  have E_a := HIa.exa
  have E_b := HIb.exa
  show N G K room_1 Q h198_8 ((((((((0 + 1) + 1) + 1) + 1) + 1) + 3) + 1) + 3) ((((((((0 + 36) + 36) + 36) + 36) + 4) + 2084) + 4) + 2084) 201 #[.val (.long h1), .second, .val (.long l1), .second, .val (.long h2), .second, .val (.long l2), .second, .val (.int sel), .val (.int k), .val (.long bh0), .second, .val (.long bl0), .second, .val (.long bh1), .second, .val (.long bl1), .second, .val (.ref t0), .val (.ref t1), .val (.ref t2), .val (.ref t3), .val (.ref a), .unset, .unset, .unset, .unset, .unset] [(.ref b)]
  refine N.astore C (pc' := 203) (ls' := #[.val (.long h1), .second, .val (.long l1), .second, .val (.long h2), .second, .val (.long l2), .second, .val (.int sel), .val (.int k), .val (.long bh0), .second, .val (.long bl0), .second, .val (.long bh1), .second, .val (.long bl1), .second, .val (.ref t0), .val (.ref t1), .val (.ref t2), .val (.ref t3), .val (.ref a), .val (.ref b), .unset, .unset, .unset, .unset]) at_201 rfl rfl rfl ?_
  refine N.aload C (pc' := 205) at_203 rfl rfl rfl ?_
  refine N.aload C (pc' := 207) at_205 rfl rfl rfl ?_
  refine N.iconst C (pc' := 208) (z := 0) at_207 rfl rfl ?_
  refine N.bipush C (pc' := 210) (z := 36) at_208 rfl rfl ?_
  have gq1 : G.n0 ≤ a ∧ G.n0 ≤ hia ∧ G.n0 ≤ loa ∧ G.n0 ≤ txa := by obtain ⟨-, -, -, -, -, -, b1, b2, b3, b4, -⟩ := HIa; exact ⟨b1, b2, b3, b4⟩
  refine N.callV C (pc' := 213) a [(.ref t0), (.int (0 : Int32)), (.int (36 : Int32))] at_210 (C.w (i := 26) rfl) (C.w (i := 27) rfl) (C.w (i := 29) rfl) (C.w (i := 28) rfl) (C.w (i := 11) rfl) (C.w (i := 30) rfl) (by decide) E_a (con5 G hw a hia loa txa t0 w h1 l1 (0 : Int32) 0 hsa lsa tba cs0 wl h198_8 (by decide) (by decide) hT0 (show @Ne Nat t0 a from by omega) (show @Ne Nat t0 hia from by omega) (show @Ne Nat t0 loa from by omega) (show @Ne Nat t0 txa from by omega) A_t0 Z0 HIa O HX) (lenOf pd___CII_V rfl) rfl (by decide) (show 0 + (6 + 11) + _ ≤ _ from by decide) (by decide) (by decide) (rest := []) rfl rfl ?_
  rintro _ h210_9 ⟨rfl, KA1, HIa⟩
  have Z0 := Nat.le_trans Z0 KA1.1
  have A_t0 := A_t0.keep KA1 (ninS (show @Ne Nat t0 a from by omega) (ninS (show @Ne Nat t0 hia from by omega) (ninS (show @Ne Nat t0 loa from by omega) (ninS (show @Ne Nat t0 txa from by omega) nin0))))
  have A_t1 := A_t1.keep KA1 (ninS (show @Ne Nat t1 a from by omega) (ninS (show @Ne Nat t1 hia from by omega) (ninS (show @Ne Nat t1 loa from by omega) (ninS (show @Ne Nat t1 txa from by omega) nin0))))
  have A_t2 := A_t2.keep KA1 (ninS (show @Ne Nat t2 a from by omega) (ninS (show @Ne Nat t2 hia from by omega) (ninS (show @Ne Nat t2 loa from by omega) (ninS (show @Ne Nat t2 txa from by omega) nin0))))
  have A_t3 := A_t3.keep KA1 (ninS (show @Ne Nat t3 a from by omega) (ninS (show @Ne Nat t3 hia from by omega) (ninS (show @Ne Nat t3 loa from by omega) (ninS (show @Ne Nat t3 txa from by omega) nin0))))
  have O := O.keep KA1 (allS gq1.1 (allS gq1.2.1 (allS gq1.2.2.1 (allS gq1.2.2.2 all0))))
  have HIb := HIb.keep KA1 (ninS (show @Ne Nat b a from by omega) (ninS (show @Ne Nat b hia from by omega) (ninS (show @Ne Nat b loa from by omega) (ninS (show @Ne Nat b txa from by omega) nin0)))) (ninS (show @Ne Nat hib a from by omega) (ninS (show @Ne Nat hib hia from by omega) (ninS (show @Ne Nat hib loa from by omega) (ninS (show @Ne Nat hib txa from by omega) nin0)))) (ninS (show @Ne Nat lob a from by omega) (ninS (show @Ne Nat lob hia from by omega) (ninS (show @Ne Nat lob loa from by omega) (ninS (show @Ne Nat lob txa from by omega) nin0)))) (ninS (show @Ne Nat txb a from by omega) (ninS (show @Ne Nat txb hia from by omega) (ninS (show @Ne Nat txb loa from by omega) (ninS (show @Ne Nat txb txa from by omega) nin0))))
  have E_a := HIa.exa
  have E_b := HIb.exa
  show N G K room_1 Q h210_9 (((((((((0 + 1) + 1) + 1) + 1) + 1) + 3) + 1) + 3) + 1) (((((((((0 + 36) + 36) + 36) + 36) + 4) + 2084) + 4) + 2084) + 2) 213 #[.val (.long h1), .second, .val (.long l1), .second, .val (.long h2), .second, .val (.long l2), .second, .val (.int sel), .val (.int k), .val (.long bh0), .second, .val (.long bl0), .second, .val (.long bh1), .second, .val (.long bl1), .second, .val (.ref t0), .val (.ref t1), .val (.ref t2), .val (.ref t3), .val (.ref a), .val (.ref b), .unset, .unset, .unset, .unset] []
  refine N.aload C (pc' := 215) at_213 rfl rfl rfl ?_
  refine N.aload C (pc' := 217) at_215 rfl rfl rfl ?_
  refine N.iconst C (pc' := 218) (z := 0) at_217 rfl rfl ?_
  refine N.bipush C (pc' := 220) (z := 36) at_218 rfl rfl ?_
  have gq2 : G.n0 ≤ a ∧ G.n0 ≤ hia ∧ G.n0 ≤ loa ∧ G.n0 ≤ txa := by obtain ⟨-, -, -, -, -, -, b1, b2, b3, b4, -⟩ := HIa; exact ⟨b1, b2, b3, b4⟩
  refine N.callV C (pc' := 223) a [(.ref t1), (.int (0 : Int32)), (.int (36 : Int32))] at_220 (C.w (i := 26) rfl) (C.w (i := 27) rfl) (C.w (i := 29) rfl) (C.w (i := 28) rfl) (C.w (i := 11) rfl) (C.w (i := 30) rfl) (by decide) E_a (con5 G hw a hia loa txa t1 w h2 l2 (0 + (1 : Int32)) 1 (hsa.set 0 (.long h1)) (lsa.set 0 (.long l1)) cs0 cs1 wl h210_9 (by decide) (by decide) hT1 (show @Ne Nat t1 a from by omega) (show @Ne Nat t1 hia from by omega) (show @Ne Nat t1 loa from by omega) (show @Ne Nat t1 txa from by omega) A_t1 Z0 HIa O HX) (lenOf pd___CII_V rfl) rfl (by decide) (show 0 + (6 + 11) + _ ≤ _ from by decide) (by decide) (by decide) (rest := []) rfl rfl ?_
  rintro _ h220_10 ⟨rfl, KA2, HIa⟩
  have Z0 := Nat.le_trans Z0 KA2.1
  have A_t0 := A_t0.keep KA2 (ninS (show @Ne Nat t0 a from by omega) (ninS (show @Ne Nat t0 hia from by omega) (ninS (show @Ne Nat t0 loa from by omega) (ninS (show @Ne Nat t0 txa from by omega) nin0))))
  have A_t1 := A_t1.keep KA2 (ninS (show @Ne Nat t1 a from by omega) (ninS (show @Ne Nat t1 hia from by omega) (ninS (show @Ne Nat t1 loa from by omega) (ninS (show @Ne Nat t1 txa from by omega) nin0))))
  have A_t2 := A_t2.keep KA2 (ninS (show @Ne Nat t2 a from by omega) (ninS (show @Ne Nat t2 hia from by omega) (ninS (show @Ne Nat t2 loa from by omega) (ninS (show @Ne Nat t2 txa from by omega) nin0))))
  have A_t3 := A_t3.keep KA2 (ninS (show @Ne Nat t3 a from by omega) (ninS (show @Ne Nat t3 hia from by omega) (ninS (show @Ne Nat t3 loa from by omega) (ninS (show @Ne Nat t3 txa from by omega) nin0))))
  have O := O.keep KA2 (allS gq2.1 (allS gq2.2.1 (allS gq2.2.2.1 (allS gq2.2.2.2 all0))))
  have HIb := HIb.keep KA2 (ninS (show @Ne Nat b a from by omega) (ninS (show @Ne Nat b hia from by omega) (ninS (show @Ne Nat b loa from by omega) (ninS (show @Ne Nat b txa from by omega) nin0)))) (ninS (show @Ne Nat hib a from by omega) (ninS (show @Ne Nat hib hia from by omega) (ninS (show @Ne Nat hib loa from by omega) (ninS (show @Ne Nat hib txa from by omega) nin0)))) (ninS (show @Ne Nat lob a from by omega) (ninS (show @Ne Nat lob hia from by omega) (ninS (show @Ne Nat lob loa from by omega) (ninS (show @Ne Nat lob txa from by omega) nin0)))) (ninS (show @Ne Nat txb a from by omega) (ninS (show @Ne Nat txb hia from by omega) (ninS (show @Ne Nat txb loa from by omega) (ninS (show @Ne Nat txb txa from by omega) nin0))))
  have E_a := HIa.exa
  have E_b := HIb.exa
  show N G K room_1 Q h220_10 ((((((((((0 + 1) + 1) + 1) + 1) + 1) + 3) + 1) + 3) + 1) + 1) ((((((((((0 + 36) + 36) + 36) + 36) + 4) + 2084) + 4) + 2084) + 2) + 2) 223 #[.val (.long h1), .second, .val (.long l1), .second, .val (.long h2), .second, .val (.long l2), .second, .val (.int sel), .val (.int k), .val (.long bh0), .second, .val (.long bl0), .second, .val (.long bh1), .second, .val (.long bl1), .second, .val (.ref t0), .val (.ref t1), .val (.ref t2), .val (.ref t3), .val (.ref a), .val (.ref b), .unset, .unset, .unset, .unset] []
  refine N.aload C (pc' := 225) at_223 rfl rfl rfl ?_
  refine N.aload C (pc' := 227) at_225 rfl rfl rfl ?_
  refine N.iconst C (pc' := 228) (z := 0) at_227 rfl rfl ?_
  refine N.bipush C (pc' := 230) (z := 36) at_228 rfl rfl ?_
  have gq3 : G.n0 ≤ b ∧ G.n0 ≤ hib ∧ G.n0 ≤ lob ∧ G.n0 ≤ txb := by obtain ⟨-, -, -, -, -, -, b1, b2, b3, b4, -⟩ := HIb; exact ⟨b1, b2, b3, b4⟩
  refine N.callV C (pc' := 233) b [(.ref t2), (.int (0 : Int32)), (.int (36 : Int32))] at_230 (C.w (i := 26) rfl) (C.w (i := 27) rfl) (C.w (i := 29) rfl) (C.w (i := 28) rfl) (C.w (i := 11) rfl) (C.w (i := 30) rfl) (by decide) E_b (con5 G hw b hib lob txb t2 w bh0 bl0 (0 : Int32) 0 hsb lsb tbb cs2 wl h220_10 (by decide) (by decide) hT2 (show @Ne Nat t2 b from by omega) (show @Ne Nat t2 hib from by omega) (show @Ne Nat t2 lob from by omega) (show @Ne Nat t2 txb from by omega) A_t2 Z0 HIb O HX) (lenOf pd___CII_V rfl) rfl (by decide) (show 0 + (6 + 11) + _ ≤ _ from by decide) (by decide) (by decide) (rest := []) rfl rfl ?_
  rintro _ h230_11 ⟨rfl, KA3, HIb⟩
  have Z0 := Nat.le_trans Z0 KA3.1
  have A_t0 := A_t0.keep KA3 (ninS (show @Ne Nat t0 b from by omega) (ninS (show @Ne Nat t0 hib from by omega) (ninS (show @Ne Nat t0 lob from by omega) (ninS (show @Ne Nat t0 txb from by omega) nin0))))
  have A_t1 := A_t1.keep KA3 (ninS (show @Ne Nat t1 b from by omega) (ninS (show @Ne Nat t1 hib from by omega) (ninS (show @Ne Nat t1 lob from by omega) (ninS (show @Ne Nat t1 txb from by omega) nin0))))
  have A_t2 := A_t2.keep KA3 (ninS (show @Ne Nat t2 b from by omega) (ninS (show @Ne Nat t2 hib from by omega) (ninS (show @Ne Nat t2 lob from by omega) (ninS (show @Ne Nat t2 txb from by omega) nin0))))
  have A_t3 := A_t3.keep KA3 (ninS (show @Ne Nat t3 b from by omega) (ninS (show @Ne Nat t3 hib from by omega) (ninS (show @Ne Nat t3 lob from by omega) (ninS (show @Ne Nat t3 txb from by omega) nin0))))
  have O := O.keep KA3 (allS gq3.1 (allS gq3.2.1 (allS gq3.2.2.1 (allS gq3.2.2.2 all0))))
  have HIa := HIa.keep KA3 (ninS (show @Ne Nat a b from by omega) (ninS (show @Ne Nat a hib from by omega) (ninS (show @Ne Nat a lob from by omega) (ninS (show @Ne Nat a txb from by omega) nin0)))) (ninS (show @Ne Nat hia b from by omega) (ninS (show @Ne Nat hia hib from by omega) (ninS (show @Ne Nat hia lob from by omega) (ninS (show @Ne Nat hia txb from by omega) nin0)))) (ninS (show @Ne Nat loa b from by omega) (ninS (show @Ne Nat loa hib from by omega) (ninS (show @Ne Nat loa lob from by omega) (ninS (show @Ne Nat loa txb from by omega) nin0)))) (ninS (show @Ne Nat txa b from by omega) (ninS (show @Ne Nat txa hib from by omega) (ninS (show @Ne Nat txa lob from by omega) (ninS (show @Ne Nat txa txb from by omega) nin0))))
  have E_a := HIa.exa
  have E_b := HIb.exa
  show N G K room_1 Q h230_11 (((((((((((0 + 1) + 1) + 1) + 1) + 1) + 3) + 1) + 3) + 1) + 1) + 1) (((((((((((0 + 36) + 36) + 36) + 36) + 4) + 2084) + 4) + 2084) + 2) + 2) + 2) 233 #[.val (.long h1), .second, .val (.long l1), .second, .val (.long h2), .second, .val (.long l2), .second, .val (.int sel), .val (.int k), .val (.long bh0), .second, .val (.long bl0), .second, .val (.long bh1), .second, .val (.long bl1), .second, .val (.ref t0), .val (.ref t1), .val (.ref t2), .val (.ref t3), .val (.ref a), .val (.ref b), .unset, .unset, .unset, .unset] []
  refine N.aload C (pc' := 235) at_233 rfl rfl rfl ?_
  refine N.aload C (pc' := 237) at_235 rfl rfl rfl ?_
  refine N.iconst C (pc' := 238) (z := 0) at_237 rfl rfl ?_
  refine N.bipush C (pc' := 240) (z := 36) at_238 rfl rfl ?_
  have gq4 : G.n0 ≤ b ∧ G.n0 ≤ hib ∧ G.n0 ≤ lob ∧ G.n0 ≤ txb := by obtain ⟨-, -, -, -, -, -, b1, b2, b3, b4, -⟩ := HIb; exact ⟨b1, b2, b3, b4⟩
  refine N.callV C (pc' := 243) b [(.ref t3), (.int (0 : Int32)), (.int (36 : Int32))] at_240 (C.w (i := 26) rfl) (C.w (i := 27) rfl) (C.w (i := 29) rfl) (C.w (i := 28) rfl) (C.w (i := 11) rfl) (C.w (i := 30) rfl) (by decide) E_b (con5 G hw b hib lob txb t3 w bh1 bl1 (0 + (1 : Int32)) 1 (hsb.set 0 (.long bh0)) (lsb.set 0 (.long bl0)) cs2 cs3 wl h230_11 (by decide) (by decide) hT3 (show @Ne Nat t3 b from by omega) (show @Ne Nat t3 hib from by omega) (show @Ne Nat t3 lob from by omega) (show @Ne Nat t3 txb from by omega) A_t3 Z0 HIb O HX) (lenOf pd___CII_V rfl) rfl (by decide) (show 0 + (6 + 11) + _ ≤ _ from by decide) (by decide) (by decide) (rest := []) rfl rfl ?_
  rintro _ h240_12 ⟨rfl, KA4, HIb⟩
  have Z0 := Nat.le_trans Z0 KA4.1
  have A_t0 := A_t0.keep KA4 (ninS (show @Ne Nat t0 b from by omega) (ninS (show @Ne Nat t0 hib from by omega) (ninS (show @Ne Nat t0 lob from by omega) (ninS (show @Ne Nat t0 txb from by omega) nin0))))
  have A_t1 := A_t1.keep KA4 (ninS (show @Ne Nat t1 b from by omega) (ninS (show @Ne Nat t1 hib from by omega) (ninS (show @Ne Nat t1 lob from by omega) (ninS (show @Ne Nat t1 txb from by omega) nin0))))
  have A_t2 := A_t2.keep KA4 (ninS (show @Ne Nat t2 b from by omega) (ninS (show @Ne Nat t2 hib from by omega) (ninS (show @Ne Nat t2 lob from by omega) (ninS (show @Ne Nat t2 txb from by omega) nin0))))
  have A_t3 := A_t3.keep KA4 (ninS (show @Ne Nat t3 b from by omega) (ninS (show @Ne Nat t3 hib from by omega) (ninS (show @Ne Nat t3 lob from by omega) (ninS (show @Ne Nat t3 txb from by omega) nin0))))
  have O := O.keep KA4 (allS gq4.1 (allS gq4.2.1 (allS gq4.2.2.1 (allS gq4.2.2.2 all0))))
  have HIa := HIa.keep KA4 (ninS (show @Ne Nat a b from by omega) (ninS (show @Ne Nat a hib from by omega) (ninS (show @Ne Nat a lob from by omega) (ninS (show @Ne Nat a txb from by omega) nin0)))) (ninS (show @Ne Nat hia b from by omega) (ninS (show @Ne Nat hia hib from by omega) (ninS (show @Ne Nat hia lob from by omega) (ninS (show @Ne Nat hia txb from by omega) nin0)))) (ninS (show @Ne Nat loa b from by omega) (ninS (show @Ne Nat loa hib from by omega) (ninS (show @Ne Nat loa lob from by omega) (ninS (show @Ne Nat loa txb from by omega) nin0)))) (ninS (show @Ne Nat txa b from by omega) (ninS (show @Ne Nat txa hib from by omega) (ninS (show @Ne Nat txa lob from by omega) (ninS (show @Ne Nat txa txb from by omega) nin0))))
  have E_a := HIa.exa
  have E_b := HIb.exa
  show N G K room_1 Q h240_12 ((((((((((((0 + 1) + 1) + 1) + 1) + 1) + 3) + 1) + 3) + 1) + 1) + 1) + 1) ((((((((((((0 + 36) + 36) + 36) + 36) + 4) + 2084) + 4) + 2084) + 2) + 2) + 2) + 2) 243 #[.val (.long h1), .second, .val (.long l1), .second, .val (.long h2), .second, .val (.long l2), .second, .val (.int sel), .val (.int k), .val (.long bh0), .second, .val (.long bl0), .second, .val (.long bh1), .second, .val (.long bl1), .second, .val (.ref t0), .val (.ref t1), .val (.ref t2), .val (.ref t3), .val (.ref a), .val (.ref b), .unset, .unset, .unset, .unset] []
  refine N.aload C (pc' := 245) at_243 rfl rfl rfl ?_
  refine N.iconst C (pc' := 246) (z := 0) at_245 rfl rfl ?_
  refine N.aload C (pc' := 248) at_246 rfl rfl rfl ?_
  obtain ⟨-, -, -, -, -, -, -, -, -, -, -, fa1, fa2, -, -, Aa1, la1, Aa2, la2, -, -⟩ := id HIa
  obtain ⟨-, -, -, -, -, -, -, -, -, -, -, fb1, fb2, -, -, Ab1, lb1, Ab2, lb2, -, -⟩ := id HIb
  simp only [List.length_set] at la1 la2 lb1 lb2
  refine N.callV C (pc' := 251) a [(.int (0 : Int32)), (.ref b)] at_248 (C.w (i := 73) rfl) (C.w (i := 74) rfl) (C.w (i := 76) rfl) (C.w (i := 75) rfl) (C.w (i := 11) rfl) (C.w (i := 77) rfl) (by decide) E_a (con14 G hw a b hia loa hib lob (0 : Int32) 0 h1 bh0 l1 bl0 _ _ _ _ h240_12 (by decide) fa1 fa2 fb1 fb2 Aa1 Ab1 Aa2 Ab2 (by rw [List.getElem?_set_ne (by decide), List.getElem?_set_self (by simp [la1])]) (by rw [List.getElem?_set_ne (by decide), List.getElem?_set_self (by simp [lb1])]) (by rw [List.getElem?_set_ne (by decide), List.getElem?_set_self (by simp [la2])]) (by rw [List.getElem?_set_ne (by decide), List.getElem?_set_self (by simp [lb2])])) (lenOf pd__ILcom_example_grantgraph_grantgraph_bench_Ids__Z rfl) rfl (by decide) (show 0 + (3 + 11) + _ ≤ _ from by decide) (by decide) (by decide) (rest := []) rfl rfl ?_
  rintro _ h248_13 ⟨s0, rfl, rfl, hs0⟩
  show N G K room_1 Q h240_12 ((((((((((((0 + 1) + 1) + 1) + 1) + 1) + 3) + 1) + 3) + 1) + 1) + 1) + 1) ((((((((((((0 + 36) + 36) + 36) + 36) + 4) + 2084) + 4) + 2084) + 2) + 2) + 2) + 2) 251 #[.val (.long h1), .second, .val (.long l1), .second, .val (.long h2), .second, .val (.long l2), .second, .val (.int sel), .val (.int k), .val (.long bh0), .second, .val (.long bl0), .second, .val (.long bh1), .second, .val (.long bl1), .second, .val (.ref t0), .val (.ref t1), .val (.ref t2), .val (.ref t3), .val (.ref a), .val (.ref b), .unset, .unset, .unset, .unset] [(.int s0)]
  refine N.istore C (pc' := 253) (ls' := #[.val (.long h1), .second, .val (.long l1), .second, .val (.long h2), .second, .val (.long l2), .second, .val (.int sel), .val (.int k), .val (.long bh0), .second, .val (.long bl0), .second, .val (.long bh1), .second, .val (.long bl1), .second, .val (.ref t0), .val (.ref t1), .val (.ref t2), .val (.ref t3), .val (.ref a), .val (.ref b), .val (.int s0), .unset, .unset, .unset]) at_251 rfl rfl ?_
  refine N.aload C (pc' := 255) at_253 rfl rfl rfl ?_
  refine N.iconst C (pc' := 256) (z := 1) at_255 rfl rfl ?_
  refine N.aload C (pc' := 258) at_256 rfl rfl rfl ?_
  obtain ⟨-, -, -, -, -, -, -, -, -, -, -, fa1, fa2, -, -, Aa1, la1, Aa2, la2, -, -⟩ := id HIa
  obtain ⟨-, -, -, -, -, -, -, -, -, -, -, fb1, fb2, -, -, Ab1, lb1, Ab2, lb2, -, -⟩ := id HIb
  simp only [List.length_set] at la1 la2 lb1 lb2
  refine N.callV C (pc' := 261) a [(.int (1 : Int32)), (.ref b)] at_258 (C.w (i := 73) rfl) (C.w (i := 74) rfl) (C.w (i := 76) rfl) (C.w (i := 75) rfl) (C.w (i := 11) rfl) (C.w (i := 77) rfl) (by decide) E_a (con14 G hw a b hia loa hib lob (1 : Int32) 1 h2 bh1 l2 bl1 _ _ _ _ h240_12 (by decide) fa1 fa2 fb1 fb2 Aa1 Ab1 Aa2 Ab2 (by rw [List.getElem?_set_self (by simp [la1])]) (by rw [List.getElem?_set_self (by simp [lb1])]) (by rw [List.getElem?_set_self (by simp [la2])]) (by rw [List.getElem?_set_self (by simp [lb2])])) (lenOf pd__ILcom_example_grantgraph_grantgraph_bench_Ids__Z rfl) rfl (by decide) (show 0 + (3 + 11) + _ ≤ _ from by decide) (by decide) (by decide) (rest := []) rfl rfl ?_
  rintro _ h258_14 ⟨s1, rfl, rfl, hs1⟩
  show N G K room_1 Q h240_12 ((((((((((((0 + 1) + 1) + 1) + 1) + 1) + 3) + 1) + 3) + 1) + 1) + 1) + 1) ((((((((((((0 + 36) + 36) + 36) + 36) + 4) + 2084) + 4) + 2084) + 2) + 2) + 2) + 2) 261 #[.val (.long h1), .second, .val (.long l1), .second, .val (.long h2), .second, .val (.long l2), .second, .val (.int sel), .val (.int k), .val (.long bh0), .second, .val (.long bl0), .second, .val (.long bh1), .second, .val (.long bl1), .second, .val (.ref t0), .val (.ref t1), .val (.ref t2), .val (.ref t3), .val (.ref a), .val (.ref b), .val (.int s0), .unset, .unset, .unset] [(.int s1)]
  refine N.istore C (pc' := 263) (ls' := #[.val (.long h1), .second, .val (.long l1), .second, .val (.long h2), .second, .val (.long l2), .second, .val (.int sel), .val (.int k), .val (.long bh0), .second, .val (.long bl0), .second, .val (.long bh1), .second, .val (.long bl1), .second, .val (.ref t0), .val (.ref t1), .val (.ref t2), .val (.ref t3), .val (.ref a), .val (.ref b), .val (.int s0), .val (.int s1), .unset, .unset]) at_261 rfl rfl ?_
  refine N.lloadN C (pc' := 264) at_263 rfl rfl ?_
  refine N.lload C (pc' := 266) at_264 rfl rfl ?_
  refine N.lcmp C (pc' := 267) at_266 rfl ?_
  refine N.lif C (pt := 281) (pf := 270) at_267 rfl rfl (fun (hc267 : ¬ h1 = bh0) => ?_) (fun (hc267 : h1 = bh0) => ?_)
  · have hi267 : ¬ h1.toInt = bh0.toInt := neL hc267
    refine N.iconst C (pc' := 282) (z := 0) at_281 rfl rfl ?_
    refine N.istore C (pc' := 284) (ls' := #[.val (.long h1), .second, .val (.long l1), .second, .val (.long h2), .second, .val (.long l2), .second, .val (.int sel), .val (.int k), .val (.long bh0), .second, .val (.long bl0), .second, .val (.long bh1), .second, .val (.long bl1), .second, .val (.ref t0), .val (.ref t1), .val (.ref t2), .val (.ref t3), .val (.ref a), .val (.ref b), .val (.int s0), .val (.int s1), .val (.int (0 : Int32)), .unset]) at_282 rfl rfl ?_
    refine N.lload C (pc' := 286) at_284 rfl rfl ?_
    refine N.lload C (pc' := 288) at_286 rfl rfl ?_
    refine N.lcmp C (pc' := 289) at_288 rfl ?_
    refine N.lif C (pt := 304) (pf := 292) at_289 rfl rfl (fun (hc289 : ¬ h2 = bh1) => ?_) (fun (hc289 : h2 = bh1) => ?_)
    · have hi289 : ¬ h2.toInt = bh1.toInt := neL hc289
      refine N.iconst C (pc' := 305) (z := 0) at_304 rfl rfl ?_
      refine N.istore C (pc' := 307) (ls' := #[.val (.long h1), .second, .val (.long l1), .second, .val (.long h2), .second, .val (.long l2), .second, .val (.int sel), .val (.int k), .val (.long bh0), .second, .val (.long bl0), .second, .val (.long bh1), .second, .val (.long bl1), .second, .val (.ref t0), .val (.ref t1), .val (.ref t2), .val (.ref t3), .val (.ref a), .val (.ref b), .val (.int s0), .val (.int s1), .val (.int (0 : Int32)), .val (.int (0 : Int32))]) at_305 rfl rfl ?_
      refine N.iload C (pc' := 309) at_307 rfl rfl ?_
      refine N.iload C (pc' := 311) at_309 rfl rfl ?_
      refine N.icmp C (pt := 325) (pf := 314) at_311 rfl rfl (fun (hc311 : ¬ s0 = (0 : Int32)) => absurd (show False from by exact hc311 (own_w0 hs0 (fun q => hc267 q.1))) id) (fun (hc311 : s0 = (0 : Int32)) => ?_)
      refine N.iload C (pc' := 316) at_314 rfl rfl ?_
      refine N.iload C (pc' := 318) at_316 rfl rfl ?_
      refine N.icmp C (pt := 325) (pf := 321) at_318 rfl rfl (fun (hc318 : ¬ s1 = (0 : Int32)) => absurd (show False from by exact hc318 (own_w0 hs1 (fun q => hc289 q.1))) id) (fun (hc318 : s1 = (0 : Int32)) => ?_)
      refine N.iconst C (pc' := 322) (z := 1) at_321 rfl rfl ?_
      refine N.goto C (pc' := 326) at_322 rfl ?_
      exact N.retN C (by simp) (z' := (1 : Int32)) rfl at_326 (by decide) (by decide) (by subst hQ; exact rfl)
    · have hi289 : h2.toInt = bh1.toInt := eqL hc289
      refine N.lload C (pc' := 294) at_292 rfl rfl ?_
      refine N.lload C (pc' := 296) at_294 rfl rfl ?_
      refine N.lcmp C (pc' := 297) at_296 rfl ?_
      refine N.lif C (pt := 304) (pf := 300) at_297 rfl rfl (fun (hc297 : ¬ l2 = bl1) => ?_) (fun (hc297 : l2 = bl1) => ?_)
      · have hi297 : ¬ l2.toInt = bl1.toInt := neL hc297
        refine N.iconst C (pc' := 305) (z := 0) at_304 rfl rfl ?_
        refine N.istore C (pc' := 307) (ls' := #[.val (.long h1), .second, .val (.long l1), .second, .val (.long h2), .second, .val (.long l2), .second, .val (.int sel), .val (.int k), .val (.long bh0), .second, .val (.long bl0), .second, .val (.long bh1), .second, .val (.long bl1), .second, .val (.ref t0), .val (.ref t1), .val (.ref t2), .val (.ref t3), .val (.ref a), .val (.ref b), .val (.int s0), .val (.int s1), .val (.int (0 : Int32)), .val (.int (0 : Int32))]) at_305 rfl rfl ?_
        refine N.iload C (pc' := 309) at_307 rfl rfl ?_
        refine N.iload C (pc' := 311) at_309 rfl rfl ?_
        refine N.icmp C (pt := 325) (pf := 314) at_311 rfl rfl (fun (hc311 : ¬ s0 = (0 : Int32)) => absurd (show False from by exact hc311 (own_w0 hs0 (fun q => hc267 q.1))) id) (fun (hc311 : s0 = (0 : Int32)) => ?_)
        refine N.iload C (pc' := 316) at_314 rfl rfl ?_
        refine N.iload C (pc' := 318) at_316 rfl rfl ?_
        refine N.icmp C (pt := 325) (pf := 321) at_318 rfl rfl (fun (hc318 : ¬ s1 = (0 : Int32)) => absurd (show False from by exact hc318 (own_w0 hs1 (fun q => hc297 q.2))) id) (fun (hc318 : s1 = (0 : Int32)) => ?_)
        refine N.iconst C (pc' := 322) (z := 1) at_321 rfl rfl ?_
        refine N.goto C (pc' := 326) at_322 rfl ?_
        exact N.retN C (by simp) (z' := (1 : Int32)) rfl at_326 (by decide) (by decide) (by subst hQ; exact rfl)
      · have hi297 : l2.toInt = bl1.toInt := eqL hc297
        refine N.iconst C (pc' := 301) (z := 1) at_300 rfl rfl ?_
        refine N.goto C (pc' := 305) at_301 rfl ?_
        refine N.istore C (pc' := 307) (ls' := #[.val (.long h1), .second, .val (.long l1), .second, .val (.long h2), .second, .val (.long l2), .second, .val (.int sel), .val (.int k), .val (.long bh0), .second, .val (.long bl0), .second, .val (.long bh1), .second, .val (.long bl1), .second, .val (.ref t0), .val (.ref t1), .val (.ref t2), .val (.ref t3), .val (.ref a), .val (.ref b), .val (.int s0), .val (.int s1), .val (.int (0 : Int32)), .val (.int (1 : Int32))]) at_305 rfl rfl ?_
        refine N.iload C (pc' := 309) at_307 rfl rfl ?_
        refine N.iload C (pc' := 311) at_309 rfl rfl ?_
        refine N.icmp C (pt := 325) (pf := 314) at_311 rfl rfl (fun (hc311 : ¬ s0 = (0 : Int32)) => absurd (show False from by exact hc311 (own_w0 hs0 (fun q => hc267 q.1))) id) (fun (hc311 : s0 = (0 : Int32)) => ?_)
        refine N.iload C (pc' := 316) at_314 rfl rfl ?_
        refine N.iload C (pc' := 318) at_316 rfl rfl ?_
        refine N.icmp C (pt := 325) (pf := 321) at_318 rfl rfl (fun (hc318 : ¬ s1 = (1 : Int32)) => absurd (show False from by exact hc318 (own_w1 hs1 ⟨hc289, hc297⟩)) id) (fun (hc318 : s1 = (1 : Int32)) => ?_)
        refine N.iconst C (pc' := 322) (z := 1) at_321 rfl rfl ?_
        refine N.goto C (pc' := 326) at_322 rfl ?_
        exact N.retN C (by simp) (z' := (1 : Int32)) rfl at_326 (by decide) (by decide) (by subst hQ; exact rfl)
  · have hi267 : h1.toInt = bh0.toInt := eqL hc267
    refine N.lloadN C (pc' := 271) at_270 rfl rfl ?_
    refine N.lload C (pc' := 273) at_271 rfl rfl ?_
    refine N.lcmp C (pc' := 274) at_273 rfl ?_
    refine N.lif C (pt := 281) (pf := 277) at_274 rfl rfl (fun (hc274 : ¬ l1 = bl0) => ?_) (fun (hc274 : l1 = bl0) => ?_)
    · have hi274 : ¬ l1.toInt = bl0.toInt := neL hc274
      refine N.iconst C (pc' := 282) (z := 0) at_281 rfl rfl ?_
      refine N.istore C (pc' := 284) (ls' := #[.val (.long h1), .second, .val (.long l1), .second, .val (.long h2), .second, .val (.long l2), .second, .val (.int sel), .val (.int k), .val (.long bh0), .second, .val (.long bl0), .second, .val (.long bh1), .second, .val (.long bl1), .second, .val (.ref t0), .val (.ref t1), .val (.ref t2), .val (.ref t3), .val (.ref a), .val (.ref b), .val (.int s0), .val (.int s1), .val (.int (0 : Int32)), .unset]) at_282 rfl rfl ?_
      refine N.lload C (pc' := 286) at_284 rfl rfl ?_
      refine N.lload C (pc' := 288) at_286 rfl rfl ?_
      refine N.lcmp C (pc' := 289) at_288 rfl ?_
      refine N.lif C (pt := 304) (pf := 292) at_289 rfl rfl (fun (hc289 : ¬ h2 = bh1) => ?_) (fun (hc289 : h2 = bh1) => ?_)
      · have hi289 : ¬ h2.toInt = bh1.toInt := neL hc289
        refine N.iconst C (pc' := 305) (z := 0) at_304 rfl rfl ?_
        refine N.istore C (pc' := 307) (ls' := #[.val (.long h1), .second, .val (.long l1), .second, .val (.long h2), .second, .val (.long l2), .second, .val (.int sel), .val (.int k), .val (.long bh0), .second, .val (.long bl0), .second, .val (.long bh1), .second, .val (.long bl1), .second, .val (.ref t0), .val (.ref t1), .val (.ref t2), .val (.ref t3), .val (.ref a), .val (.ref b), .val (.int s0), .val (.int s1), .val (.int (0 : Int32)), .val (.int (0 : Int32))]) at_305 rfl rfl ?_
        refine N.iload C (pc' := 309) at_307 rfl rfl ?_
        refine N.iload C (pc' := 311) at_309 rfl rfl ?_
        refine N.icmp C (pt := 325) (pf := 314) at_311 rfl rfl (fun (hc311 : ¬ s0 = (0 : Int32)) => absurd (show False from by exact hc311 (own_w0 hs0 (fun q => hc274 q.2))) id) (fun (hc311 : s0 = (0 : Int32)) => ?_)
        refine N.iload C (pc' := 316) at_314 rfl rfl ?_
        refine N.iload C (pc' := 318) at_316 rfl rfl ?_
        refine N.icmp C (pt := 325) (pf := 321) at_318 rfl rfl (fun (hc318 : ¬ s1 = (0 : Int32)) => absurd (show False from by exact hc318 (own_w0 hs1 (fun q => hc289 q.1))) id) (fun (hc318 : s1 = (0 : Int32)) => ?_)
        refine N.iconst C (pc' := 322) (z := 1) at_321 rfl rfl ?_
        refine N.goto C (pc' := 326) at_322 rfl ?_
        exact N.retN C (by simp) (z' := (1 : Int32)) rfl at_326 (by decide) (by decide) (by subst hQ; exact rfl)
      · have hi289 : h2.toInt = bh1.toInt := eqL hc289
        refine N.lload C (pc' := 294) at_292 rfl rfl ?_
        refine N.lload C (pc' := 296) at_294 rfl rfl ?_
        refine N.lcmp C (pc' := 297) at_296 rfl ?_
        refine N.lif C (pt := 304) (pf := 300) at_297 rfl rfl (fun (hc297 : ¬ l2 = bl1) => ?_) (fun (hc297 : l2 = bl1) => ?_)
        · have hi297 : ¬ l2.toInt = bl1.toInt := neL hc297
          refine N.iconst C (pc' := 305) (z := 0) at_304 rfl rfl ?_
          refine N.istore C (pc' := 307) (ls' := #[.val (.long h1), .second, .val (.long l1), .second, .val (.long h2), .second, .val (.long l2), .second, .val (.int sel), .val (.int k), .val (.long bh0), .second, .val (.long bl0), .second, .val (.long bh1), .second, .val (.long bl1), .second, .val (.ref t0), .val (.ref t1), .val (.ref t2), .val (.ref t3), .val (.ref a), .val (.ref b), .val (.int s0), .val (.int s1), .val (.int (0 : Int32)), .val (.int (0 : Int32))]) at_305 rfl rfl ?_
          refine N.iload C (pc' := 309) at_307 rfl rfl ?_
          refine N.iload C (pc' := 311) at_309 rfl rfl ?_
          refine N.icmp C (pt := 325) (pf := 314) at_311 rfl rfl (fun (hc311 : ¬ s0 = (0 : Int32)) => absurd (show False from by exact hc311 (own_w0 hs0 (fun q => hc274 q.2))) id) (fun (hc311 : s0 = (0 : Int32)) => ?_)
          refine N.iload C (pc' := 316) at_314 rfl rfl ?_
          refine N.iload C (pc' := 318) at_316 rfl rfl ?_
          refine N.icmp C (pt := 325) (pf := 321) at_318 rfl rfl (fun (hc318 : ¬ s1 = (0 : Int32)) => absurd (show False from by exact hc318 (own_w0 hs1 (fun q => hc297 q.2))) id) (fun (hc318 : s1 = (0 : Int32)) => ?_)
          refine N.iconst C (pc' := 322) (z := 1) at_321 rfl rfl ?_
          refine N.goto C (pc' := 326) at_322 rfl ?_
          exact N.retN C (by simp) (z' := (1 : Int32)) rfl at_326 (by decide) (by decide) (by subst hQ; exact rfl)
        · have hi297 : l2.toInt = bl1.toInt := eqL hc297
          refine N.iconst C (pc' := 301) (z := 1) at_300 rfl rfl ?_
          refine N.goto C (pc' := 305) at_301 rfl ?_
          refine N.istore C (pc' := 307) (ls' := #[.val (.long h1), .second, .val (.long l1), .second, .val (.long h2), .second, .val (.long l2), .second, .val (.int sel), .val (.int k), .val (.long bh0), .second, .val (.long bl0), .second, .val (.long bh1), .second, .val (.long bl1), .second, .val (.ref t0), .val (.ref t1), .val (.ref t2), .val (.ref t3), .val (.ref a), .val (.ref b), .val (.int s0), .val (.int s1), .val (.int (0 : Int32)), .val (.int (1 : Int32))]) at_305 rfl rfl ?_
          refine N.iload C (pc' := 309) at_307 rfl rfl ?_
          refine N.iload C (pc' := 311) at_309 rfl rfl ?_
          refine N.icmp C (pt := 325) (pf := 314) at_311 rfl rfl (fun (hc311 : ¬ s0 = (0 : Int32)) => absurd (show False from by exact hc311 (own_w0 hs0 (fun q => hc274 q.2))) id) (fun (hc311 : s0 = (0 : Int32)) => ?_)
          refine N.iload C (pc' := 316) at_314 rfl rfl ?_
          refine N.iload C (pc' := 318) at_316 rfl rfl ?_
          refine N.icmp C (pt := 325) (pf := 321) at_318 rfl rfl (fun (hc318 : ¬ s1 = (1 : Int32)) => absurd (show False from by exact hc318 (own_w1 hs1 ⟨hc289, hc297⟩)) id) (fun (hc318 : s1 = (1 : Int32)) => ?_)
          refine N.iconst C (pc' := 322) (z := 1) at_321 rfl rfl ?_
          refine N.goto C (pc' := 326) at_322 rfl ?_
          exact N.retN C (by simp) (z' := (1 : Int32)) rfl at_326 (by decide) (by decide) (by subst hQ; exact rfl)
    · have hi274 : l1.toInt = bl0.toInt := eqL hc274
      refine N.iconst C (pc' := 278) (z := 1) at_277 rfl rfl ?_
      refine N.goto C (pc' := 282) at_278 rfl ?_
      refine N.istore C (pc' := 284) (ls' := #[.val (.long h1), .second, .val (.long l1), .second, .val (.long h2), .second, .val (.long l2), .second, .val (.int sel), .val (.int k), .val (.long bh0), .second, .val (.long bl0), .second, .val (.long bh1), .second, .val (.long bl1), .second, .val (.ref t0), .val (.ref t1), .val (.ref t2), .val (.ref t3), .val (.ref a), .val (.ref b), .val (.int s0), .val (.int s1), .val (.int (1 : Int32)), .unset]) at_282 rfl rfl ?_
      refine N.lload C (pc' := 286) at_284 rfl rfl ?_
      refine N.lload C (pc' := 288) at_286 rfl rfl ?_
      refine N.lcmp C (pc' := 289) at_288 rfl ?_
      refine N.lif C (pt := 304) (pf := 292) at_289 rfl rfl (fun (hc289 : ¬ h2 = bh1) => ?_) (fun (hc289 : h2 = bh1) => ?_)
      · have hi289 : ¬ h2.toInt = bh1.toInt := neL hc289
        refine N.iconst C (pc' := 305) (z := 0) at_304 rfl rfl ?_
        refine N.istore C (pc' := 307) (ls' := #[.val (.long h1), .second, .val (.long l1), .second, .val (.long h2), .second, .val (.long l2), .second, .val (.int sel), .val (.int k), .val (.long bh0), .second, .val (.long bl0), .second, .val (.long bh1), .second, .val (.long bl1), .second, .val (.ref t0), .val (.ref t1), .val (.ref t2), .val (.ref t3), .val (.ref a), .val (.ref b), .val (.int s0), .val (.int s1), .val (.int (1 : Int32)), .val (.int (0 : Int32))]) at_305 rfl rfl ?_
        refine N.iload C (pc' := 309) at_307 rfl rfl ?_
        refine N.iload C (pc' := 311) at_309 rfl rfl ?_
        refine N.icmp C (pt := 325) (pf := 314) at_311 rfl rfl (fun (hc311 : ¬ s0 = (1 : Int32)) => absurd (show False from by exact hc311 (own_w1 hs0 ⟨hc267, hc274⟩)) id) (fun (hc311 : s0 = (1 : Int32)) => ?_)
        refine N.iload C (pc' := 316) at_314 rfl rfl ?_
        refine N.iload C (pc' := 318) at_316 rfl rfl ?_
        refine N.icmp C (pt := 325) (pf := 321) at_318 rfl rfl (fun (hc318 : ¬ s1 = (0 : Int32)) => absurd (show False from by exact hc318 (own_w0 hs1 (fun q => hc289 q.1))) id) (fun (hc318 : s1 = (0 : Int32)) => ?_)
        refine N.iconst C (pc' := 322) (z := 1) at_321 rfl rfl ?_
        refine N.goto C (pc' := 326) at_322 rfl ?_
        exact N.retN C (by simp) (z' := (1 : Int32)) rfl at_326 (by decide) (by decide) (by subst hQ; exact rfl)
      · have hi289 : h2.toInt = bh1.toInt := eqL hc289
        refine N.lload C (pc' := 294) at_292 rfl rfl ?_
        refine N.lload C (pc' := 296) at_294 rfl rfl ?_
        refine N.lcmp C (pc' := 297) at_296 rfl ?_
        refine N.lif C (pt := 304) (pf := 300) at_297 rfl rfl (fun (hc297 : ¬ l2 = bl1) => ?_) (fun (hc297 : l2 = bl1) => ?_)
        · have hi297 : ¬ l2.toInt = bl1.toInt := neL hc297
          refine N.iconst C (pc' := 305) (z := 0) at_304 rfl rfl ?_
          refine N.istore C (pc' := 307) (ls' := #[.val (.long h1), .second, .val (.long l1), .second, .val (.long h2), .second, .val (.long l2), .second, .val (.int sel), .val (.int k), .val (.long bh0), .second, .val (.long bl0), .second, .val (.long bh1), .second, .val (.long bl1), .second, .val (.ref t0), .val (.ref t1), .val (.ref t2), .val (.ref t3), .val (.ref a), .val (.ref b), .val (.int s0), .val (.int s1), .val (.int (1 : Int32)), .val (.int (0 : Int32))]) at_305 rfl rfl ?_
          refine N.iload C (pc' := 309) at_307 rfl rfl ?_
          refine N.iload C (pc' := 311) at_309 rfl rfl ?_
          refine N.icmp C (pt := 325) (pf := 314) at_311 rfl rfl (fun (hc311 : ¬ s0 = (1 : Int32)) => absurd (show False from by exact hc311 (own_w1 hs0 ⟨hc267, hc274⟩)) id) (fun (hc311 : s0 = (1 : Int32)) => ?_)
          refine N.iload C (pc' := 316) at_314 rfl rfl ?_
          refine N.iload C (pc' := 318) at_316 rfl rfl ?_
          refine N.icmp C (pt := 325) (pf := 321) at_318 rfl rfl (fun (hc318 : ¬ s1 = (0 : Int32)) => absurd (show False from by exact hc318 (own_w0 hs1 (fun q => hc297 q.2))) id) (fun (hc318 : s1 = (0 : Int32)) => ?_)
          refine N.iconst C (pc' := 322) (z := 1) at_321 rfl rfl ?_
          refine N.goto C (pc' := 326) at_322 rfl ?_
          exact N.retN C (by simp) (z' := (1 : Int32)) rfl at_326 (by decide) (by decide) (by subst hQ; exact rfl)
        · have hi297 : l2.toInt = bl1.toInt := eqL hc297
          refine N.iconst C (pc' := 301) (z := 1) at_300 rfl rfl ?_
          refine N.goto C (pc' := 305) at_301 rfl ?_
          refine N.istore C (pc' := 307) (ls' := #[.val (.long h1), .second, .val (.long l1), .second, .val (.long h2), .second, .val (.long l2), .second, .val (.int sel), .val (.int k), .val (.long bh0), .second, .val (.long bl0), .second, .val (.long bh1), .second, .val (.long bl1), .second, .val (.ref t0), .val (.ref t1), .val (.ref t2), .val (.ref t3), .val (.ref a), .val (.ref b), .val (.int s0), .val (.int s1), .val (.int (1 : Int32)), .val (.int (1 : Int32))]) at_305 rfl rfl ?_
          refine N.iload C (pc' := 309) at_307 rfl rfl ?_
          refine N.iload C (pc' := 311) at_309 rfl rfl ?_
          refine N.icmp C (pt := 325) (pf := 314) at_311 rfl rfl (fun (hc311 : ¬ s0 = (1 : Int32)) => absurd (show False from by exact hc311 (own_w1 hs0 ⟨hc267, hc274⟩)) id) (fun (hc311 : s0 = (1 : Int32)) => ?_)
          refine N.iload C (pc' := 316) at_314 rfl rfl ?_
          refine N.iload C (pc' := 318) at_316 rfl rfl ?_
          refine N.icmp C (pt := 325) (pf := 321) at_318 rfl rfl (fun (hc318 : ¬ s1 = (1 : Int32)) => absurd (show False from by exact hc318 (own_w1 hs1 ⟨hc289, hc297⟩)) id) (fun (hc318 : s1 = (1 : Int32)) => ?_)
          refine N.iconst C (pc' := 322) (z := 1) at_321 rfl rfl ?_
          refine N.goto C (pc' := 326) at_322 rfl ?_
          exact N.retN C (by simp) (z' := (1 : Int32)) rfl at_326 (by decide) (by decide) (by subst hQ; exact rfl)
theorem own_look {args : Array Value} {s : State} {T : Term} {w : Addr} {c : Cell} {n : Nat} {lo hi q : Int32} (evT : ∀ idx, T.eval args s none idx s = some (.ref w)) (hA : s.arrayAt? w = some c) (hn : n < c.slots.size) (h : (Cond.all T (Cond.or (Cond.lt (Term.index 0) (Term.int lo)) (Cond.or (Cond.le (Term.int hi) (Term.index 0)) (Cond.eq (Term.elem T (Term.index 0)) (Term.sub (Term.index 0) (Term.int q)))))).value args s none s [] = some true) (h1 : ¬ n.toInt32 < lo) (h2 : ¬ hi ≤ n.toInt32) (h3 : ¬ n.toInt32 < 0) (h4 : n.toInt32.toNatClampNeg = n) : c.slots[n]? = some (.int (n.toInt32 - q)) := by
  have e := Cond.all_elim (evT []) hA h n hn
  rw [Cond.or_of_right ((Cond.lt_ints (Term.index_eval n) (Term.int_eval lo)).trans (by rw [decide_eq_false h1])), Cond.or_of_right ((Cond.le_ints (Term.int_eval hi) (Term.index_eval n)).trans (by rw [decide_eq_false h2]))] at e
  have e2 := eqv_i (F := Term.sub (Term.index 0) (Term.int q)) (y := n.toInt32 - q) (by simp [Term.eval]) e
  rw [elem_f (evT _) (Term.index_eval n) hA h3, h4] at e2
  exact e2
theorem own_look2 {args : Array Value} {s : State} {T : Term} {w : Addr} {c : Cell} {n : Nat} {lo q : Int32} (evT : ∀ idx, T.eval args s none idx s = some (.ref w)) (hA : s.arrayAt? w = some c) (hn : n < c.slots.size) (h : (Cond.all T (Cond.or (Cond.lt (Term.index 0) (Term.int lo)) (Cond.eq (Term.elem T (Term.index 0)) (Term.sub (Term.index 0) (Term.int q))))).value args s none s [] = some true) (h1 : ¬ n.toInt32 < lo) (h3 : ¬ n.toInt32 < 0) (h4 : n.toInt32.toNatClampNeg = n) : c.slots[n]? = some (.int (n.toInt32 - q)) := by
  have e := Cond.all_elim (evT []) hA h n hn
  rw [Cond.or_of_right ((Cond.lt_ints (Term.index_eval n) (Term.int_eval lo)).trans (by rw [decide_eq_false h1]))] at e
  have e2 := eqv_i (F := Term.sub (Term.index 0) (Term.int q)) (y := n.toInt32 - q) (by simp [Term.eval]) e
  rw [elem_f (evT _) (Term.index_eval n) hA h3, h4] at e2
  exact e2
theorem own_t1 : ∀ d : Nat, d < 10 → ¬ (48 + d).toInt32 < 48 ∧ ¬ (58 : Int32) ≤ (48 + d).toInt32 ∧ ¬ (48 + d).toInt32 < 0 ∧ (48 + d).toInt32.toNatClampNeg = 48 + d ∧ ((48 + d).toInt32 - 48).toInt = (d : Nat) ∧ (own_cc d).toNat = 48 + d := by decide
theorem own_t2 : ∀ d : Nat, d < 16 → ¬ d < 10 → ¬ (87 + d).toInt32 < 97 ∧ ¬ (87 + d).toInt32 < 0 ∧ (87 + d).toInt32.toNatClampNeg = 87 + d ∧ ((87 + d).toInt32 - 87).toInt = (d : Nat) ∧ (own_cc d).toNat = 87 + d := by decide
theorem own_sz {n : Nat} (h : n < 2 ^ 31) (e : n.toInt32 = 103) : n = 103 := by
  have h1 : n.toInt32.toInt = (n : Int) := Int32.toInt_ofNat_of_lt (by omega)
  rw [e] at h1
  have h2 : (103 : Int32).toInt = 103 := by decide
  omega
theorem own_len {args : Array Value} {s : State} {T : Term} {w : Addr} {c : Cell} (ev : T.eval args s none [] s = some (.ref w)) (hA : s.arrayAt? w = some c) (eL : (Term.length T).eval args s none [] s = some (.int 103)) : c.slots.size = 103 := by
  by_cases q : c.slots.size < 2 ^ 31
  · rw [len_f ev hA q] at eL
    exact own_sz q (Value.int.inj (Option.some.inj eL))
  · simp only [Term.eval, ev, hA] at eL
    simp at q
    simp [hA, Nat.not_lt.mpr q] at eL
theorem own_start {l : Launch} {s : State} {args : Array Value} (hw : ∀ c ∈ tables_1, c.before args s = true) (hn : narrow_1.value args s none s [] = some true) : ∃ (w : Addr) (wl : List Value), own_HX (l, s, args, s.heap.size) w wl := by
  unfold narrow_1 at hn
  obtain ⟨hA, hn⟩ := and_e hn
  obtain ⟨hL, hn⟩ := and_e hn
  obtain ⟨-, hn⟩ := and_e hn
  obtain ⟨hD, hn⟩ := and_e hn
  obtain ⟨-, hn⟩ := and_e hn
  obtain ⟨-, hn⟩ := and_e hn
  obtain ⟨-, hE⟩ := and_e hn
  obtain ⟨w, ev⟩ := arr_v hA
  have evT : ∀ idx, (Term.static "com/example/grantgraph/grantgraph/graph/Uuids" "HEX_DIGITS" "[B").eval args s none idx s = some (.ref w) := fun idx => ev
  obtain ⟨c, A⟩ := Arr.start ev hA
  have hA' := A.fin (Vm.Alike.refl _)
  have eL := eqv_i (Term.int_eval _) hL
  have hsz := own_len ev hA' eL
  refine ⟨w, c.slots.toList, Sta.start ev (Or.inr ⟨hw _ (List.mem_of_getElem? (i := 40) rfl), hw _ (List.mem_of_getElem? (i := 49) rfl)⟩), ⟨c, A, rfl⟩, by simp [hsz], fun d hd => ?_⟩
  by_cases q : d < 10
  · obtain ⟨a1, a2, a3, a4, a5, a6⟩ := own_t1 d q
    refine ⟨_, ?_, a5⟩
    rw [a6]
    have e := own_look evT hA' (by omega) hD a1 a2 a3 a4
    simpa using e
  · obtain ⟨a1, a3, a4, a5, a6⟩ := own_t2 d hd q
    refine ⟨_, ?_, a5⟩
    rw [a6]
    have e := own_look2 evT hA' (by omega) hE a1 a3 a4
    simpa using e
set_option maxRecDepth 65536 in
set_option maxHeartbeats 40000000 in
theorem comes_1 {Post : Tables → Env → Array Value → State → Outcome → State → Prop} (hpost : ∀ tb e args s v u, (limb_1_1.after args s (.returned v) u = true ∧ limb_1_2.after args s (.returned v) u = true ∧ True) → FrameEnd s (.returned v) u (Jvm.fieldLocs frame_1_writes args s ++ Jvm.arrayLocs frame_1_arrays args s ++ Jvm.staticLocs frame_1_statics s) 40 8768 → Post tb e args s (.returned v) u) :
    ArmFor flags0 classFile x code maxLocals ret World_1 tables_1 room_1 Calls_1 rest_1 Pre_1 Post := by
  intro l hfl _ _ p e ha hc hk s m args below hf hA hF happ hP
  obtain ⟨hcalls, hrest, hpre⟩ := hP
  obtain ⟨-, -, -, hnamed, -, -, -, hat⟩ := (Spec.applies_iff hf).mp happ
  obtain ⟨hg, hn⟩ := and_e (Cond.before_iff.mp (show (Jvm.Cond.and given_1 narrow_1).before args s = true from hpre))
  obtain ⟨hcount, hrow⟩ := and_e hg
  obtain ⟨ha0, hrow⟩ := and_e hrow
  obtain ⟨ha1, hrow⟩ := and_e hrow
  obtain ⟨ha2, hrow⟩ := and_e hrow
  obtain ⟨ha3, hrow⟩ := and_e hrow
  obtain ⟨ha4, hrow⟩ := and_e hrow
  have ha5 := hrow
  obtain ⟨w0, w1, w2, w3, w4, w5, rfl⟩ : ∃ w0 w1 w2 w3 w4 w5 : Value, args = #[w0, w1, w2, w3, w4, w5] := by
    have hs : args.size = 6 := by simpa [Cond.value, given_1] using hcount
    obtain ⟨L⟩ := args
    match L, hs with
    | [w0, w1, w2, w3, w4, w5], _ => exact ⟨w0, w1, w2, w3, w4, w5, rfl⟩
  have hw := fun d (hd : d ∈ tables_1) => atoms_spec (ws := Jvm.Cond.code x code maxLocals ret :: tables_1) hat d (List.mem_cons_of_mem _ hd)
  have hfit : Fit s := fun {y c} hc i hi => by
    obtain ⟨ha, rfl⟩ := Array.getElem?_eq_some_iff.mp hc
    have q := List.all_eq_true.mp ((Array.all_eq_true_iff_forall_mem.mp hF) _ (Array.getElem_mem ha)) i (List.mem_range.mpr hi)
    simpa [Array.getElem?_eq_getElem hi] using q
  obtain ⟨i0, ei0⟩ := isL_v ha0
  obtain rfl : w0 = (.long i0) := Option.some.inj ei0
  obtain ⟨i1, ei1⟩ := isL_v ha1
  obtain rfl : w1 = (.long i1) := Option.some.inj ei1
  obtain ⟨i2, ei2⟩ := isL_v ha2
  obtain rfl : w2 = (.long i2) := Option.some.inj ei2
  obtain ⟨i3, ei3⟩ := isL_v ha3
  obtain rfl : w3 = (.long i3) := Option.some.inj ei3
  obtain ⟨i4, ei4⟩ := is_v ha4
  obtain rfl : w4 = (.int i4) := Option.some.inj ei4
  obtain ⟨i5, ei5⟩ := is_v ha5
  obtain rfl : w5 = (.int i5) := Option.some.inj ei5
  obtain ⟨w, wl, HX⟩ := own_start (l := l) hw hn
  obtain ⟨n, o, h1, h2, h3, _, L, rfl, ⟨rfl, N⟩, hq⟩ := con0 (l, s, _, s.heap.size) hw i0 i1 i2 i3 i4 i5 w wl s.heap (Nat.le_refl _) (Old.start s) HX tables_1 p e ha hc hk s m _ below hf ((Spec.applies_iff_loose hf).mp happ).1 ⟨rfl, State.Warmed39.refl s, rfl⟩ trivial
  refine ⟨n, _, h1, h2, h3, hpost _ _ _ _ _ _ ⟨Cond.after_iff.mpr rfl, Cond.after_iff.mpr (eq_i res_at (Term.int_eval (1)) rfl), trivial⟩ ⟨hq.1, hq.2.1, (hq.2.2.sift fun y hy => Or.inr (N y hy)).mono (by decide) (by decide)⟩⟩
theorem main_1_1 : Claimed_1_1 := comes_1 fun _ _ _ _ _ _ h hF => ⟨h.1, hF⟩
theorem main_1_2 : Claimed_1_2 := comes_1 fun _ _ _ _ _ _ h hF => ⟨h.2.1, hF⟩
end Jvm.Pilot.@@N@@
namespace Jvm.Pilot.@@N@@
open Jvm Jvm.ClassFile Sem Op Lib Jvm.Free Jvm.Stand Jvm.Pilot.@@N@@.Jvm.D
/-! MADE BY PROGRAM (witnessworld.py) out of the Statement's table words and the real class files: 16 classes; the members and pool entries that the words name. The judged class is class 1, her method 1. -/
namespace start1
open Jvm.ClassFile
def u (s : String) : CpInfo := .utf8 (stringToUtf16 s)
/-- a pool by its gaps: so many unusable entries, then the entry; so many at the end -/
def gap : Nat → List CpInfo → List CpInfo
  | 0, r => r
  | n + 1, r => .unusable :: gap n r
def poolList (es : List (Nat × CpInfo)) (last : Nat) : List CpInfo := es.foldr (fun e r => gap e.1 (e.2 :: r)) (gap last [])
def pool (es : List (Nat × CpInfo)) (last : Nat) : Array CpInfo := ⟨poolList es last⟩
def fileOf (pool : Array CpInfo) (this : Nat) (attrs : Array Attribute := #[]) (ms : Array MethodInfo := #[]) (fl : Nat := 33) (sup : Nat := 0) (ifs : Array Nat := #[]) (fds : Array FieldInfo := #[]) : ClassFile where
  minorVersion := 0
  majorVersion := 65
  constantPool := pool
  accessFlags := fl
  thisClass := this
  superClass := sup
  interfaces := ifs
  fields := fds
  methods := ms
  attributes := attrs
def plain (name : String) (sup : Option ClassId) : Class where
  name := name
  kind := .ordinary
  loader := none
  accessFlags := 33
  super := sup
  interfaces := #[]
  cf := none
  fields := #[]
  methods := #[]
  instanceTypes := #[]
  staticTypes := #[]
  resolved := #[]
  callSites := []
  init := .initialized
  statics := none
  mirror := none

def pool0 : Array CpInfo := pool [(5, u "<init>"), (0, u "()V"), (1, .class_ 10), (1, u "java/lang/Object")] 113

def k0c0 : Code := { maxStack := 0, maxLocals := 1, code := object_method_1_code, exceptionTable := #[], attributes := #[] }
def k0m0 : Method := { name := "<init>", desc := "()V", sig := { parameters := [], returnType := none }, accessFlags := 1, code := some k0c0 }
/-- java/lang/Object -/
def k0 : Class := { plain "java/lang/Object" none with
  accessFlags := 33
  interfaces := #[]
  cf := some (fileOf pool0 8 #[] #[{ accessFlags := 1, nameIndex := 5, descriptorIndex := 6, attributes := #[] }] 33 0 #[] #[])
  fields := #[]
  methods := #[k0m0]
  instanceTypes := #[]
  staticTypes := #[]
  resolved := Array.replicate 124 none
  statics := none }

def pool1 : Array CpInfo := pool [(2, .class_ 4), (0, .nameAndType 5 6), (0, u "java/lang/Object"), (0, u "<init>"), (0, u "()V"), (0, .methodref 8 9), (0, .class_ 10), (0, .nameAndType 11 12), (0, u "com/example/grantgraph/grantgraph/bench/IdsSameAtPinLaw"), (0, u "text"), (0, u "(JJ)[C"), (0, .class_ 14), (0, u "com/example/grantgraph/grantgraph/bench/Ids"), (0, .methodref 13 3), (0, .methodref 13 17), (0, .nameAndType 18 19), (0, u "add"), (0, u "([CII)V"), (0, .methodref 13 21), (0, .nameAndType 22 23), (0, u "sameAt"), (0, u "(ILcom/example/grantgraph/grantgraph/bench/Ids;)Z"), (0, .long 15), (1, .methodref 8 27), (0, .nameAndType 28 29), (0, u "hex"), (0, u "(JI)C"), (2, u "law"), (0, u "(JJJJII)Z")] 8

def k1m0 : Method := { name := "<init>", desc := "()V", sig := { parameters := [], returnType := none }, accessFlags := 2, code := none }
def k1c1 : Code := { maxStack := 6, maxLocals := 28, code := code, exceptionTable := #[], attributes := #[] }
def k1m1 : Method := { name := "law", desc := "(JJJJII)Z", sig := { parameters := [.long, .long, .long, .long, .int, .int], returnType := some .boolean }, accessFlags := 9, code := some k1c1 }
def k1c2 : Code := { maxStack := 4, maxLocals := 4, code := method_3_code, exceptionTable := #[], attributes := #[] }
def k1m2 : Method := { name := "hex", desc := "(JI)C", sig := { parameters := [.long, .int], returnType := some .char }, accessFlags := 10, code := some k1c2 }
def k1c3 : Code := { maxStack := 5, maxLocals := 5, code := method_4_code, exceptionTable := #[], attributes := #[] }
def k1m3 : Method := { name := "text", desc := "(JJ)[C", sig := { parameters := [.long, .long], returnType := some (.array .char) }, accessFlags := 10, code := some k1c3 }
/-- com/example/grantgraph/grantgraph/bench/IdsSameAtPinLaw -/
def k1 : Class := { plain "com/example/grantgraph/grantgraph/bench/IdsSameAtPinLaw" (some 0) with
  accessFlags := 49
  interfaces := #[]
  cf := some (fileOf pool1 8 #[] #[{ accessFlags := 2, nameIndex := 5, descriptorIndex := 6, attributes := #[] }, { accessFlags := 9, nameIndex := 32, descriptorIndex := 33, attributes := #[] }, { accessFlags := 10, nameIndex := 28, descriptorIndex := 29, attributes := #[] }, { accessFlags := 10, nameIndex := 11, descriptorIndex := 12, attributes := #[] }] 49 2 #[] #[])
  fields := #[]
  methods := #[k1m0, k1m1, k1m2, k1m3]
  instanceTypes := #[]
  staticTypes := #[]
  resolved := Array.replicate 42 none
  statics := none }

def pool2 : Array CpInfo := pool [(1, .methodref 2 3), (0, .class_ 4), (0, .nameAndType 5 6), (0, u "java/lang/Object"), (0, u "<init>"), (0, u "()V"), (0, .fieldref 8 9), (0, .class_ 10), (0, .nameAndType 11 12), (0, u "com/example/grantgraph/grantgraph/bench/Ids"), (0, u "high"), (0, u "[J"), (0, .fieldref 8 14), (0, .nameAndType 15 12), (0, u "low"), (0, .fieldref 8 17), (0, .nameAndType 18 19), (0, u "text"), (0, u "[B"), (0, .fieldref 8 21), (0, .nameAndType 22 23), (0, u "size"), (0, u "I"), (0, .methodref 8 25), (0, .nameAndType 26 27), (0, u "ascii"), (0, u "(C)B"), (0, .methodref 8 29), (0, .nameAndType 30 31), (0, u "addText"), (0, u "()Z"), (4, u "([CII)V"), (12, .methodref 50 51), (0, .class_ 52), (0, .nameAndType 53 54), (0, u "com/example/grantgraph/grantgraph/graph/Uuids"), (0, u "parse"), (0, u "([BII)Ljava/util/UUID;"), (8, .methodref 64 65), (0, .class_ 66), (0, .nameAndType 67 68), (0, u "java/util/UUID"), (0, u "getMostSignificantBits"), (0, u "()J"), (0, .methodref 64 70), (0, .nameAndType 71 68), (0, u "getLeastSignificantBits"), (33, u "TEXT_LENGTH"), (5, u "add"), (3, u "sameAt"), (0, u "(ILcom/example/grantgraph/grantgraph/bench/Ids;)Z")] 17

def k2c0 : Code := { maxStack := 2, maxLocals := 1, code := prog_9_method_1_code, exceptionTable := #[], attributes := #[] }
def k2m0 : Method := { name := "<init>", desc := "()V", sig := { parameters := [], returnType := none }, accessFlags := 0, code := some k2c0 }
def k2c1 : Code := { maxStack := 5, maxLocals := 6, code := prog_9_method_4_code, exceptionTable := #[], attributes := #[] }
def k2m1 : Method := { name := "add", desc := "([CII)V", sig := { parameters := [(.array .char), .int, .int], returnType := none }, accessFlags := 0, code := some k2c1 }
def k2c2 : Code := { maxStack := 4, maxLocals := 3, code := prog_9_method_6_code, exceptionTable := #[{ startPc := 0, endPc := 11, handlerPc := 14, catchType := 55 }], attributes := #[] }
def k2m2 : Method := { name := "addText", desc := "()Z", sig := { parameters := [], returnType := some .boolean }, accessFlags := 2, code := some k2c2 }
def k2c3 : Code := { maxStack := 2, maxLocals := 1, code := prog_9_method_7_code, exceptionTable := #[], attributes := #[] }
def k2m3 : Method := { name := "ascii", desc := "(C)B", sig := { parameters := [.char], returnType := some .byte }, accessFlags := 10, code := some k2c3 }
def k2c4 : Code := { maxStack := 4, maxLocals := 3, code := prog_9_method_9_code, exceptionTable := #[], attributes := #[] }
def k2m4 : Method := { name := "sameAt", desc := "(ILcom/example/grantgraph/grantgraph/bench/Ids;)Z", sig := { parameters := [.int, (.object "com/example/grantgraph/grantgraph/bench/Ids")], returnType := some .boolean }, accessFlags := 0, code := some k2c4 }
/-- com/example/grantgraph/grantgraph/bench/Ids -/
def k2 : Class := { plain "com/example/grantgraph/grantgraph/bench/Ids" (some 0) with
  accessFlags := 48
  interfaces := #[]
  cf := some (fileOf pool2 8 #[] #[{ accessFlags := 0, nameIndex := 5, descriptorIndex := 6, attributes := #[] }, { accessFlags := 0, nameIndex := 111, descriptorIndex := 36, attributes := #[] }, { accessFlags := 2, nameIndex := 30, descriptorIndex := 31, attributes := #[] }, { accessFlags := 10, nameIndex := 26, descriptorIndex := 27, attributes := #[] }, { accessFlags := 0, nameIndex := 115, descriptorIndex := 116, attributes := #[] }] 48 2 #[] #[{ accessFlags := 26, nameIndex := 105, descriptorIndex := 23, attributes := #[] }, { accessFlags := 2, nameIndex := 11, descriptorIndex := 12, attributes := #[] }, { accessFlags := 2, nameIndex := 15, descriptorIndex := 12, attributes := #[] }, { accessFlags := 2, nameIndex := 22, descriptorIndex := 23, attributes := #[] }, { accessFlags := 18, nameIndex := 18, descriptorIndex := 19, attributes := #[] }])
  fields := #[{ name := "TEXT_LENGTH", type := .int, accessFlags := 26, slot := 0, constantValue := 0 }, { name := "high", type := (.array .long), accessFlags := 2, slot := 0, constantValue := 0 }, { name := "low", type := (.array .long), accessFlags := 2, slot := 1, constantValue := 0 }, { name := "size", type := .int, accessFlags := 2, slot := 2, constantValue := 0 }, { name := "text", type := (.array .byte), accessFlags := 18, slot := 3, constantValue := 0 }]
  methods := #[k2m0, k2m1, k2m2, k2m3, k2m4]
  instanceTypes := #[(.array .long), (.array .long), .int, (.array .byte)]
  staticTypes := #[.int]
  resolved := Array.replicate 134 none
  statics := none }

def pool3 : Array CpInfo := pool [(2, .class_ 4), (1, u "java/lang/Object"), (0, u "<init>"), (0, u "()V"), (6, .class_ 14), (0, u "com/example/grantgraph/grantgraph/graph/Uuids"), (10, .methodref 13 26), (0, .nameAndType 27 28), (0, u "digits"), (0, u "([BI)Ljava/util/UUID;"), (7, .methodref 13 37), (0, .nameAndType 38 39), (0, u "hexValue"), (0, u "([BII)J"), (0, .class_ 41), (0, u "java/util/UUID"), (0, .methodref 40 43), (0, .nameAndType 5 44), (0, u "(JJ)V"), (68, u "NAMESPACE"), (0, u "Ljava/util/UUID;"), (4, .fieldref 13 120), (0, .nameAndType 121 122), (0, u "HEX_DIGITS"), (0, u "[B"), (0, .long 18446744073709551615), (36, u "ORDER"), (0, u "Ljava/util/Comparator;"), (11, u "TEXT_LENGTH"), (0, u "I"), (4, u "parse"), (2, u "([BII)Ljava/util/UUID;")] 33

def k3m0 : Method := { name := "<init>", desc := "()V", sig := { parameters := [], returnType := none }, accessFlags := 2, code := none }
def k3c1 : Code := { maxStack := 6, maxLocals := 4, code := prog_38_method_3_code, exceptionTable := #[], attributes := #[] }
def k3m1 : Method := { name := "parse", desc := "([BII)Ljava/util/UUID;", sig := { parameters := [(.array .byte), .int, .int], returnType := some (.object "java/util/UUID") }, accessFlags := 9, code := some k3c1 }
def k3c2 : Code := { maxStack := 8, maxLocals := 13, code := prog_38_method_4_code, exceptionTable := #[], attributes := #[] }
def k3m2 : Method := { name := "digits", desc := "([BI)Ljava/util/UUID;", sig := { parameters := [(.array .byte), .int], returnType := some (.object "java/util/UUID") }, accessFlags := 10, code := some k3c2 }
def k3c3 : Code := { maxStack := 4, maxLocals := 8, code := prog_38_method_7_code, exceptionTable := #[], attributes := #[] }
def k3m3 : Method := { name := "hexValue", desc := "([BII)J", sig := { parameters := [(.array .byte), .int, .int], returnType := some .long }, accessFlags := 10, code := some k3c3 }
/-- com/example/grantgraph/grantgraph/graph/Uuids -/
def k3 : Class := { plain "com/example/grantgraph/grantgraph/graph/Uuids" (some 0) with
  accessFlags := 49
  interfaces := #[]
  cf := some (fileOf pool3 13 #[] #[{ accessFlags := 2, nameIndex := 5, descriptorIndex := 6, attributes := #[] }, { accessFlags := 9, nameIndex := 179, descriptorIndex := 182, attributes := #[] }, { accessFlags := 10, nameIndex := 27, descriptorIndex := 28, attributes := #[] }, { accessFlags := 10, nameIndex := 38, descriptorIndex := 39, attributes := #[] }] 49 2 #[] #[{ accessFlags := 25, nameIndex := 160, descriptorIndex := 161, attributes := #[] }, { accessFlags := 26, nameIndex := 113, descriptorIndex := 114, attributes := #[] }, { accessFlags := 26, nameIndex := 173, descriptorIndex := 174, attributes := #[] }, { accessFlags := 26, nameIndex := 121, descriptorIndex := 122, attributes := #[] }])
  fields := #[{ name := "ORDER", type := (.object "java/util/Comparator"), accessFlags := 25, slot := 0, constantValue := 0 }, { name := "NAMESPACE", type := (.object "java/util/UUID"), accessFlags := 26, slot := 1, constantValue := 0 }, { name := "TEXT_LENGTH", type := .int, accessFlags := 26, slot := 2, constantValue := 0 }, { name := "HEX_DIGITS", type := (.array .byte), accessFlags := 26, slot := 3, constantValue := 0 }]
  methods := #[k3m0, k3m1, k3m2, k3m3]
  instanceTypes := #[]
  staticTypes := #[(.object "java/util/Comparator"), (.object "java/util/UUID"), .int, (.array .byte)]
  resolved := Array.replicate 216 none
  statics := some 0 }

def pool4 : Array CpInfo := pool [(1, .class_ 2), (0, u "java/io/Serializable"), (0, .class_ 4), (0, u "java/lang/Object")] 2

/-- java/io/Serializable -/
def k4 : Class := { plain "java/io/Serializable" (some 0) with
  accessFlags := 1537
  interfaces := #[]
  cf := some (fileOf pool4 1 #[] #[] 1537 3 #[] #[])
  fields := #[]
  methods := #[]
  instanceTypes := #[]
  staticTypes := #[]
  resolved := Array.replicate 7 none
  statics := none }

def pool5 : Array CpInfo := pool [(1, .class_ 2), (0, u "java/lang/Comparable"), (0, .class_ 4), (0, u "java/lang/Object")] 7

/-- java/lang/Comparable -/
def k5 : Class := { plain "java/lang/Comparable" (some 0) with
  accessFlags := 1537
  interfaces := #[]
  cf := some (fileOf pool5 1 #[] #[] 1537 3 #[] #[])
  fields := #[]
  methods := #[]
  instanceTypes := #[]
  staticTypes := #[]
  resolved := Array.replicate 12 none
  statics := none }

def pool6 : Array CpInfo := pool [(1, .methodref 2 3), (0, .class_ 4), (0, .nameAndType 5 6), (0, u "java/lang/Object"), (0, u "<init>"), (0, u "()V"), (1, .class_ 10), (1, u "java/util/UUID"), (0, u "$assertionsDisabled"), (0, u "Z"), (7, .fieldref 8 21), (0, .nameAndType 22 23), (0, u "mostSigBits"), (0, u "J"), (0, .fieldref 8 25), (0, .nameAndType 26 23), (0, u "leastSigBits"), (1, .class_ 30), (1, u "java/util/UUID$Holder"), (33, u "NIBBLES"), (0, u "[B"), (18, u "(JJ)V"), (61, u "jla"), (0, u "Ljdk/internal/access/JavaLangAccess;"), (40, .class_ 189), (0, u "java/io/Serializable"), (0, .class_ 191), (0, u "java/lang/Comparable"), (0, u "serialVersionUID"), (50, u "getLeastSignificantBits"), (0, u "()J"), (0, u "getMostSignificantBits")] 20

def k6c0 : Code := { maxStack := 3, maxLocals := 5, code := jdk_2758_method_2_code, exceptionTable := #[], attributes := #[] }
def k6m0 : Method := { name := "<init>", desc := "(JJ)V", sig := { parameters := [.long, .long], returnType := none }, accessFlags := 1, code := some k6c0 }
def k6c1 : Code := { maxStack := 2, maxLocals := 1, code := jdk_2758_method_8_code, exceptionTable := #[], attributes := #[] }
def k6m1 : Method := { name := "getLeastSignificantBits", desc := "()J", sig := { parameters := [], returnType := some .long }, accessFlags := 1, code := some k6c1 }
def k6c2 : Code := { maxStack := 2, maxLocals := 1, code := jdk_2758_method_9_code, exceptionTable := #[], attributes := #[] }
def k6m2 : Method := { name := "getMostSignificantBits", desc := "()J", sig := { parameters := [], returnType := some .long }, accessFlags := 1, code := some k6c2 }
/-- java/util/UUID -/
def k6 : Class := { plain "java/util/UUID" (some 0) with
  accessFlags := 49
  interfaces := #[4, 5]
  cf := some (fileOf pool6 8 #[.nestMembers #[28]] #[{ accessFlags := 1, nameIndex := 5, descriptorIndex := 84, attributes := #[] }, { accessFlags := 1, nameIndex := 243, descriptorIndex := 244, attributes := #[] }, { accessFlags := 1, nameIndex := 245, descriptorIndex := 244, attributes := #[] }] 49 2 #[188, 190] #[{ accessFlags := 26, nameIndex := 192, descriptorIndex := 23, attributes := #[] }, { accessFlags := 18, nameIndex := 22, descriptorIndex := 23, attributes := #[] }, { accessFlags := 18, nameIndex := 26, descriptorIndex := 23, attributes := #[] }, { accessFlags := 26, nameIndex := 146, descriptorIndex := 147, attributes := #[] }, { accessFlags := 26, nameIndex := 64, descriptorIndex := 65, attributes := #[] }, { accessFlags := 4120, nameIndex := 11, descriptorIndex := 12, attributes := #[] }])
  fields := #[{ name := "serialVersionUID", type := .long, accessFlags := 26, slot := 0, constantValue := 0 }, { name := "mostSigBits", type := .long, accessFlags := 18, slot := 0, constantValue := 0 }, { name := "leastSigBits", type := .long, accessFlags := 18, slot := 1, constantValue := 0 }, { name := "jla", type := (.object "jdk/internal/access/JavaLangAccess"), accessFlags := 26, slot := 1, constantValue := 0 }, { name := "NIBBLES", type := (.array .byte), accessFlags := 26, slot := 2, constantValue := 0 }, { name := "$assertionsDisabled", type := .boolean, accessFlags := 4120, slot := 3, constantValue := 0 }]
  methods := #[k6m0, k6m1, k6m2]
  instanceTypes := #[.long, .long]
  staticTypes := #[.long, (.object "jdk/internal/access/JavaLangAccess"), (.array .byte), .boolean]
  resolved := Array.replicate 266 none
  statics := none }

def pool7 : Array CpInfo := pool [(1, u "java/lang/Cloneable"), (0, .class_ 1), (0, u "java/lang/Object"), (0, .class_ 3)] 3

/-- java/lang/Cloneable -/
def k7 : Class := { plain "java/lang/Cloneable" (some 0) with
  accessFlags := 1537
  interfaces := #[]
  cf := some (fileOf pool7 2 #[] #[] 1537 4 #[] #[])
  fields := #[]
  methods := #[]
  instanceTypes := #[]
  staticTypes := #[]
  resolved := Array.replicate 8 none
  statics := none }

/-- the primitive byte -/
def k8 : Class := { plain "byte" none with kind := .primitive 'B', accessFlags := 0x411 }
/-- [B -/
def k9 : Class := { plain "[B" (some 0) with kind := .array 8 .byte, interfaces := #[7, 4], accessFlags := 1041 }

/-- the primitive char -/
def k10 : Class := { plain "char" none with kind := .primitive 'C', accessFlags := 0x411 }
/-- [C -/
def k11 : Class := { plain "[C" (some 0) with kind := .array 10 .char, interfaces := #[7, 4], accessFlags := 1041 }

/-- the primitive int -/
def k12 : Class := { plain "int" none with kind := .primitive 'I', accessFlags := 0x411 }
/-- [I -/
def k13 : Class := { plain "[I" (some 0) with kind := .array 12 .int, interfaces := #[7, 4], accessFlags := 1041 }

/-- the primitive long -/
def k14 : Class := { plain "long" none with kind := .primitive 'J', accessFlags := 0x411 }
/-- [J -/
def k15 : Class := { plain "[J" (some 0) with kind := .array 14 .long, interfaces := #[7, 4], accessFlags := 1041 }

def heap : Heap := #[{ cls := 3, slots := #[.null, .null, .int 0, .ref 1], vm := .statics 3 },
  { cls := 9, slots := #[.int (-1),.int (-1),.int (-1),.int (-1),.int (-1),.int (-1),.int (-1),.int (-1),.int (-1),.int (-1),.int (-1),.int (-1),.int (-1),.int (-1),.int (-1),.int (-1),.int (-1),.int (-1),.int (-1),.int (-1),.int (-1),.int (-1),.int (-1),.int (-1),.int (-1),.int (-1),.int (-1),.int (-1),.int (-1),.int (-1),.int (-1),.int (-1),.int (-1),.int (-1),.int (-1),.int (-1),.int (-1),.int (-1),.int (-1),.int (-1),.int (-1),.int (-1),.int (-1),.int (-1),.int (-1),.int (-1),.int (-1),.int (-1),.int 0,.int 1,.int 2,.int 3,.int 4,.int 5,.int 6,.int 7,.int 8,.int 9,.int (-1),.int (-1),.int (-1),.int (-1),.int (-1),.int (-1),.int (-1),.int 10,.int 11,.int 12,.int 13,.int 14,.int 15,.int (-1),.int (-1),.int (-1),.int (-1),.int (-1),.int (-1),.int (-1),.int (-1),.int (-1),.int (-1),.int (-1),.int (-1),.int (-1),.int (-1),.int (-1),.int (-1),.int (-1),.int (-1),.int (-1),.int (-1),.int (-1),.int (-1),.int (-1),.int (-1),.int (-1),.int (-1),.int 10,.int 11,.int 12,.int 13,.int 14,.int 15], vm := .none }]
def classes : Array Class := #[k0, k1, k2, k3, k4, k5, k6, k7, k8, k9, k10, k11, k12, k13, k14, k15]
def interned : List (Array UInt16 × Addr) := []
def slotsUsed : Nat := 107
def theMethod : MethodId := ⟨1, 1⟩
def args0 : Array Value := #[.long 1, .long 2, .long 3, .long 4, .int 0, .int 5]
def aboutOver (below : List Frame) : State where
  vm := { classes := classes, interned := interned.toArray }
  heap := heap
  slotsUsed := slotsUsed
  threads := #[{ frames := .invoking theMethod args0 :: below }]
def below0 : List Frame := [.native { method := ⟨0, 0⟩, args := #[] }]
def about1 : State := aboutOver below0
def p0 : Program := .bare "" "" ""
def e0 : Env := launch0.env 0 0 0
theorem w_frames : about1.frames = Frame.invoking theMethod args0 :: below0 := rfl
set_option maxRecDepth 65536 in
theorem w_args : argsFit about1.vm theMethod args0 = true := by decide +kernel
set_option maxRecDepth 65536 in
theorem w_heap : heapFits about1 = true := by decide +kernel
set_option maxRecDepth 65536 in
theorem w_runnable : about1.curStatus? = some .runnable := by decide +kernel
set_option maxRecDepth 65536 in
theorem w_alone : about1.alone = true := by decide +kernel
set_option maxRecDepth 65536 in
theorem w_named : about1.methodNamed? x = some theMethod := by decide +kernel
set_option maxRecDepth 65536 in
theorem w_hears : about1.hears theMethod below0 = true := by decide +kernel
set_option maxRecDepth 65536 in
theorem w_ripe : about1.ripe theMethod args0 below0 = true := by decide +kernel
theorem w_running : about1.status = .running := rfl
set_option maxRecDepth 65536 in
theorem w_room : about1.hasRoom e0.platform room_1 = true :=
  launch0.hasRoom_least _ room_1 (by decide +kernel) (by decide +kernel) (by decide +kernel) (by decide +kernel) (by decide +kernel) (by decide +kernel)
theorem allAtoms_all (ts : List Jvm.Cond) (a : Array Jvm.Value) (st : Jvm.State) : (allAtoms ts).before a st = ts.all (fun c => c.before a st) := by
  induction ts with
  | nil => rfl
  | cons c t ih =>
    show (Jvm.Cond.and c (allAtoms t)).before a st = _
    rw [Jvm.Cond.before_and, ih, List.all_cons]
def words1 : List Jvm.Cond := Jvm.Cond.code x code maxLocals ret :: tables_1
/-- a 'code' word, met by the world's own term for the bytes: nothing is compared byte by byte -/
theorem code_word {y : MethodName} {bytes : ByteArray} {mx : Nat} {rt : Option FieldType} {a : Array Value} {s : State} {m : MethodId} {meth : Method} {c : Code} (h1 : s.methodNamed? y = some m) (h2 : s.vm.method? m = some meth) (h3 : meth.code = some c) (h4 : c.code = bytes)
    (h5 : (c.maxLocals == mx && c.exceptionTable.isEmpty && decide (c.maxStack ≤ mostOperands) && decide (meth.sig.returnType = rt) && !meth.locks && decide (parseMethodDescriptor y.desc = some meth.sig)) = true) : (Jvm.Cond.code y bytes mx rt).before a s = true := by
  simp only [Bool.and_eq_true, beq_iff_eq, Bool.not_eq_true', decide_eq_true_eq] at h5
  obtain ⟨⟨⟨⟨⟨g1, g2⟩, g3⟩, g4⟩, g5⟩, g6⟩ := h5
  simp [Cond.before, Cond.holds, Cond.value, h1, h2, h3, h4, g1, g2, g3, g4, g5, g6]
def isCode : Jvm.Cond → Bool
  | .code _ _ _ _ => true
  | _ => false
theorem all_split {L : List Jvm.Cond} {P : Jvm.Cond → Bool} (h1 : L.all (fun c => isCode c || P c) = true) (h2 : ∀ c ∈ L.filter isCode, P c = true) : L.all P = true := by
  refine List.all_eq_true.mpr fun c hc => ?_
  have h := List.all_eq_true.mp h1 c hc
  rcases Bool.eq_false_or_eq_true (isCode c) with hi | hi
  · exact h2 c (List.mem_filter.mpr ⟨hc, hi⟩)
  · simpa [hi] using h
set_option maxRecDepth 65536 in
theorem w_c0 : (Jvm.Cond.code x code maxLocals ret).before args0 about1 = true := code_word (m := ⟨1, 1⟩) (meth := k1m1) (c := k1c1) (by decide +kernel) rfl rfl rfl (by decide +kernel)
set_option maxRecDepth 65536 in
theorem w_c1 : (Jvm.Cond.code ({ cls := "com/example/grantgraph/grantgraph/bench/IdsSameAtPinLaw", name := "text", desc := "(JJ)[C" } : Jvm.MethodName) method_4_code (5 : Nat) (Option.some (Jvm.ClassFile.FieldType.array Jvm.ClassFile.FieldType.char))).before args0 about1 = true := code_word (m := ⟨1, 3⟩) (meth := k1m3) (c := k1c3) (by decide +kernel) rfl rfl rfl (by decide +kernel)
set_option maxRecDepth 65536 in
theorem w_c2 : (Jvm.Cond.code ({ cls := "com/example/grantgraph/grantgraph/bench/IdsSameAtPinLaw", name := "hex", desc := "(JI)C" } : Jvm.MethodName) method_3_code (4 : Nat) (Option.some Jvm.ClassFile.FieldType.char)).before args0 about1 = true := code_word (m := ⟨1, 2⟩) (meth := k1m2) (c := k1c2) (by decide +kernel) rfl rfl rfl (by decide +kernel)
set_option maxRecDepth 65536 in
theorem w_c3 : (Jvm.Cond.code ({ cls := "com/example/grantgraph/grantgraph/bench/Ids", name := "<init>", desc := "()V" } : Jvm.MethodName) prog_9_method_1_code (1 : Nat) (Option.none : Option Jvm.ClassFile.FieldType)).before args0 about1 = true := code_word (m := ⟨2, 0⟩) (meth := k2m0) (c := k2c0) (by decide +kernel) rfl rfl rfl (by decide +kernel)
set_option maxRecDepth 65536 in
theorem w_c4 : (Jvm.Cond.code ({ cls := "java/lang/Object", name := "<init>", desc := "()V" } : Jvm.MethodName) object_method_1_code (1 : Nat) (Option.none : Option Jvm.ClassFile.FieldType)).before args0 about1 = true := code_word (m := ⟨0, 0⟩) (meth := k0m0) (c := k0c0) (by decide +kernel) rfl rfl rfl (by decide +kernel)
set_option maxRecDepth 65536 in
theorem w_c5 : (Jvm.Cond.code ({ cls := "com/example/grantgraph/grantgraph/bench/Ids", name := "add", desc := "([CII)V" } : Jvm.MethodName) prog_9_method_4_code (6 : Nat) (Option.none : Option Jvm.ClassFile.FieldType)).before args0 about1 = true := code_word (m := ⟨2, 1⟩) (meth := k2m1) (c := k2c1) (by decide +kernel) rfl rfl rfl (by decide +kernel)
set_option maxRecDepth 65536 in
theorem w_c6 : (Jvm.Cond.code ({ cls := "com/example/grantgraph/grantgraph/bench/Ids", name := "ascii", desc := "(C)B" } : Jvm.MethodName) prog_9_method_7_code (1 : Nat) (Option.some Jvm.ClassFile.FieldType.byte)).before args0 about1 = true := code_word (m := ⟨2, 3⟩) (meth := k2m3) (c := k2c3) (by decide +kernel) rfl rfl rfl (by decide +kernel)
set_option maxRecDepth 65536 in
theorem w_c7 : (Jvm.Cond.code ({ cls := "com/example/grantgraph/grantgraph/graph/Uuids", name := "parse", desc := "([BII)Ljava/util/UUID;" } : Jvm.MethodName) prog_38_method_3_code (4 : Nat) (Option.some (Jvm.ClassFile.FieldType.object "java/util/UUID"))).before args0 about1 = true := code_word (m := ⟨3, 1⟩) (meth := k3m1) (c := k3c1) (by decide +kernel) rfl rfl rfl (by decide +kernel)
set_option maxRecDepth 65536 in
theorem w_c8 : (Jvm.Cond.code ({ cls := "com/example/grantgraph/grantgraph/graph/Uuids", name := "digits", desc := "([BI)Ljava/util/UUID;" } : Jvm.MethodName) prog_38_method_4_code (13 : Nat) (Option.some (Jvm.ClassFile.FieldType.object "java/util/UUID"))).before args0 about1 = true := code_word (m := ⟨3, 2⟩) (meth := k3m2) (c := k3c2) (by decide +kernel) rfl rfl rfl (by decide +kernel)
set_option maxRecDepth 65536 in
theorem w_c9 : (Jvm.Cond.code ({ cls := "com/example/grantgraph/grantgraph/graph/Uuids", name := "hexValue", desc := "([BII)J" } : Jvm.MethodName) prog_38_method_7_code (8 : Nat) (Option.some Jvm.ClassFile.FieldType.long)).before args0 about1 = true := code_word (m := ⟨3, 3⟩) (meth := k3m3) (c := k3c3) (by decide +kernel) rfl rfl rfl (by decide +kernel)
set_option maxRecDepth 65536 in
theorem w_c10 : (Jvm.Cond.code ({ cls := "java/util/UUID", name := "<init>", desc := "(JJ)V" } : Jvm.MethodName) jdk_2758_method_2_code (5 : Nat) (Option.none : Option Jvm.ClassFile.FieldType)).before args0 about1 = true := code_word (m := ⟨6, 0⟩) (meth := k6m0) (c := k6c0) (by decide +kernel) rfl rfl rfl (by decide +kernel)
set_option maxRecDepth 65536 in
theorem w_c11 : (Jvm.Cond.code ({ cls := "java/util/UUID", name := "getMostSignificantBits", desc := "()J" } : Jvm.MethodName) jdk_2758_method_9_code (1 : Nat) (Option.some Jvm.ClassFile.FieldType.long)).before args0 about1 = true := code_word (m := ⟨6, 2⟩) (meth := k6m2) (c := k6c2) (by decide +kernel) rfl rfl rfl (by decide +kernel)
set_option maxRecDepth 65536 in
theorem w_c12 : (Jvm.Cond.code ({ cls := "java/util/UUID", name := "getLeastSignificantBits", desc := "()J" } : Jvm.MethodName) jdk_2758_method_8_code (1 : Nat) (Option.some Jvm.ClassFile.FieldType.long)).before args0 about1 = true := code_word (m := ⟨6, 1⟩) (meth := k6m1) (c := k6c1) (by decide +kernel) rfl rfl rfl (by decide +kernel)
set_option maxRecDepth 65536 in
theorem w_c13 : (Jvm.Cond.code ({ cls := "com/example/grantgraph/grantgraph/bench/Ids", name := "sameAt", desc := "(ILcom/example/grantgraph/grantgraph/bench/Ids;)Z" } : Jvm.MethodName) prog_9_method_9_code (3 : Nat) (Option.some Jvm.ClassFile.FieldType.boolean)).before args0 about1 = true := code_word (m := ⟨2, 4⟩) (meth := k2m4) (c := k2c4) (by decide +kernel) rfl rfl rfl (by decide +kernel)
def codes1 : List Jvm.Cond := [Jvm.Cond.code x code maxLocals ret, Jvm.Cond.code ({ cls := "com/example/grantgraph/grantgraph/bench/IdsSameAtPinLaw", name := "text", desc := "(JJ)[C" } : Jvm.MethodName) method_4_code (5 : Nat) (Option.some (Jvm.ClassFile.FieldType.array Jvm.ClassFile.FieldType.char)), Jvm.Cond.code ({ cls := "com/example/grantgraph/grantgraph/bench/IdsSameAtPinLaw", name := "hex", desc := "(JI)C" } : Jvm.MethodName) method_3_code (4 : Nat) (Option.some Jvm.ClassFile.FieldType.char), Jvm.Cond.code ({ cls := "com/example/grantgraph/grantgraph/bench/Ids", name := "<init>", desc := "()V" } : Jvm.MethodName) prog_9_method_1_code (1 : Nat) (Option.none : Option Jvm.ClassFile.FieldType), Jvm.Cond.code ({ cls := "java/lang/Object", name := "<init>", desc := "()V" } : Jvm.MethodName) object_method_1_code (1 : Nat) (Option.none : Option Jvm.ClassFile.FieldType), Jvm.Cond.code ({ cls := "com/example/grantgraph/grantgraph/bench/Ids", name := "add", desc := "([CII)V" } : Jvm.MethodName) prog_9_method_4_code (6 : Nat) (Option.none : Option Jvm.ClassFile.FieldType), Jvm.Cond.code ({ cls := "com/example/grantgraph/grantgraph/bench/Ids", name := "ascii", desc := "(C)B" } : Jvm.MethodName) prog_9_method_7_code (1 : Nat) (Option.some Jvm.ClassFile.FieldType.byte), Jvm.Cond.code ({ cls := "com/example/grantgraph/grantgraph/graph/Uuids", name := "parse", desc := "([BII)Ljava/util/UUID;" } : Jvm.MethodName) prog_38_method_3_code (4 : Nat) (Option.some (Jvm.ClassFile.FieldType.object "java/util/UUID")), Jvm.Cond.code ({ cls := "com/example/grantgraph/grantgraph/graph/Uuids", name := "digits", desc := "([BI)Ljava/util/UUID;" } : Jvm.MethodName) prog_38_method_4_code (13 : Nat) (Option.some (Jvm.ClassFile.FieldType.object "java/util/UUID")), Jvm.Cond.code ({ cls := "com/example/grantgraph/grantgraph/graph/Uuids", name := "hexValue", desc := "([BII)J" } : Jvm.MethodName) prog_38_method_7_code (8 : Nat) (Option.some Jvm.ClassFile.FieldType.long), Jvm.Cond.code ({ cls := "java/util/UUID", name := "<init>", desc := "(JJ)V" } : Jvm.MethodName) jdk_2758_method_2_code (5 : Nat) (Option.none : Option Jvm.ClassFile.FieldType), Jvm.Cond.code ({ cls := "java/util/UUID", name := "getMostSignificantBits", desc := "()J" } : Jvm.MethodName) jdk_2758_method_9_code (1 : Nat) (Option.some Jvm.ClassFile.FieldType.long), Jvm.Cond.code ({ cls := "java/util/UUID", name := "getLeastSignificantBits", desc := "()J" } : Jvm.MethodName) jdk_2758_method_8_code (1 : Nat) (Option.some Jvm.ClassFile.FieldType.long), Jvm.Cond.code ({ cls := "com/example/grantgraph/grantgraph/bench/Ids", name := "sameAt", desc := "(ILcom/example/grantgraph/grantgraph/bench/Ids;)Z" } : Jvm.MethodName) prog_9_method_9_code (3 : Nat) (Option.some Jvm.ClassFile.FieldType.boolean)]
set_option maxRecDepth 65536 in
theorem codes_eq : words1.filter isCode = codes1 := rfl
theorem w_codes : ∀ c ∈ words1.filter isCode, c.before args0 about1 = true := by
  rw [codes_eq]
  intro c hc
  simp only [codes1, List.mem_cons, List.not_mem_nil, or_false] at hc
  rcases hc with rfl | rfl | rfl | rfl | rfl | rfl | rfl | rfl | rfl | rfl | rfl | rfl | rfl | rfl
  · exact w_c0
  · exact w_c1
  · exact w_c2
  · exact w_c3
  · exact w_c4
  · exact w_c5
  · exact w_c6
  · exact w_c7
  · exact w_c8
  · exact w_c9
  · exact w_c10
  · exact w_c11
  · exact w_c12
  · exact w_c13
set_option maxRecDepth 65536 in
theorem w_t1 : (words1.take 24).all (fun c => isCode c || c.before args0 about1) = true := by decide +kernel
set_option maxRecDepth 65536 in
theorem w_t2 : ((words1.drop 24).take 24).all (fun c => isCode c || c.before args0 about1) = true := by decide +kernel
set_option maxRecDepth 65536 in
theorem w_t3 : (((words1.drop 24).drop 24).take 24).all (fun c => isCode c || c.before args0 about1) = true := by decide +kernel
set_option maxRecDepth 65536 in
theorem w_t4 : (((words1.drop 24).drop 24).drop 24).all (fun c => isCode c || c.before args0 about1) = true := by decide +kernel
theorem w_tables : (allAtoms (Jvm.Cond.code x code maxLocals ret :: tables_1)).before args0 about1 = true := by
  rw [allAtoms_all]
  show words1.all (fun c => c.before args0 about1) = true
  refine all_split ?_ w_codes
  rw [← List.take_append_drop 24 words1, List.all_append, w_t1, ← List.take_append_drop 24 (words1.drop 24), List.all_append, w_t2, ← List.take_append_drop 24 ((words1.drop 24).drop 24), List.all_append, w_t3, w_t4]
  rfl
set_option maxRecDepth 65536 in
theorem w_case : (Jvm.Cond.and given_1 narrow_1).before args0 about1 = true := by decide +kernel
theorem w_applies : (headSpec (Jvm.Cond.code x code maxLocals ret :: tables_1) room_1).applies x e0.platform about1 = true :=
  (Spec.applies_iff w_frames).mpr ⟨w_running, w_runnable, w_alone, w_named, w_hears, w_ripe, w_room, w_tables⟩
theorem atStart : AtStart classFile x code maxLocals ret World_1 tables_1 room_1 Calls_1 rest_1 Pre_1 launch0 p0 e0 about1 theMethod args0 below0 :=
  ⟨lists_1, trivial, launch0.admits_env _ _ _, launch0.least_env, fairChoices_fair.cas, fairChoices_fair.clock, w_frames, w_args, w_heap, w_applies, trivial, trivial, w_case⟩
end start1
theorem witness_1 : WitnessClaimed_1 := ⟨start1.p0, start1.e0, start1.about1, start1.theMethod, start1.args0, start1.below0, start1.atStart⟩
end Jvm.Pilot.@@N@@
