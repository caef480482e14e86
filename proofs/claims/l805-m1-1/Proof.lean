import JvmDerived
import JvmDerived.Pilot.@@N@@Statement
import JvmDerived.Pilot.@@N@@Code
set_option linter.unusedVariables false
set_option linter.unusedSimpArgs false
@@BLOCK:HandJ.lean.txt@@
@@BLOCK:SymMore.lean.txt@@
namespace Jvm.OwnKit
open Sem ClassFile Op Lib Jvm.Stand Jvm.Free Jvm.LawKit Jvm.RoadKit
/-- what is fixed in the whole proof: the launch, the start (whose tables the words speak of), its arguments, the least new address -/
abbrev Gx := Launch × State × Array Value × Nat
abbrev Gx.l (G : Gx) : Launch := G.1
abbrev Gx.Z (G : Gx) : State := G.2.1
abbrev Gx.a0 (G : Gx) : Array Value := G.2.2.1
abbrev Gx.n0 (G : Gx) : Nat := G.2.2.2
/-- what is fixed in one body's walk -/
abbrev Kx := Program × Env × State × MethodId × Array Value × List Frame × Method × Code
abbrev Kx.p (K : Kx) : Program := K.1
abbrev Kx.e (K : Kx) : Env := K.2.1
abbrev Kx.s (K : Kx) : State := K.2.2.1
abbrev Kx.m (K : Kx) : MethodId := K.2.2.2.1
abbrev Kx.args (K : Kx) : Array Value := K.2.2.2.2.1
abbrev Kx.below (K : Kx) : List Frame := K.2.2.2.2.2.1
abbrev Kx.meth (K : Kx) : Method := K.2.2.2.2.2.2.1
abbrev Kx.c (K : Kx) : Code := K.2.2.2.2.2.2.2
def Cx (G : Gx) (K : Kx) (own nm : String) (bytes : ByteArray) (maxL : Nat) (ret : Option FieldType) (W : List Jvm.Cond) : Prop :=
  K.p.tables.exec = Jvm.exec ∧ G.Z.Warmed39 K.s.vm ∧ K.c.code = bytes ∧ K.c.maxLocals = maxL ∧ K.s.vm.findClass own = some K.m.cls ∧ K.meth.name = nm ∧ K.meth.sig.returnType = ret ∧ K.meth.locks = false ∧ ∀ d ∈ W, d.before G.a0 G.Z = true
section Cxs
variable {G : Gx} {K : Kx} {own nm : String} {bytes : ByteArray} {maxL : Nat} {ret : Option FieldType} {W : List Jvm.Cond}
theorem Cx.hx (C : Cx G K own nm bytes maxL ret W) : K.p.tables.exec = Jvm.exec := C.1
theorem Cx.hZ (C : Cx G K own nm bytes maxL ret W) : G.Z.Warmed39 K.s.vm := C.2.1
theorem Cx.by (C : Cx G K own nm bytes maxL ret W) : K.c.code = bytes := C.2.2.1
theorem Cx.ml (C : Cx G K own nm bytes maxL ret W) : K.c.maxLocals = maxL := C.2.2.2.1
theorem Cx.ow (C : Cx G K own nm bytes maxL ret W) : K.s.vm.findClass own = some K.m.cls := C.2.2.2.2.1
theorem Cx.name (C : Cx G K own nm bytes maxL ret W) : K.meth.name = nm := C.2.2.2.2.2.1
theorem Cx.rt (C : Cx G K own nm bytes maxL ret W) : K.meth.sig.returnType = ret := C.2.2.2.2.2.2.1
theorem Cx.lk (C : Cx G K own nm bytes maxL ret W) : K.meth.locks = false := C.2.2.2.2.2.2.2.1
theorem Cx.w (C : Cx G K own nm bytes maxL ret W) {i : Nat} {d : Jvm.Cond} (h : W[i]? = some d) : d.before G.a0 G.Z = true := C.2.2.2.2.2.2.2.2 d (List.mem_of_getElem? h)
end Cxs
/-- the run stands in this body at pc with these locals and this stack, over the heap h, having made so many cells and slots: it ends as Q says -/
def N (G : Gx) (K : Kx) (rm : Room) (Q : Option Value → Heap → Prop) (h : Heap) (cells slots pc : Nat) (ls : Array Slot) (st : List Value) : Prop :=
  ∀ (T : State) (locs : List Loc), Stand K.p G.l K.e rm K.s K.m K.args K.below K.meth K.c T locs cells slots → T.heap = h → Fr G.n0 locs →
    ∃ s₂ o, Steps K.p.tables K.e K.below (T.setTop (mkF K.m pc ls st)) s₂ ∧ s₂.status = .running ∧ Ended s₂ K.below o ∧ ∃ v L, o = .returned v ∧ (Q v s₂.heap ∧ Fr G.n0 L) ∧ FrameEnd K.s o s₂ L rm.cells rm.slots
/-- a body's contract -/
def Con (G : Gx) (y : MethodName) (bytes : ByteArray) (maxL : Nat) (ret : Option FieldType) (rm : Room) (as : Array Value) (h : Heap) (Q : Option Value → Heap → Prop) : Prop :=
  ∀ ws : List Jvm.Cond, MetFree G.l y (head1 (Jvm.Cond.code y bytes maxL ret :: ws) rm) (fun a U => a = as ∧ G.Z.Warmed39 U.vm ∧ U.heap = h) (fun _ _ _ _ _ => True) (fun _ U o U' => ∃ v L, o = .returned v ∧ (Q v U'.heap ∧ Fr G.n0 L) ∧ FrameEnd U o U' L rm.cells rm.slots)
theorem Con.of {G : Gx} {y : MethodName} {bytes : ByteArray} {maxL : Nat} {ret : Option FieldType} {rm : Room} {as : Array Value} {h : Heap} {Q : Option Value → Heap → Prop} {W : List Jvm.Cond} {ls : Array Slot} (hpl : plainFor y = true) (hW : ∀ d ∈ W, d.before G.a0 G.Z = true)
    (he : ∀ m, entryFrame m as maxL = mkF m 0 ls []) (body : ∀ K : Kx, Cx G K y.cls y.name bytes maxL ret W → N G K rm Q h 0 0 0 ls []) : Con G y bytes maxL ret rm as h Q := fun ws => by
  refine MetFree.of_bodySF hpl hisR ?_
  intro p e s m args below meth c s₁ Bd hml hP hK
  obtain ⟨rfl, hZ, hh⟩ := hP
  have X0 : Stand p G.l e rm s m args below meth c s₁ [] 0 0 := Stand.of_body Bd
  obtain ⟨s₂, o, h1, h2, h3, h4⟩ := body (p, e, s, m, args, below, meth, c) ⟨Bd.exec, hZ, Bd.bytes, hml, findClass_of_methodNamed Bd.named, (name_of_methodNamed Bd.named Bd.method).1, Bd.returns, BodyLoose.notSynchronized Bd, hW⟩ s₁ [] X0 (by rw [← hh, Bd.state]; rfl) (Fr.nil _)
  exact ⟨s₂, o, castTop (he m) h1, h2, h3, h4⟩
theorem Con.mono {G : Gx} {y : MethodName} {bytes : ByteArray} {maxL : Nat} {ret : Option FieldType} {rm : Room} {as : Array Value} {h : Heap} {Q Q' : Option Value → Heap → Prop} (M : Con G y bytes maxL ret rm as h Q) (f : ∀ v h', Q v h' → Q' v h') : Con G y bytes maxL ret rm as h Q' := fun ws p e ha hc hk s m args below hf happ hP hK => by
  obtain ⟨n, o, h1, h2, h3, v, L, h4, ⟨h5, h6⟩, h7⟩ := M ws p e ha hc hk s m args below hf happ hP hK
  exact ⟨n, o, h1, h2, h3, v, L, h4, ⟨f _ _ h5, h6⟩, h7⟩
def cmpP : ClassFile.Cond → Int32 → Int32 → Prop
  | .eq, x, y => x = y
  | .ne, x, y => ¬ x = y
  | .lt, x, y => x.toInt < y.toInt
  | .ge, x, y => y.toInt ≤ x.toInt
  | .gt, x, y => y.toInt < x.toInt
  | .le, x, y => x.toInt ≤ y.toInt
def cmpN : ClassFile.Cond → Int32 → Int32 → Prop
  | .eq, x, y => ¬ x = y
  | .ne, x, y => x = y
  | .lt, x, y => y.toInt ≤ x.toInt
  | .ge, x, y => x.toInt < y.toInt
  | .gt, x, y => x.toInt ≤ y.toInt
  | .le, x, y => y.toInt < x.toInt
theorem cmp_or (cd : ClassFile.Cond) (x y : Int32) : (if_icmp.holds cd x y = true ∧ cmpP cd x y) ∨ (if_icmp.holds cd x y = false ∧ cmpN cd x y) := by
  have e1 := @Int32.lt_iff_toInt_lt x y
  have e2 := @Int32.lt_iff_toInt_lt y x
  by_cases h1 : x < y
  · obtain ⟨a1, a2, a3, a4⟩ := tlt h1
    have q := e1.mp h1
    have n : ¬ x = y := fun e => by subst e; omega
    obtain ⟨b1, b2⟩ := feq n
    have n' : ¬ y < x := fun z => by have := e2.mp z; omega
    obtain ⟨c1, c2, c3, c4⟩ := flt n'
    cases cd <;> simp only [cmpP, cmpN] <;> simp_all <;> omega
  · obtain ⟨a1, a2, a3, a4⟩ := flt h1
    have q : ¬ x.toInt < y.toInt := fun z => h1 (e1.mpr z)
    by_cases h2 : x = y
    · obtain ⟨b1, b2⟩ := teq h2
      subst h2
      obtain ⟨c1, c2, c3, c4⟩ := flt h1
      cases cd <;> simp only [cmpP, cmpN] <;> simp_all
    · obtain ⟨b1, b2⟩ := feq h2
      have q2 : ¬ x.toInt = y.toInt := fun z => h2 (Int32.toInt_inj.mp z)
      obtain ⟨c1, c2, c3, c4⟩ := tlt (e2.mpr (by omega : y.toInt < x.toInt))
      cases cd <;> simp only [cmpP, cmpN] <;> simp_all <;> omega
def cmpPL : ClassFile.Cond → Int64 → Int64 → Prop
  | .eq, x, y => x = y
  | .ne, x, y => ¬ x = y
  | .lt, x, y => x.toInt < y.toInt
  | .ge, x, y => y.toInt ≤ x.toInt
  | .gt, x, y => y.toInt < x.toInt
  | .le, x, y => x.toInt ≤ y.toInt
def cmpNL : ClassFile.Cond → Int64 → Int64 → Prop
  | .eq, x, y => ¬ x = y
  | .ne, x, y => x = y
  | .lt, x, y => y.toInt ≤ x.toInt
  | .ge, x, y => x.toInt < y.toInt
  | .gt, x, y => x.toInt ≤ y.toInt
  | .le, x, y => y.toInt < x.toInt
theorem cmp_orL (cd : ClassFile.Cond) (x y : Int64) : (ifCond.holds cd (lcmpW x y) = true ∧ cmpPL cd x y) ∨ (ifCond.holds cd (lcmpW x y) = false ∧ cmpNL cd x y) := by
  have hl : (lcmpW x y).toInt < (0 : Int32).toInt ↔ x.toInt < y.toInt := by rw [← Int32.lt_iff_toInt_lt, ← Int64.lt_iff_toInt_lt]; exact lw_lt x y
  have hg : (0 : Int32).toInt < (lcmpW x y).toInt ↔ y.toInt < x.toInt := by rw [← Int32.lt_iff_toInt_lt, ← Int64.lt_iff_toInt_lt]; exact lw_gt x y
  have he := lw_eq x y
  generalize lcmpW x y = z at *
  rw [if0]
  rcases cmp_or cd z 0 with ⟨h1, h2⟩ | ⟨h1, h2⟩
  · refine Or.inl ⟨h1, ?_⟩
    cases cd <;> simp only [cmpP, cmpPL] at h2 ⊢ <;> first | exact he.mp h2 | exact fun q => h2 (he.mpr q) | omega
  · refine Or.inr ⟨h1, ?_⟩
    cases cd <;> simp only [cmpN, cmpNL] at h2 ⊢ <;> first | exact he.mp h2 | exact fun q => h2 (he.mpr q) | omega
/-- the array at x, of that type, holds just these -/
def Av (Z : State) (h : Heap) (x : Addr) (ty : FieldType) (vs : List Value) : Prop := ∃ c : Cell, Arr Z h x c ty ∧ c.slots.toList = vs
theorem ix {j : Int32} {i : Nat} (h : j.toInt = (i : Int)) : ¬ j < 0 ∧ j.toNatClampNeg = i := by
  refine ⟨fun q => ?_, ?_⟩
  · have := Int32.lt_iff_toInt_lt.mp q
    have e0 : (0 : Int32).toInt = 0 := by decide
    omega
  · show j.toInt.toNat = i
    omega
theorem ixin {j : Int32} {i n : Nat} (h : j.toInt = (i : Int)) (hi : i < n) : ¬ (j < 0 ∨ n ≤ j.toNatClampNeg) := by
  obtain ⟨h1, h2⟩ := ix h
  rintro (q | q)
  · exact h1 q
  · omega
theorem eqI {x y : Int32} (h : x = y) : x.toInt = y.toInt := h ▸ rfl
theorem neI {x y : Int32} (h : ¬ x = y) : ¬ x.toInt = y.toInt := fun q => h (Int32.toInt_inj.mp q)
theorem eqL {x y : Int64} (h : x = y) : x.toInt = y.toInt := h ▸ rfl
theorem neL {x y : Int64} (h : ¬ x = y) : ¬ x.toInt = y.toInt := fun q => h (Int64.toInt_inj.mp q)
section Avs
variable {Z : State} {h h' : Heap} {x y : Addr} {ty : FieldType} {vs : List Value} {i : Nat} {v : Value} {sl : Nat} {ws : List Addr}
theorem Av.lt (A : Av Z h x ty vs) : x < h.size := by obtain ⟨c, A, -⟩ := A; exact A.lt
theorem Av.ext (A : Av Z h x ty vs) (E : Ext h h') : Av Z h' x ty vs := by obtain ⟨c, A, r⟩ := A; exact ⟨c, A.ext E, r⟩
theorem Av.other (A : Av Z h x ty vs) (W : Wr h h' y sl v) (q : x ≠ y) : Av Z h' x ty vs := by obtain ⟨c, A, r⟩ := A; exact ⟨c, A.other W q, r⟩
theorem Av.keep (A : Av Z h x ty vs) (K : Keep h h' ws) (q : x ∉ ws) : Av Z h' x ty vs := by obtain ⟨c, A, r⟩ := A; exact ⟨c, ⟨K.2.1 x c A.1 q, A.2⟩, r⟩
theorem Av.same (A : Av Z h x ty vs) (W : Wr h h' x i v) : Av Z h' x ty (vs.set i v) := by
  obtain ⟨c, A, rfl⟩ := A
  exact ⟨_, A.same W, by simp [Cell.setSlot]⟩
theorem Av.new {k : ClassId} {z : Int32} (A : Arr Z h x (newA k ty z) ty) : Av Z h x ty (List.replicate z.toNatClampNeg (defaultValue ty)) := ⟨_, A, by simp [newA]⟩
end Avs
section Rules
variable {G : Gx} {K : Kx} {rm : Room} {own nm : String} {bytes : ByteArray} {maxL : Nat} {ret : Option FieldType} {W : List Jvm.Cond} {Q Q' : Option Value → Heap → Prop} {h : Heap} {a b pc pc' : Nat} {ls ls' : Array Slot} {st st' : List Value}
theorem N.step (f : ∀ T, At T K.m K.c K.below → ∀ t, Steps K.p.tables K.e K.below (T.setTop (mkF K.m pc' ls' st')) t → Steps K.p.tables K.e K.below (T.setTop (mkF K.m pc ls st)) t) (k : N G K rm Q h a b pc' ls' st') : N G K rm Q h a b pc ls st := fun T locs X e F => by
  obtain ⟨s₂, o, hs, r⟩ := k T locs X e F
  exact ⟨s₂, o, f T X.here _ hs, r⟩
theorem N.stX (f : ∀ (T : State) (locs : List Loc), Stand K.p G.l K.e rm K.s K.m K.args K.below K.meth K.c T locs a b → T.heap = h → ∀ t, Steps K.p.tables K.e K.below (T.setTop (mkF K.m pc' ls' st')) t → Steps K.p.tables K.e K.below (T.setTop (mkF K.m pc ls st)) t) (k : N G K rm Q h a b pc' ls' st') : N G K rm Q h a b pc ls st := fun T locs X e F => by
  obtain ⟨s₂, o, hs, r⟩ := k T locs X e F
  exact ⟨s₂, o, f T locs X e _ hs, r⟩
theorem N.mono (k : N G K rm Q h a b pc ls st) (f : ∀ v h', Q v h' → Q' v h') : N G K rm Q' h a b pc ls st := fun T locs X e F => by
  obtain ⟨s₂, o, h1, h2, h3, v, L, h4, ⟨h5, h6⟩, h7⟩ := k T locs X e F
  exact ⟨s₂, o, h1, h2, h3, v, L, h4, ⟨f _ _ h5, h6⟩, h7⟩
theorem N.more {a' b' : Nat} (k : N G K rm Q h a' b' pc ls st) (ha : a ≤ a') (hb : b ≤ b') : N G K rm Q h a b pc ls st := fun T locs X e F => k T locs (X.more ha hb) e F

theorem N.iload (C : Cx G K own nm bytes maxL ret W) {k : Nat} {v : Int32} (hd : decode bytes pc = .ok (.iload k, 2)) (hl : ls[k]? = some (.val (.int v))) (hp : pc + 2 = pc') (k : N G K rm Q h a b pc' ls (.int v :: st)) : N G K rm Q h a b pc ls (st) := by
  subst hp; exact N.step (fun T A t ht => XS.iload A C.hx rfl (hb C.by hd) hl ht) k
theorem N.iloadN (C : Cx G K own nm bytes maxL ret W) {k : Fin 4} {v : Int32} (hd : decode bytes pc = .ok (.iload_n k, 1)) (hl : ls[k.val]? = some (.val (.int v))) (hp : pc + 1 = pc') (k : N G K rm Q h a b pc' ls (.int v :: st)) : N G K rm Q h a b pc ls (st) := by
  subst hp; exact N.step (fun T A t ht => XS.iloadN A C.hx rfl (hb C.by hd) hl ht) k
theorem N.istore (C : Cx G K own nm bytes maxL ret W) {k : Nat} {v : Int32} (hd : decode bytes pc = .ok (.istore k, 2)) (hl : storeLocals ls k (.int v) = some ls') (hp : pc + 2 = pc') (k : N G K rm Q h a b pc' ls' (st)) : N G K rm Q h a b pc ls (.int v :: st) := by
  subst hp; exact N.step (fun T A t ht => XS.istore A C.hx rfl (hb C.by hd) rfl hl ht) k
theorem N.istoreN (C : Cx G K own nm bytes maxL ret W) {k : Fin 4} {v : Int32} (hd : decode bytes pc = .ok (.istore_n k, 1)) (hl : storeLocals ls k.val (.int v) = some ls') (hp : pc + 1 = pc') (k : N G K rm Q h a b pc' ls' (st)) : N G K rm Q h a b pc ls (.int v :: st) := by
  subst hp; exact N.step (fun T A t ht => XS.istoreN A C.hx rfl (hb C.by hd) rfl hl ht) k
theorem N.iadd (C : Cx G K own nm bytes maxL ret W) {x y : Int32} (hd : decode bytes pc = .ok (.iadd, 1)) (hp : pc + 1 = pc') (k : N G K rm Q h a b pc' ls (.int (x + y) :: st)) : N G K rm Q h a b pc ls (.int y :: .int x :: st) := by
  subst hp; exact N.step (fun T A t ht => XS.iadd A C.hx rfl (hb C.by hd) rfl ht) k
theorem N.isub (C : Cx G K own nm bytes maxL ret W) {x y : Int32} (hd : decode bytes pc = .ok (.isub, 1)) (hp : pc + 1 = pc') (k : N G K rm Q h a b pc' ls (.int (x - y) :: st)) : N G K rm Q h a b pc ls (.int y :: .int x :: st) := by
  subst hp; exact N.step (fun T A t ht => XS.isub A C.hx rfl (hb C.by hd) rfl ht) k
theorem N.imul (C : Cx G K own nm bytes maxL ret W) {x y : Int32} (hd : decode bytes pc = .ok (.imul, 1)) (hp : pc + 1 = pc') (k : N G K rm Q h a b pc' ls (.int (x * y) :: st)) : N G K rm Q h a b pc ls (.int y :: .int x :: st) := by
  subst hp; exact N.step (fun T A t ht => XS.imul A C.hx rfl (hb C.by hd) rfl ht) k
theorem N.iand (C : Cx G K own nm bytes maxL ret W) {x y : Int32} (hd : decode bytes pc = .ok (.iand, 1)) (hp : pc + 1 = pc') (k : N G K rm Q h a b pc' ls (.int (x &&& y) :: st)) : N G K rm Q h a b pc ls (.int y :: .int x :: st) := by
  subst hp; exact N.step (fun T A t ht => XS.iand A C.hx rfl (hb C.by hd) rfl ht) k
theorem N.ior (C : Cx G K own nm bytes maxL ret W) {x y : Int32} (hd : decode bytes pc = .ok (.ior, 1)) (hp : pc + 1 = pc') (k : N G K rm Q h a b pc' ls (.int (x ||| y) :: st)) : N G K rm Q h a b pc ls (.int y :: .int x :: st) := by
  subst hp; exact N.step (fun T A t ht => XS.ior A C.hx rfl (hb C.by hd) rfl ht) k
theorem N.ixor (C : Cx G K own nm bytes maxL ret W) {x y : Int32} (hd : decode bytes pc = .ok (.ixor, 1)) (hp : pc + 1 = pc') (k : N G K rm Q h a b pc' ls (.int (x ^^^ y) :: st)) : N G K rm Q h a b pc ls (.int y :: .int x :: st) := by
  subst hp; exact N.step (fun T A t ht => XS.ixor A C.hx rfl (hb C.by hd) rfl ht) k
theorem N.idiv (C : Cx G K own nm bytes maxL ret W) {x y : Int32} (hd : decode bytes pc = .ok (.idiv, 1)) (hy : y ≠ 0) (hp : pc + 1 = pc') (k : N G K rm Q h a b pc' ls (.int (x / y) :: st)) : N G K rm Q h a b pc ls (.int y :: .int x :: st) := by
  subst hp; exact N.step (fun T A t ht => XS.idiv A C.hx rfl (hb C.by hd) rfl hy ht) k
theorem N.ineg (C : Cx G K own nm bytes maxL ret W) {x : Int32} (hd : decode bytes pc = .ok (.ineg, 1)) (hp : pc + 1 = pc') (k : N G K rm Q h a b pc' ls (.int (-x) :: st)) : N G K rm Q h a b pc ls (.int x :: st) := by
  subst hp; exact N.step (fun T A t ht => XS.ineg A C.hx rfl (hb C.by hd) rfl ht) k
theorem N.lload (C : Cx G K own nm bytes maxL ret W) {k : Nat} {v : Int64} (hd : decode bytes pc = .ok (.lload k, 2)) (hl : ls[k]? = some (.val (.long v))) (hp : pc + 2 = pc') (k : N G K rm Q h a b pc' ls (.long v :: st)) : N G K rm Q h a b pc ls (st) := by
  subst hp; exact N.step (fun T A t ht => XS.lload A C.hx rfl (hb C.by hd) hl ht) k
theorem N.lloadN (C : Cx G K own nm bytes maxL ret W) {k : Fin 4} {v : Int64} (hd : decode bytes pc = .ok (.lload_n k, 1)) (hl : ls[k.val]? = some (.val (.long v))) (hp : pc + 1 = pc') (k : N G K rm Q h a b pc' ls (.long v :: st)) : N G K rm Q h a b pc ls (st) := by
  subst hp; exact N.step (fun T A t ht => XS.lloadN A C.hx rfl (hb C.by hd) hl ht) k
theorem N.lstore (C : Cx G K own nm bytes maxL ret W) {k : Nat} {v : Int64} (hd : decode bytes pc = .ok (.lstore k, 2)) (hl : storeLocals ls k (.long v) = some ls') (hp : pc + 2 = pc') (k : N G K rm Q h a b pc' ls' (st)) : N G K rm Q h a b pc ls (.long v :: st) := by
  subst hp; exact N.step (fun T A t ht => XS.lstore A C.hx rfl (hb C.by hd) rfl hl ht) k
theorem N.lstoreN (C : Cx G K own nm bytes maxL ret W) {k : Fin 4} {v : Int64} (hd : decode bytes pc = .ok (.lstore_n k, 1)) (hl : storeLocals ls k.val (.long v) = some ls') (hp : pc + 1 = pc') (k : N G K rm Q h a b pc' ls' (st)) : N G K rm Q h a b pc ls (.long v :: st) := by
  subst hp; exact N.step (fun T A t ht => XS.lstoreN A C.hx rfl (hb C.by hd) rfl hl ht) k
theorem N.ladd (C : Cx G K own nm bytes maxL ret W) {x y : Int64} (hd : decode bytes pc = .ok (.ladd, 1)) (hp : pc + 1 = pc') (k : N G K rm Q h a b pc' ls (.long (x + y) :: st)) : N G K rm Q h a b pc ls (.long y :: .long x :: st) := by
  subst hp; exact N.step (fun T A t ht => XS.ladd A C.hx rfl (hb C.by hd) rfl ht) k
theorem N.lsub (C : Cx G K own nm bytes maxL ret W) {x y : Int64} (hd : decode bytes pc = .ok (.lsub, 1)) (hp : pc + 1 = pc') (k : N G K rm Q h a b pc' ls (.long (x - y) :: st)) : N G K rm Q h a b pc ls (.long y :: .long x :: st) := by
  subst hp; exact N.step (fun T A t ht => XS.lsub A C.hx rfl (hb C.by hd) rfl ht) k
theorem N.lmul (C : Cx G K own nm bytes maxL ret W) {x y : Int64} (hd : decode bytes pc = .ok (.lmul, 1)) (hp : pc + 1 = pc') (k : N G K rm Q h a b pc' ls (.long (x * y) :: st)) : N G K rm Q h a b pc ls (.long y :: .long x :: st) := by
  subst hp; exact N.step (fun T A t ht => XS.lmul A C.hx rfl (hb C.by hd) rfl ht) k
theorem N.land (C : Cx G K own nm bytes maxL ret W) {x y : Int64} (hd : decode bytes pc = .ok (.land, 1)) (hp : pc + 1 = pc') (k : N G K rm Q h a b pc' ls (.long (x &&& y) :: st)) : N G K rm Q h a b pc ls (.long y :: .long x :: st) := by
  subst hp; exact N.step (fun T A t ht => XS.land A C.hx rfl (hb C.by hd) rfl ht) k
theorem N.lor (C : Cx G K own nm bytes maxL ret W) {x y : Int64} (hd : decode bytes pc = .ok (.lor, 1)) (hp : pc + 1 = pc') (k : N G K rm Q h a b pc' ls (.long (x ||| y) :: st)) : N G K rm Q h a b pc ls (.long y :: .long x :: st) := by
  subst hp; exact N.step (fun T A t ht => XS.lor A C.hx rfl (hb C.by hd) rfl ht) k
theorem N.lxor (C : Cx G K own nm bytes maxL ret W) {x y : Int64} (hd : decode bytes pc = .ok (.lxor, 1)) (hp : pc + 1 = pc') (k : N G K rm Q h a b pc' ls (.long (x ^^^ y) :: st)) : N G K rm Q h a b pc ls (.long y :: .long x :: st) := by
  subst hp; exact N.step (fun T A t ht => XS.lxor A C.hx rfl (hb C.by hd) rfl ht) k
theorem N.ldiv (C : Cx G K own nm bytes maxL ret W) {x y : Int64} (hd : decode bytes pc = .ok (.ldiv, 1)) (hy : y ≠ 0) (hp : pc + 1 = pc') (k : N G K rm Q h a b pc' ls (.long (x / y) :: st)) : N G K rm Q h a b pc ls (.long y :: .long x :: st) := by
  subst hp; exact N.step (fun T A t ht => XS.ldiv A C.hx rfl (hb C.by hd) rfl hy ht) k
theorem N.lneg (C : Cx G K own nm bytes maxL ret W) {x : Int64} (hd : decode bytes pc = .ok (.lneg, 1)) (hp : pc + 1 = pc') (k : N G K rm Q h a b pc' ls (.long (-x) :: st)) : N G K rm Q h a b pc ls (.long x :: st) := by
  subst hp; exact N.step (fun T A t ht => XS.lneg A C.hx rfl (hb C.by hd) rfl ht) k
theorem N.irem (C : Cx G K own nm bytes maxL ret W) {x y : Int32} (hd : decode bytes pc = .ok (.irem, 1)) (hy : y ≠ 0) (hp : pc + 1 = pc') (k : N G K rm Q h a b pc' ls (.int (x % y) :: st)) : N G K rm Q h a b pc ls (.int y :: .int x :: st) := by
  subst hp; exact N.step (fun T A t ht => XS.irem A C.hx rfl (hb C.by hd) rfl hy (by rw [irem_eq_mod]; exact ht)) k
theorem N.lrem (C : Cx G K own nm bytes maxL ret W) {x y : Int64} (hd : decode bytes pc = .ok (.lrem, 1)) (hy : y ≠ 0) (hp : pc + 1 = pc') (k : N G K rm Q h a b pc' ls (.long (x % y) :: st)) : N G K rm Q h a b pc ls (.long y :: .long x :: st) := by
  subst hp; exact N.step (fun T A t ht => XS.lrem A C.hx rfl (hb C.by hd) rfl hy (by rw [lrem_mod]; exact ht)) k
theorem N.aload (C : Cx G K own nm bytes maxL ret W) {k : Nat} {v : Value} (hd : decode bytes pc = .ok (.aload k, 2)) (hl : ls[k]? = some (.val v)) (hv : v.isRef = true) (hp : pc + 2 = pc') (k : N G K rm Q h a b pc' ls (v :: st)) : N G K rm Q h a b pc ls (st) := by
  subst hp; exact N.step (fun T A t ht => XS.aload A C.hx rfl (hb C.by hd) hl hv ht) k
theorem N.aloadN (C : Cx G K own nm bytes maxL ret W) {k : Fin 4} {v : Value} (hd : decode bytes pc = .ok (.aload_n k, 1)) (hl : ls[k.val]? = some (.val v)) (hv : v.isRef = true) (hp : pc + 1 = pc') (k : N G K rm Q h a b pc' ls (v :: st)) : N G K rm Q h a b pc ls (st) := by
  subst hp; exact N.step (fun T A t ht => XS.aloadN A C.hx rfl (hb C.by hd) hl hv ht) k
theorem N.astore (C : Cx G K own nm bytes maxL ret W) {k : Nat} {v : Value} (hd : decode bytes pc = .ok (.astore k, 2)) (hv : v.isRef = true) (hl : storeLocals ls k v = some ls') (hp : pc + 2 = pc') (k : N G K rm Q h a b pc' ls' (st)) : N G K rm Q h a b pc ls (v :: st) := by
  subst hp; exact N.step (fun T A t ht => XS.astore A C.hx rfl (hb C.by hd) rfl hv hl ht) k
theorem N.astoreN (C : Cx G K own nm bytes maxL ret W) {k : Fin 4} {v : Value} (hd : decode bytes pc = .ok (.astore_n k, 1)) (hv : v.isRef = true) (hl : storeLocals ls k.val v = some ls') (hp : pc + 1 = pc') (k : N G K rm Q h a b pc' ls' (st)) : N G K rm Q h a b pc ls (v :: st) := by
  subst hp; exact N.step (fun T A t ht => XS.astoreN A C.hx rfl (hb C.by hd) rfl hv hl ht) k
theorem N.iconst (C : Cx G K own nm bytes maxL ret W) {i : Int} {z : Int32} (hd : decode bytes pc = .ok (.iconst i, 1)) (hz : Int32.ofInt i = z) (hp : pc + 1 = pc') (k : N G K rm Q h a b pc' ls (.int z :: st)) : N G K rm Q h a b pc ls st := by
  subst hp hz; exact N.step (fun T A t ht => XS.iconst A C.hx rfl (hb C.by hd) ht) k
theorem N.bipush (C : Cx G K own nm bytes maxL ret W) {i : Int} {z : Int32} (hd : decode bytes pc = .ok (.bipush i, 2)) (hz : (Int8.ofInt i).toInt32 = z) (hp : pc + 2 = pc') (k : N G K rm Q h a b pc' ls (.int z :: st)) : N G K rm Q h a b pc ls st := by
  subst hp hz; exact N.step (fun T A t ht => XS.bipush A C.hx rfl (hb C.by hd) ht) k
theorem N.sipush (C : Cx G K own nm bytes maxL ret W) {i : Int} {z : Int32} (hd : decode bytes pc = .ok (.sipush i, 3)) (hz : (Int16.ofInt i).toInt32 = z) (hp : pc + 3 = pc') (k : N G K rm Q h a b pc' ls (.int z :: st)) : N G K rm Q h a b pc ls st := by
  subst hp hz; exact N.step (fun T A t ht => XS.sipush A C.hx rfl (hb C.by hd) ht) k
theorem N.lconst (C : Cx G K own nm bytes maxL ret W) {k : Fin 2} {z : Int64} (hd : decode bytes pc = .ok (.lconst k, 1)) (hz : Int64.ofNat k = z) (hp : pc + 1 = pc') (k : N G K rm Q h a b pc' ls (.long z :: st)) : N G K rm Q h a b pc ls st := by
  subst hp hz; exact N.step (fun T A t ht => XS.lconst A C.hx rfl (hb C.by hd) ht) k
theorem N.aconst_null (C : Cx G K own nm bytes maxL ret W)  (hd : decode bytes pc = .ok (.aconst_null, 1)) (hp : pc + 1 = pc') (k : N G K rm Q h a b pc' ls (.null :: st)) : N G K rm Q h a b pc ls (st) := by
  subst hp; exact N.step (fun T A t ht => XS.aconstNull A C.hx rfl (hb C.by hd)  ht) k
theorem N.dup (C : Cx G K own nm bytes maxL ret W) {v : Value} (hd : decode bytes pc = .ok (.dup, 1)) (hc : v.category = 1) (hp : pc + 1 = pc') (k : N G K rm Q h a b pc' ls (v :: v :: st)) : N G K rm Q h a b pc ls (v :: st) := by
  subst hp; exact N.step (fun T A t ht => XS.dup A C.hx rfl (hb C.by hd) rfl hc ht) k
theorem N.pop (C : Cx G K own nm bytes maxL ret W) {v : Value} (hd : decode bytes pc = .ok (.pop, 1)) (hc : v.category = 1) (hp : pc + 1 = pc') (k : N G K rm Q h a b pc' ls (st)) : N G K rm Q h a b pc ls (v :: st) := by
  subst hp; exact N.step (fun T A t ht => XS.pop A C.hx rfl (hb C.by hd) rfl hc ht) k
theorem N.dup_x1 (C : Cx G K own nm bytes maxL ret W) {v w : Value} (hd : decode bytes pc = .ok (.dup_x1, 1)) (hc : v.category = 1) (hc' : w.category = 1) (hp : pc + 1 = pc') (k : N G K rm Q h a b pc' ls (v :: w :: v :: st)) : N G K rm Q h a b pc ls (v :: w :: st) := by
  subst hp; exact N.step (fun T A t ht => XS.dupX1 A C.hx rfl (hb C.by hd) rfl hc hc' ht) k
theorem N.dup2 (C : Cx G K own nm bytes maxL ret W) {v w : Value} (hd : decode bytes pc = .ok (.dup2, 1)) (hc : v.category = 1) (hc' : w.category = 1) (hp : pc + 1 = pc') (k : N G K rm Q h a b pc' ls (v :: w :: v :: w :: st)) : N G K rm Q h a b pc ls (v :: w :: st) := by
  subst hp; exact N.step (fun T A t ht => XT.dup2 A C.hx rfl (hb C.by hd) rfl hc hc' ht) k
theorem N.dup2L (C : Cx G K own nm bytes maxL ret W) {x : Int64} (hd : decode bytes pc = .ok (.dup2, 1)) (hp : pc + 1 = pc') (k : N G K rm Q h a b pc' ls (.long x :: .long x :: st)) : N G K rm Q h a b pc ls (.long x :: st) := by
  subst hp; exact N.step (fun T A t ht => XT.dup2L A C.hx rfl (hb C.by hd) rfl ht) k
theorem N.i2l (C : Cx G K own nm bytes maxL ret W) {x : Int32} (hd : decode bytes pc = .ok (.i2l, 1)) (hp : pc + 1 = pc') (k : N G K rm Q h a b pc' ls (.long (x.toInt64) :: st)) : N G K rm Q h a b pc ls (.int x :: st) := by
  subst hp; exact N.step (fun T A t ht => XS.i2l A C.hx rfl (hb C.by hd) rfl ht) k
theorem N.l2i (C : Cx G K own nm bytes maxL ret W) {x : Int64} (hd : decode bytes pc = .ok (.l2i, 1)) (hp : pc + 1 = pc') (k : N G K rm Q h a b pc' ls (.int (x.toInt32) :: st)) : N G K rm Q h a b pc ls (.long x :: st) := by
  subst hp; exact N.step (fun T A t ht => XS.l2i A C.hx rfl (hb C.by hd) rfl ht) k
theorem N.i2b (C : Cx G K own nm bytes maxL ret W) {x : Int32} (hd : decode bytes pc = .ok (.i2b, 1)) (hp : pc + 1 = pc') (k : N G K rm Q h a b pc' ls (.int (x.toInt8.toInt32) :: st)) : N G K rm Q h a b pc ls (.int x :: st) := by
  subst hp; exact N.step (fun T A t ht => XS.i2b A C.hx rfl (hb C.by hd) rfl ht) k
theorem N.i2s (C : Cx G K own nm bytes maxL ret W) {x : Int32} (hd : decode bytes pc = .ok (.i2s, 1)) (hp : pc + 1 = pc') (k : N G K rm Q h a b pc' ls (.int (x.toInt16.toInt32) :: st)) : N G K rm Q h a b pc ls (.int x :: st) := by
  subst hp; exact N.step (fun T A t ht => XS.i2s A C.hx rfl (hb C.by hd) rfl ht) k
theorem N.i2c (C : Cx G K own nm bytes maxL ret W) {x : Int32} (hd : decode bytes pc = .ok (.i2c, 1)) (hp : pc + 1 = pc') (k : N G K rm Q h a b pc' ls (.int (x.toUInt32.toUInt16.toUInt32.toInt32) :: st)) : N G K rm Q h a b pc ls (.int x :: st) := by
  subst hp; exact N.step (fun T A t ht => XS.i2c A C.hx rfl (hb C.by hd) rfl ht) k
theorem N.ishl (C : Cx G K own nm bytes maxL ret W) {x y : Int32} (hd : decode bytes pc = .ok (.ishl, 1)) (hp : pc + 1 = pc') (k : N G K rm Q h a b pc' ls (.int (x <<< (y &&& 31)) :: st)) : N G K rm Q h a b pc ls (.int y :: .int x :: st) := by
  subst hp; exact N.step (fun T A t ht => XS.ishl A C.hx rfl (hb C.by hd) rfl ht) k
theorem N.ishr (C : Cx G K own nm bytes maxL ret W) {x y : Int32} (hd : decode bytes pc = .ok (.ishr, 1)) (hp : pc + 1 = pc') (k : N G K rm Q h a b pc' ls (.int (x >>> (y &&& 31)) :: st)) : N G K rm Q h a b pc ls (.int y :: .int x :: st) := by
  subst hp; exact N.step (fun T A t ht => XS.ishr A C.hx rfl (hb C.by hd) rfl ht) k
theorem N.iushr (C : Cx G K own nm bytes maxL ret W) {x y : Int32} (hd : decode bytes pc = .ok (.iushr, 1)) (hp : pc + 1 = pc') (k : N G K rm Q h a b pc' ls (.int ((x.toUInt32 >>> (y &&& 31).toUInt32).toInt32) :: st)) : N G K rm Q h a b pc ls (.int y :: .int x :: st) := by
  subst hp; exact N.step (fun T A t ht => XS.iushr A C.hx rfl (hb C.by hd) rfl ht) k
theorem N.lshl (C : Cx G K own nm bytes maxL ret W) {x : Int64} {y : Int32} (hd : decode bytes pc = .ok (.lshl, 1)) (hp : pc + 1 = pc') (k : N G K rm Q h a b pc' ls (.long (x <<< (y &&& 0x3f).toInt64) :: st)) : N G K rm Q h a b pc ls (.int y :: .long x :: st) := by
  subst hp; exact N.step (fun T A t ht => XS.lshl A C.hx rfl (hb C.by hd) rfl ht) k
theorem N.lshr (C : Cx G K own nm bytes maxL ret W) {x : Int64} {y : Int32} (hd : decode bytes pc = .ok (.lshr, 1)) (hp : pc + 1 = pc') (k : N G K rm Q h a b pc' ls (.long (x >>> (y &&& 0x3f).toInt64) :: st)) : N G K rm Q h a b pc ls (.int y :: .long x :: st) := by
  subst hp; exact N.step (fun T A t ht => XS.lshr A C.hx rfl (hb C.by hd) rfl ht) k
theorem N.lushr (C : Cx G K own nm bytes maxL ret W) {x : Int64} {y : Int32} (hd : decode bytes pc = .ok (.lushr, 1)) (hp : pc + 1 = pc') (k : N G K rm Q h a b pc' ls (.long ((x.toUInt64 >>> (y &&& 0x3f).toInt64.toUInt64).toInt64) :: st)) : N G K rm Q h a b pc ls (.int y :: .long x :: st) := by
  subst hp; exact N.step (fun T A t ht => XS.lushr A C.hx rfl (hb C.by hd) rfl ht) k
theorem N.dload (C : Cx G K own nm bytes maxL ret W) {k : Nat} {v : UInt64} (hd : decode bytes pc = .ok (.dload k, 2)) (hl : ls[k]? = some (.val (.double v))) (hp : pc + 2 = pc') (k : N G K rm Q h a b pc' ls (.double v :: st)) : N G K rm Q h a b pc ls (st) := by
  subst hp; exact N.step (fun T A t ht => XS.dload A C.hx rfl (hb C.by hd) hl ht) k
theorem N.dloadN (C : Cx G K own nm bytes maxL ret W) {k : Fin 4} {v : UInt64} (hd : decode bytes pc = .ok (.dload_n k, 1)) (hl : ls[k.val]? = some (.val (.double v))) (hp : pc + 1 = pc') (k : N G K rm Q h a b pc' ls (.double v :: st)) : N G K rm Q h a b pc ls (st) := by
  subst hp; exact N.step (fun T A t ht => XS.dloadN A C.hx rfl (hb C.by hd) hl ht) k
theorem N.dstore (C : Cx G K own nm bytes maxL ret W) {k : Nat} {v : UInt64} (hd : decode bytes pc = .ok (.dstore k, 2)) (hl : storeLocals ls k (.double v) = some ls') (hp : pc + 2 = pc') (k : N G K rm Q h a b pc' ls' (st)) : N G K rm Q h a b pc ls (.double v :: st) := by
  subst hp; exact N.step (fun T A t ht => XS.dstore A C.hx rfl (hb C.by hd) rfl hl ht) k
theorem N.dstoreN (C : Cx G K own nm bytes maxL ret W) {k : Fin 4} {v : UInt64} (hd : decode bytes pc = .ok (.dstore_n k, 1)) (hl : storeLocals ls k.val (.double v) = some ls') (hp : pc + 1 = pc') (k : N G K rm Q h a b pc' ls' (st)) : N G K rm Q h a b pc ls (.double v :: st) := by
  subst hp; exact N.step (fun T A t ht => XS.dstoreN A C.hx rfl (hb C.by hd) rfl hl ht) k
theorem N.i2d (C : Cx G K own nm bytes maxL ret W) {x : Int32} (hd : decode bytes pc = .ok (.i2d, 1)) (hp : pc + 1 = pc') (k : N G K rm Q h a b pc' ls (.double (FP.i2d x) :: st)) : N G K rm Q h a b pc ls (.int x :: st) := by
  subst hp; exact N.step (fun T A t ht => XS.i2dS A C.hx rfl (hb C.by hd) rfl rfl ht) k
theorem N.dcmp (C : Cx G K own nm bytes maxL ret W) {o : CmpOp} {x y : UInt64} (hd : decode bytes pc = .ok (.dcmp o, 1)) (hp : pc + 1 = pc') (k : N G K rm Q h a b pc' ls (.int (cmpValue (FP.dcmp x y) o) :: st)) : N G K rm Q h a b pc ls (.double y :: .double x :: st) := by
  subst hp; exact N.step (fun T A t ht => XS.dcmpS A C.hx rfl (hb C.by hd) rfl rfl ht) k
theorem N.dup2_x1L (C : Cx G K own nm bytes maxL ret W) {x : Int64} {y : Addr} (hd : decode bytes pc = .ok (.dup2_x1, 1)) (hp : pc + 1 = pc') (k : N G K rm Q h a b pc' ls (.long x :: .ref y :: .long x :: st)) : N G K rm Q h a b pc ls (.long x :: .ref y :: st) := by
  subst hp
  refine N.step (fun T A t ht => ?_) k
  have hx := C.hx
  have hd' := hb C.by hd
  jvm_step A [A.top, hx, hd', Value.category]
  exact ht
theorem N.lcmp (C : Cx G K own nm bytes maxL ret W) {x y : Int64} (hd : decode bytes pc = .ok (.lcmp, 1)) (hp : pc + 1 = pc') (k : N G K rm Q h a b pc' ls (.int (lcmpW x y) :: st)) : N G K rm Q h a b pc ls (.long y :: .long x :: st) := by
  subst hp; exact N.step (fun T A t ht => XS.lcmp A C.hx rfl (hb C.by hd) rfl ht) k
theorem N.iinc (C : Cx G K own nm bytes maxL ret W) {k : Nat} {cst : Int} {x z : Int32} (hd : decode bytes pc = .ok (.iinc k cst, 3)) (hl : ls[k]? = some (.val (.int x))) (hz : Int32.ofInt cst = z) (hl' : storeLocals ls k (.int (x + z)) = some ls') (hp : pc + 3 = pc') (k : N G K rm Q h a b pc' ls' st) : N G K rm Q h a b pc ls st := by
  subst hp hz; exact N.step (fun T A t ht => XS.iinc A C.hx rfl (hb C.by hd) hl hl' ht) k
theorem N.goto (C : Cx G K own nm bytes maxL ret W) {o : Int} (hd : decode bytes pc = .ok (.goto o, 3)) (hp : (pc : Int) + o = (pc' : Nat)) (k : N G K rm Q h a b pc' ls st) : N G K rm Q h a b pc ls st :=
  N.step (fun T A t ht => XS.goto A C.hx rfl (pc0 := pc) rfl (hb C.by hd) (by omega) (by omega) ht) k
theorem N.icmp (C : Cx G K own nm bytes maxL ret W) {cd : ClassFile.Cond} {o : Int} {x y : Int32} {pt pf : Nat} (hd : decode bytes pc = .ok (.if_icmp cd o, 3)) (ht : (pc : Int) + o = (pt : Nat)) (hf : pc + 3 = pf) (kt : cmpP cd x y → N G K rm Q h a b pt ls st) (kf : cmpN cd x y → N G K rm Q h a b pf ls st) : N G K rm Q h a b pc ls (.int y :: .int x :: st) := by
  subst hf
  rcases cmp_or cd x y with ⟨h1, h2⟩ | ⟨h1, h2⟩
  · exact N.step (fun T A t k => XS.icmpYes A C.hx rfl (pc0 := pc) rfl (hb C.by hd) rfl h1 (by omega) (by omega) k) (kt h2)
  · exact N.step (fun T A t k => XS.icmpNo A C.hx rfl (hb C.by hd) rfl h1 k) (kf h2)
theorem N.ifc (C : Cx G K own nm bytes maxL ret W) {cd : ClassFile.Cond} {o : Int} {x : Int32} {pt pf : Nat} (hd : decode bytes pc = .ok (.ifCond cd o, 3)) (ht : (pc : Int) + o = (pt : Nat)) (hf : pc + 3 = pf) (kt : cmpP cd x 0 → N G K rm Q h a b pt ls st) (kf : cmpN cd x 0 → N G K rm Q h a b pf ls st) : N G K rm Q h a b pc ls (.int x :: st) := by
  subst hf
  rcases cmp_or cd x 0 with ⟨h1, h2⟩ | ⟨h1, h2⟩
  · exact N.step (fun T A t k => XS.ifYes A C.hx rfl (pc0 := pc) rfl (hb C.by hd) rfl ((if0 _ _).trans h1) (by omega) (by omega) k) (kt h2)
  · exact N.step (fun T A t k => XS.ifNo A C.hx rfl (hb C.by hd) rfl ((if0 _ _).trans h1) k) (kf h2)
/-- behind lcmp -/
theorem N.lif (C : Cx G K own nm bytes maxL ret W) {cd : ClassFile.Cond} {o : Int} {x y : Int64} {pt pf : Nat} (hd : decode bytes pc = .ok (.ifCond cd o, 3)) (ht : (pc : Int) + o = (pt : Nat)) (hf : pc + 3 = pf) (kt : cmpPL cd x y → N G K rm Q h a b pt ls st) (kf : cmpNL cd x y → N G K rm Q h a b pf ls st) : N G K rm Q h a b pc ls (.int (lcmpW x y) :: st) := by
  subst hf
  rcases cmp_orL cd x y with ⟨h1, h2⟩ | ⟨h1, h2⟩
  · exact N.step (fun T A t k => XS.ifYes A C.hx rfl (pc0 := pc) rfl (hb C.by hd) rfl h1 (by omega) (by omega) k) (kt h2)
  · exact N.step (fun T A t k => XS.ifNo A C.hx rfl (hb C.by hd) rfl h1 k) (kf h2)
theorem N.ifnull0 (C : Cx G K own nm bytes maxL ret W) {o : Int} (hd : decode bytes pc = .ok (.ifnull o, 3)) (ht : (pc : Int) + o = (pc' : Nat)) (k : N G K rm Q h a b pc' ls st) : N G K rm Q h a b pc ls (.null :: st) :=
  N.step (fun T A t k => XS.ifnullYes A C.hx rfl (pc0 := pc) rfl (hb C.by hd) rfl (by omega) (by omega) k) k
theorem N.ifnull1 (C : Cx G K own nm bytes maxL ret W) {o : Int} {x : Addr} (hd : decode bytes pc = .ok (.ifnull o, 3)) (hp : pc + 3 = pc') (k : N G K rm Q h a b pc' ls st) : N G K rm Q h a b pc ls (.ref x :: st) := by
  subst hp; exact N.step (fun T A t k => XS.ifnullNo A C.hx rfl (hb C.by hd) rfl k) k
theorem N.ifnonnull1 (C : Cx G K own nm bytes maxL ret W) {o : Int} {x : Addr} (hd : decode bytes pc = .ok (.ifnonnull o, 3)) (ht : (pc : Int) + o = (pc' : Nat)) (k : N G K rm Q h a b pc' ls st) : N G K rm Q h a b pc ls (.ref x :: st) :=
  N.step (fun T A t k => XS.ifnonnullYes A C.hx rfl (pc0 := pc) rfl (hb C.by hd) rfl (by omega) (by omega) k) k
theorem N.ifnonnull0 (C : Cx G K own nm bytes maxL ret W) {o : Int} (hd : decode bytes pc = .ok (.ifnonnull o, 3)) (hp : pc + 3 = pc') (k : N G K rm Q h a b pc' ls st) : N G K rm Q h a b pc ls (.null :: st) := by
  subst hp; exact N.step (fun T A t k => XS.ifnonnullNo A C.hx rfl (hb C.by hd) rfl k) k
theorem N.acmp (C : Cx G K own nm bytes maxL ret W) {cd : ACond} {o : Int} {v w : Value} (same : Bool) (hd : decode bytes pc = .ok (.if_acmp cd o, 3)) (h1 : v.isRef = true) (h2 : w.isRef = true) (hq : decide (v = w) = same) (ho : 0 ≤ (pc : Int) + o) (hp : pc' = if acV cd same = true then ((pc : Int) + o).toNat else pc + 3) (k : N G K rm Q h a b pc' ls st) : N G K rm Q h a b pc ls (w :: v :: st) :=
  N.stX (fun T locs X e t ht => Jvm.RoadKit.acmp (g := mkF K.m pc ls (w :: v :: st)) X C.hx rfl h1 h2 rfl (hb C.by hd) rfl hq ho hp ht) k
theorem N.ldcI (C : Cx G K own nm bytes maxL ret W) {i : Nat} {v : Int32} (hd : decode bytes pc = .ok (.ldc i, 2)) (w : (Jvm.Cond.constant own i v).before G.a0 G.Z = true) (hp : pc + 2 = pc') (k : N G K rm Q h a b pc' ls (.int v :: st)) : N G K rm Q h a b pc ls st := by
  subst hp; exact N.stX (fun T locs X e t ht => X.ldcInt C.hx C.ow (mvT C.hZ w) (g := mkF K.m pc ls st) rfl (hb C.by hd) t ht) k
theorem N.ldcwI (C : Cx G K own nm bytes maxL ret W) {i : Nat} {v : Int32} (hd : decode bytes pc = .ok (.ldc_w i, 3)) (w : (Jvm.Cond.constant own i v).before G.a0 G.Z = true) (hp : pc + 3 = pc') (k : N G K rm Q h a b pc' ls (.int v :: st)) : N G K rm Q h a b pc ls st := by
  subst hp; exact N.stX (fun T locs X e t ht => X.ldcwInt C.hx C.ow (mvT C.hZ w) (g := mkF K.m pc ls st) rfl (hb C.by hd) t ht) k
theorem N.ldcL (C : Cx G K own nm bytes maxL ret W) {i : Nat} {v : Int64} (hd : decode bytes pc = .ok (.ldc2_w i, 3)) (w : (Jvm.Cond.constantLong own i v).before G.a0 G.Z = true) (hp : pc + 3 = pc') (k : N G K rm Q h a b pc' ls (.long v :: st)) : N G K rm Q h a b pc ls st := by
  subst hp; exact N.stX (fun T locs X e t ht => X.ldc2Long C.hx C.ow (mvT C.hZ w) (g := mkF K.m pc ls st) rfl (hb C.by hd) t ht) k
theorem N.getF (C : Cx G K own nm bytes maxL ret W) {O n d : String} {i : Nat} {x : Addr} {v : Value} (hd : decode bytes pc = .ok (.getfield i, 3)) (w : (Jvm.Cond.fieldLink own i O n d).before G.a0 G.Z = true) (F : Fld G.Z h x O n d v) (hp : pc + 3 = pc') (k : N G K rm Q h a b pc' ls (v :: st)) : N G K rm Q h a b pc ls (.ref x :: st) := fun T locs X e N0 => by
  subst hp
  obtain ⟨T', X', e', s'⟩ := Jvm.RoadKit.getF X C.hx C.hZ C.ow (host := "") (Or.inl w) Via.refl e F (g := mkF K.m pc ls (.ref x :: st)) rfl rfl (hb C.by hd)
  obtain ⟨s₂, o, hs, r⟩ := k T' locs X' e' N0
  exact ⟨s₂, o, s' _ hs, r⟩
theorem N.getFN (C : Cx G K own nm bytes maxL ret W) {O n d host : String} {i : Nat} {x : Addr} {v : Value} (hd : decode bytes pc = .ok (.getfield i, 3)) (w : (Jvm.Cond.fieldLinkNest own i O n d host).before G.a0 G.Z = true) (F : Fld G.Z h x O n d v) (hp : pc + 3 = pc') (k : N G K rm Q h a b pc' ls (v :: st)) : N G K rm Q h a b pc ls (.ref x :: st) := fun T locs X e N0 => by
  subst hp
  obtain ⟨T', X', e', s'⟩ := Jvm.RoadKit.getF X C.hx C.hZ C.ow (Or.inr w) Via.refl e F (g := mkF K.m pc ls (.ref x :: st)) rfl rfl (hb C.by hd)
  obtain ⟨s₂, o, hs, r⟩ := k T' locs X' e' N0
  exact ⟨s₂, o, s' _ hs, r⟩
theorem N.putF (C : Cx G K own nm bytes maxL ret W) {O n d Cn : String} {i kk : Nat} {ty : FieldType} {x : Addr} {v old : Value} (hd : decode bytes pc = .ok (.putfield i, 3)) (w : (Jvm.Cond.fieldLink own i O n d).before G.a0 G.Z = true) (F : Fld G.Z h x O n d old) (E : Exa G.Z h x Cn)
    (L : (Jvm.Cond.lays Cn O n d).before G.a0 G.Z = true ∨ ((Jvm.Cond.laysFinal Cn O n d).before G.a0 G.Z = true ∧ own = O ∧ nm = "<init>")) (wi : (Jvm.Cond.instantiable Cn kk).before G.a0 G.Z = true) (hty : parseFieldDescriptor d = some ty) (hn : narrow ty v = v) (hf : fits ty v = true) (hx : G.n0 ≤ x) (hp : pc + 3 = pc')
    (k : ∀ h', Wr h h' x (Jvm.RoadKit.slotOf G.Z O n d) v → N G K rm Q h' a b pc' ls st) : N G K rm Q h a b pc ls (v :: .ref x :: st) := fun T locs X e N0 => by
  subst hp
  obtain ⟨T', h', X', e', W', s'⟩ := Jvm.RoadKit.putF X C.hx C.hZ C.ow (host := "") (Or.inl w) Via.refl e F E (L.imp id fun q => ⟨q.1, q.2.1, C.name.trans q.2.2⟩) wi hty hn hf (g := mkF K.m pc ls (v :: .ref x :: st)) rfl rfl (hb C.by hd)
  obtain ⟨s₂, o, hs, r⟩ := k h' W' T' _ X' e' (Fr.snoc X' N0 hx)
  exact ⟨s₂, o, s' _ hs, r⟩
theorem N.putFN (C : Cx G K own nm bytes maxL ret W) {O n d Cn : String} {i kk : Nat} {ty : FieldType} {x : Addr} {v v' old : Value} (hd : decode bytes pc = .ok (.putfield i, 3)) (w : (Jvm.Cond.fieldLink own i O n d).before G.a0 G.Z = true) (F : Fld G.Z h x O n d old) (E : Exa G.Z h x Cn)
    (L : (Jvm.Cond.lays Cn O n d).before G.a0 G.Z = true ∨ ((Jvm.Cond.laysFinal Cn O n d).before G.a0 G.Z = true ∧ own = O ∧ nm = "<init>")) (wi : (Jvm.Cond.instantiable Cn kk).before G.a0 G.Z = true) (hty : parseFieldDescriptor d = some ty) (hn : narrow ty v = v') (hf : fits ty v' = true) (hx : G.n0 ≤ x) (hp : pc + 3 = pc')
    (k : ∀ h', Wr h h' x (Jvm.RoadKit.slotOf G.Z O n d) v' → N G K rm Q h' a b pc' ls st) : N G K rm Q h a b pc ls (v :: .ref x :: st) := fun T locs X e N0 => by
  subst hp
  obtain ⟨T', h', X', e', W', s'⟩ := Jvm.RoadKit.putFN X C.hx C.hZ C.ow w Via.refl e F E (L.imp id fun q => ⟨q.1, q.2.1, C.name.trans q.2.2⟩) wi hty hn hf (g := mkF K.m pc ls (v :: .ref x :: st)) rfl rfl (hb C.by hd)
  obtain ⟨s₂, o, hs, r⟩ := k h' W' T' _ X' e' (Fr.snoc X' N0 hx)
  exact ⟨s₂, o, s' _ hs, r⟩
theorem N.getS (C : Cx G K own nm bytes maxL ret W) {O n d : String} {i : Nat} {v : Value} (hd : decode bytes pc = .ok (.getstatic i, 3)) (w : (Jvm.Cond.fieldLink own i O n d).before G.a0 G.Z = true) (F : Sta G.Z h O n d v) (hp : pc + 3 = pc') (k : N G K rm Q h a b pc' ls (v :: st)) : N G K rm Q h a b pc ls st := fun T locs X e N0 => by
  subst hp
  obtain ⟨T', X', e', s'⟩ := Jvm.RoadKit.getS X C.hx C.hZ (host := "") C.ow w Via.refl e F (g := mkF K.m pc ls st) rfl (hb C.by hd)
  obtain ⟨s₂, o, hs, r⟩ := k T' locs X' e' N0
  exact ⟨s₂, o, s' _ hs, r⟩
theorem N.newO (C : Cx G K own nm bytes maxL ret W) {Cn : String} {i n : Nat} (hd : decode bytes pc = .ok (.new i, 3)) (w : (Jvm.Cond.classLink own i Cn).before G.a0 G.Z = true) (wi : (Jvm.Cond.instantiable Cn n).before G.a0 G.Z = true) (wz : (Jvm.Cond.initialized Cn).before G.a0 G.Z = true) (hc : a + 1 ≤ rm.cells) (hl : b + n ≤ rm.slots) (hp : pc + 3 = pc')
    (k : ∀ (h' : Heap) (x : Addr), x = h.size → Ext h h' → Exa G.Z h' x Cn → (∀ {O f d : String} {ty : FieldType}, Laid G.Z G.a0 Cn O f d → parseFieldDescriptor d = some ty → Fld G.Z h' x O f d (defaultValue ty)) → N G K rm Q h' (a + 1) (b + n) pc' ls (.ref x :: st)) : N G K rm Q h a b pc ls st := fun T locs X e N0 => by
  subst hp
  obtain ⟨T', h', X', e', E', A', D', -, s'⟩ := Jvm.RoadKit.newO X C.hx C.hZ C.ow w wi wz e (g := mkF K.m pc ls st) rfl (hb C.by hd) hc hl
  obtain ⟨s₂, o, hs, r⟩ := k h' _ rfl E' A' D' T' locs X' e' N0
  exact ⟨s₂, o, s' _ hs, r⟩
theorem N.newP (C : Cx G K own nm bytes maxL ret W) {aty : ArrayType} {n : Int32} (cap : Nat) (hd : decode bytes pc = .ok (.newarray aty, 2)) (w : (Jvm.Cond.arrayClass (newarray.typeOf aty)).before G.a0 G.Z = true) (hn : 0 ≤ n.toInt) (hcap : n.toInt ≤ (cap : Int)) (hb8 : cap * 8 ≤ 536870912) (hc : a + 1 ≤ rm.cells) (hl : b + cap ≤ rm.slots) (hp : pc + 2 = pc')
    (k : ∀ (h' : Heap) (x : Addr), x = h.size → Ext h h' → Av G.Z h' x (newarray.typeOf aty) (List.replicate n.toInt.toNat (defaultValue (newarray.typeOf aty))) → N G K rm Q h' (a + 1) (b + cap) pc' ls (.ref x :: st)) : N G K rm Q h a b pc ls (.int n :: st) := fun T locs X e N0 => by
  subst hp
  have hneg : ¬ n < 0 := fun q => by
    have := Int32.lt_iff_toInt_lt.mp q
    have e0 : (0 : Int32).toInt = 0 := by decide
    omega
  obtain ⟨T', h', cA, X', e', E', A', s'⟩ := Jvm.RoadKit.newP X C.hx C.hZ w e (g := mkF K.m pc ls (.int n :: st)) rfl (hb C.by hd) rfl hneg (cap := cap) (by show n.toInt.toNat ≤ cap; omega) hb8 hc hl
  obtain ⟨s₂, o, hs, r⟩ := k h' _ rfl E' (Av.new A') T' locs X' e' N0
  exact ⟨s₂, o, s' _ hs, r⟩
theorem N.initO (C : Cx G K own nm bytes maxL ret W) {i : Nat} {x : Addr} (hd : decode bytes pc = .ok (.invokespecial i, 3)) (w1 : (Jvm.Cond.methodLink own i Lib.objectInit).before G.a0 G.Z = true) (w2 : (Jvm.Cond.instanceMethod Lib.objectInit).before G.a0 G.Z = true) (w3 : (Jvm.Cond.code Lib.objectInit ⟨#[0xb1]⟩ 1 none).before G.a0 G.Z = true) (hsz : ls.size = maxL) (hf : 1 ≤ rm.frames) (hl : (st.map fun v => v.category).sum + 12 ≤ rm.locals) (hp : pc + 3 = pc')
    (k : N G K rm Q h a b pc' ls st) : N G K rm Q h a b pc ls (.ref x :: st) := fun T locs X e N0 => by
  subst hp
  obtain ⟨T', X', e', s'⟩ := Jvm.RoadKit.initO X C.hx C.hZ C.ow w1 w2 w3 e (g := mkF K.m pc ls (.ref x :: st)) rfl (by rw [C.ml]; exact hsz) rfl (hb C.by hd) hf (W := (st.map fun v => v.category).sum) (by show 2 * 0 + _ ≤ _; omega) hl
  obtain ⟨s₂, o, hs, r⟩ := k T' locs X' e' N0
  exact ⟨s₂, o, s' _ hs, r⟩
theorem N.alen (C : Cx G K own nm bytes maxL ret W) {x : Addr} {ty : FieldType} {vs : List Value} {n : Int32} (hd : decode bytes pc = .ok (.arraylength, 1)) (A : Av G.Z h x ty vs) (hn : n.toInt = (vs.length : Nat)) (hp : pc + 1 = pc') (k : N G K rm Q h a b pc' ls (.int n :: st)) : N G K rm Q h a b pc ls (.ref x :: st) := by
  subst hp
  obtain ⟨c, A, rfl⟩ := A
  have hz : c.slots.size.toInt32 = n := by
    have h1 := n.toInt_lt
    apply Int32.toInt_inj.mp
    rw [hn]
    simp only [Array.length_toList] at hn ⊢
    show (Int32.ofNat c.slots.size).toInt = _
    rw [Int32.toInt_ofNat']
    have e32 : (Int32.size : Int) = 4294967296 := rfl
    exact Int.bmod_eq_of_le (by omega) (by omega)
  exact N.stX (fun T locs X e t ht => X.arraylength C.hx (by rw [e]; exact A.1) (State.isArrayOf_alike C.hZ.alike A.2.1) (g := mkF K.m pc ls (.ref x :: st)) rfl rfl (hb C.by hd) t (by rw [hz]; exact ht)) k

theorem N.iaload (C : Cx G K own nm bytes maxL ret W) {x : Addr} {vs : List Value} {j : Int32} {i : Nat} {v : Value} (hd : decode bytes pc = .ok (.iaload, 1)) (A : Av G.Z h x .int vs) (hj : j.toInt = (i : Nat)) (hv : vs[i]? = some v) (hp : pc + 1 = pc') (k : N G K rm Q h a b pc' ls (v :: st)) : N G K rm Q h a b pc ls (.int j :: .ref x :: st) := by
  subst hp
  obtain ⟨c, A, rfl⟩ := A
  have hi : i < c.slots.size := by have := (List.getElem?_eq_some_iff.mp hv).1; simpa using this
  have hv' : c.slots[j.toNatClampNeg]? = some v := by rw [(ix hj).2, ← Array.getElem?_toList]; exact hv
  exact N.stX (fun T locs X e t ht => X.iaload C.hx (by rw [e]; exact A.1) (State.isArrayOf_alike C.hZ.alike A.2.1) A.2.2 (ixin hj hi) hv' (g := mkF K.m pc ls (.int j :: .ref x :: st)) rfl rfl (hb C.by hd) t ht) k
theorem N.laload (C : Cx G K own nm bytes maxL ret W) {x : Addr} {vs : List Value} {j : Int32} {i : Nat} {v : Value} (hd : decode bytes pc = .ok (.laload, 1)) (A : Av G.Z h x .long vs) (hj : j.toInt = (i : Nat)) (hv : vs[i]? = some v) (hp : pc + 1 = pc') (k : N G K rm Q h a b pc' ls (v :: st)) : N G K rm Q h a b pc ls (.int j :: .ref x :: st) := by
  subst hp
  obtain ⟨c, A, rfl⟩ := A
  have hi : i < c.slots.size := by have := (List.getElem?_eq_some_iff.mp hv).1; simpa using this
  have hv' : c.slots[j.toNatClampNeg]? = some v := by rw [(ix hj).2, ← Array.getElem?_toList]; exact hv
  exact N.stX (fun T locs X e t ht => X.laload C.hx (by rw [e]; exact A.1) (State.isArrayOf_alike C.hZ.alike A.2.1) A.2.2 (ixin hj hi) hv' (g := mkF K.m pc ls (.int j :: .ref x :: st)) rfl rfl (hb C.by hd) t ht) k
theorem N.caload (C : Cx G K own nm bytes maxL ret W) {x : Addr} {vs : List Value} {j : Int32} {i : Nat} {v : Value} (hd : decode bytes pc = .ok (.caload, 1)) (A : Av G.Z h x .char vs) (hj : j.toInt = (i : Nat)) (hv : vs[i]? = some v) (hp : pc + 1 = pc') (k : N G K rm Q h a b pc' ls (v :: st)) : N G K rm Q h a b pc ls (.int j :: .ref x :: st) := by
  subst hp
  obtain ⟨c, A, rfl⟩ := A
  have hi : i < c.slots.size := by have := (List.getElem?_eq_some_iff.mp hv).1; simpa using this
  have hv' : c.slots[j.toNatClampNeg]? = some v := by rw [(ix hj).2, ← Array.getElem?_toList]; exact hv
  exact N.stX (fun T locs X e t ht => X.caload C.hx (by rw [e]; exact A.1) (State.isArrayOf_alike C.hZ.alike A.2.1) A.2.2 (ixin hj hi) hv' (g := mkF K.m pc ls (.int j :: .ref x :: st)) rfl rfl (hb C.by hd) t ht) k
theorem N.baload (C : Cx G K own nm bytes maxL ret W) {x : Addr} {vs : List Value} {j : Int32} {i : Nat} {v : Value} (hd : decode bytes pc = .ok (.baload, 1)) (A : Av G.Z h x .byte vs) (hj : j.toInt = (i : Nat)) (hv : vs[i]? = some v) (hp : pc + 1 = pc') (k : N G K rm Q h a b pc' ls (v :: st)) : N G K rm Q h a b pc ls (.int j :: .ref x :: st) := by
  subst hp
  obtain ⟨c, A, rfl⟩ := A
  have hi : i < c.slots.size := by have := (List.getElem?_eq_some_iff.mp hv).1; simpa using this
  have hv' : c.slots[j.toNatClampNeg]? = some v := by rw [(ix hj).2, ← Array.getElem?_toList]; exact hv
  exact N.stX (fun T locs X e t ht => X.baloadBytes C.hx (by rw [e]; exact A.1) (State.isArrayOf_alike C.hZ.alike A.2.1) A.2.2 (ixin hj hi) hv' (g := mkF K.m pc ls (.int j :: .ref x :: st)) rfl rfl (hb C.by hd) t ht) k
theorem N.zaload (C : Cx G K own nm bytes maxL ret W) {x : Addr} {vs : List Value} {j : Int32} {i : Nat} {v : Value} (hd : decode bytes pc = .ok (.baload, 1)) (A : Av G.Z h x .boolean vs) (hj : j.toInt = (i : Nat)) (hv : vs[i]? = some v) (hp : pc + 1 = pc') (k : N G K rm Q h a b pc' ls (v :: st)) : N G K rm Q h a b pc ls (.int j :: .ref x :: st) := by
  subst hp
  obtain ⟨c, A, rfl⟩ := A
  have hi : i < c.slots.size := by have := (List.getElem?_eq_some_iff.mp hv).1; simpa using this
  have hv' : c.slots[j.toNatClampNeg]? = some v := by rw [(ix hj).2, ← Array.getElem?_toList]; exact hv
  exact N.stX (fun T locs X e t ht => X.baloadBooleans C.hx (by rw [e]; exact A.1) (State.isArrayOf_alike C.hZ.alike A.2.1) A.2.2 (ixin hj hi) hv' (g := mkF K.m pc ls (.int j :: .ref x :: st)) rfl rfl (hb C.by hd) t ht) k
theorem N.daload (C : Cx G K own nm bytes maxL ret W) {x : Addr} {vs : List Value} {j : Int32} {i : Nat} {v : Value} (hd : decode bytes pc = .ok (.daload, 1)) (A : Av G.Z h x .double vs) (hj : j.toInt = (i : Nat)) (hv : vs[i]? = some v) (hp : pc + 1 = pc') (k : N G K rm Q h a b pc' ls (v :: st)) : N G K rm Q h a b pc ls (.int j :: .ref x :: st) := by
  subst hp
  obtain ⟨c, A, rfl⟩ := A
  have hi : i < c.slots.size := by have := (List.getElem?_eq_some_iff.mp hv).1; simpa using this
  have hv' : c.slots[j.toNatClampNeg]? = some v := by rw [(ix hj).2, ← Array.getElem?_toList]; exact hv
  exact N.stX (fun T locs X e t ht => X.daload C.hx (by rw [e]; exact A.1) (State.isArrayOf_alike C.hZ.alike A.2.1) A.2.2 (ixin hj hi) hv' (g := mkF K.m pc ls (.int j :: .ref x :: st)) rfl rfl (hb C.by hd) t ht) k
theorem N.iastore (C : Cx G K own nm bytes maxL ret W) {x : Addr} {vs : List Value} {j : Int32} {i : Nat} {v : Int32} (hd : decode bytes pc = .ok (.iastore, 1)) (A : Av G.Z h x .int vs) (hj : j.toInt = (i : Nat)) (hi : i < vs.length) (hx : G.n0 ≤ x) (hp : pc + 1 = pc') (k : ∀ h', Wr h h' x i (.int v) → Av G.Z h' x .int (vs.set i (.int v)) → N G K rm Q h' a b pc' ls st) : N G K rm Q h a b pc ls (.int v :: .int j :: .ref x :: st) := fun T locs X e N0 => by
  subst hp
  have A0 := A
  obtain ⟨c, A, rfl⟩ := A
  obtain ⟨T', h', X', e', W', s'⟩ := Jvm.RoadKit.stI X C.hx C.hZ e A (j := j) (ixin hj (by simpa using hi)) (g := mkF K.m pc ls (.int v :: .int j :: .ref x :: st)) rfl rfl (hb C.by hd)
  have F' := Fr.snoc X' N0 hx
  rw [(ix hj).2] at W'
  obtain ⟨s₂, o, hs, r⟩ := k h' W' (A0.same W') T' _ X' e' F'
  exact ⟨s₂, o, s' _ hs, r⟩
theorem N.lastore (C : Cx G K own nm bytes maxL ret W) {x : Addr} {vs : List Value} {j : Int32} {i : Nat} {v : Int64} (hd : decode bytes pc = .ok (.lastore, 1)) (A : Av G.Z h x .long vs) (hj : j.toInt = (i : Nat)) (hi : i < vs.length) (hx : G.n0 ≤ x) (hp : pc + 1 = pc') (k : ∀ h', Wr h h' x i (.long v) → Av G.Z h' x .long (vs.set i (.long v)) → N G K rm Q h' a b pc' ls st) : N G K rm Q h a b pc ls (.long v :: .int j :: .ref x :: st) := fun T locs X e N0 => by
  subst hp
  have A0 := A
  obtain ⟨c, A, rfl⟩ := A
  obtain ⟨T', h', X', e', W', s'⟩ := Jvm.RoadKit.stJ X C.hx C.hZ e A (j := j) (ixin hj (by simpa using hi)) (g := mkF K.m pc ls (.long v :: .int j :: .ref x :: st)) rfl rfl (hb C.by hd)
  have F' := Fr.snoc X' N0 hx
  rw [(ix hj).2] at W'
  obtain ⟨s₂, o, hs, r⟩ := k h' W' (A0.same W') T' _ X' e' F'
  exact ⟨s₂, o, s' _ hs, r⟩
theorem N.castore (C : Cx G K own nm bytes maxL ret W) {x : Addr} {vs : List Value} {j : Int32} {i : Nat} {v : Int32} (hd : decode bytes pc = .ok (.castore, 1)) (A : Av G.Z h x .char vs) (hj : j.toInt = (i : Nat)) (hi : i < vs.length) (hx : G.n0 ≤ x) (hp : pc + 1 = pc') (k : ∀ h', Wr h h' x i (.int (nar .char v)) → Av G.Z h' x .char (vs.set i (.int (nar .char v))) → N G K rm Q h' a b pc' ls st) : N G K rm Q h a b pc ls (.int v :: .int j :: .ref x :: st) := fun T locs X e N0 => by
  subst hp
  have A0 := A
  obtain ⟨c, A, rfl⟩ := A
  obtain ⟨T', h', X', e', W', s'⟩ := Jvm.RoadKit.stC X C.hx C.hZ e A (j := j) (ixin hj (by simpa using hi)) (g := mkF K.m pc ls (.int v :: .int j :: .ref x :: st)) rfl rfl (hb C.by hd)
  have F' := Fr.snoc X' N0 hx
  rw [(ix hj).2] at W'
  obtain ⟨s₂, o, hs, r⟩ := k h' W' (A0.same W') T' _ X' e' F'
  exact ⟨s₂, o, s' _ hs, r⟩
theorem N.bastore (C : Cx G K own nm bytes maxL ret W) {x : Addr} {vs : List Value} {j : Int32} {i : Nat} {v : Int32} (hd : decode bytes pc = .ok (.bastore, 1)) (A : Av G.Z h x .byte vs) (hj : j.toInt = (i : Nat)) (hi : i < vs.length) (hx : G.n0 ≤ x) (hp : pc + 1 = pc') (k : ∀ h', Wr h h' x i (.int (nar .byte v)) → Av G.Z h' x .byte (vs.set i (.int (nar .byte v))) → N G K rm Q h' a b pc' ls st) : N G K rm Q h a b pc ls (.int v :: .int j :: .ref x :: st) := fun T locs X e N0 => by
  subst hp
  have A0 := A
  obtain ⟨c, A, rfl⟩ := A
  obtain ⟨T', h', X', e', W', s'⟩ := Jvm.RoadKit.stB X C.hx C.hZ e A (j := j) (ixin hj (by simpa using hi)) (g := mkF K.m pc ls (.int v :: .int j :: .ref x :: st)) rfl rfl (hb C.by hd)
  have F' := Fr.snoc X' N0 hx
  rw [(ix hj).2] at W'
  obtain ⟨s₂, o, hs, r⟩ := k h' W' (A0.same W') T' _ X' e' F'
  exact ⟨s₂, o, s' _ hs, r⟩
theorem N.dastore (C : Cx G K own nm bytes maxL ret W) {x : Addr} {vs : List Value} {j : Int32} {i : Nat} {v : UInt64} (hd : decode bytes pc = .ok (.dastore, 1)) (A : Av G.Z h x .double vs) (hj : j.toInt = (i : Nat)) (hi : i < vs.length) (hx : G.n0 ≤ x) (hp : pc + 1 = pc') (k : ∀ h', Wr h h' x i (.double v) → Av G.Z h' x .double (vs.set i (.double v)) → N G K rm Q h' a b pc' ls st) : N G K rm Q h a b pc ls (.double v :: .int j :: .ref x :: st) := fun T locs X e N0 => by
  subst hp
  have A0 := A
  obtain ⟨c, A, rfl⟩ := A
  obtain ⟨T', h', X', e', W', s'⟩ := Jvm.RoadKit.stD X C.hx C.hZ e A (j := j) (ixin hj (by simpa using hi)) (g := mkF K.m pc ls (.double v :: .int j :: .ref x :: st)) rfl rfl (hb C.by hd)
  have F' := Fr.snoc X' N0 hx
  rw [(ix hj).2] at W'
  obtain ⟨s₂, o, hs, r⟩ := k h' W' (A0.same W') T' _ X' e' F'
  exact ⟨s₂, o, s' _ hs, r⟩
theorem N.zastore (C : Cx G K own nm bytes maxL ret W) {x : Addr} {vs : List Value} {j : Int32} {i : Nat} {v : Int32} (hd : decode bytes pc = .ok (.bastore, 1)) (A : Av G.Z h x .boolean vs) (hj : j.toInt = (i : Nat)) (hi : i < vs.length) (hx : G.n0 ≤ x) (hp : pc + 1 = pc') (k : ∀ h', Wr h h' x i (.int (nar .boolean v)) → Av G.Z h' x .boolean (vs.set i (.int (nar .boolean v))) → N G K rm Q h' a b pc' ls st) : N G K rm Q h a b pc ls (.int v :: .int j :: .ref x :: st) := fun T locs X e N0 => by
  subst hp
  have A0 := A
  obtain ⟨c, A, rfl⟩ := A
  obtain ⟨T', h', X', e', W', s'⟩ := Jvm.RoadKit.stZ X C.hx C.hZ e A (j := j) (ixin hj (by simpa using hi)) (g := mkF K.m pc ls (.int v :: .int j :: .ref x :: st)) rfl rfl (hb C.by hd)
  have F' := Fr.snoc X' N0 hx
  rw [(ix hj).2] at W'
  obtain ⟨s₂, o, hs, r⟩ := k h' W' (A0.same W') T' _ X' e' F'
  exact ⟨s₂, o, s' _ hs, r⟩

/-! returns -/
theorem N.ret0 (C : Cx G K own nm bytes maxL ret W) (hr : ret = none) (hd : decode bytes pc = .ok (.return_, 1)) (ha : a ≤ rm.cells) (hb' : b ≤ rm.slots) (hq : Q none h) : N G K rm Q h a b pc ls [] := fun T locs X e N0 => by
  obtain ⟨fs, hr', hrun, hended, hW, hsame⟩ := X.leave (v := none) (fun _ => rfl) (hlocks := C.lk)
  exact ⟨_, _, X.returnOut C.hx (C.rt.trans hr) (hb C.by hd) hr', hrun, hended, _, _, rfl, ⟨by show Q none T.heap; rw [e]; exact hq, N0⟩, ⟨_, rfl⟩, hW, hsame.mono ha hb'⟩
theorem N.retV (C : Cx G K own nm bytes maxL ret W) {w : Value} {t : FieldType} {i : Instr} (hr : ret = some t) (hn : narrow t w = w)
    (hi : (i = .ireturn ∧ (t = .int ∨ t = .boolean ∨ t = .byte ∨ t = .char ∨ t = .short) ∧ ∃ z, w = .int z) ∨ (i = .lreturn ∧ t = .long ∧ ∃ z, w = .long z) ∨ (i = .dreturn ∧ t = .double ∧ ∃ z, w = .double z) ∨ (i = .freturn ∧ t = .float ∧ ∃ z, w = .float z) ∨ (i = .areturn ∧ t.isReference = true ∧ w.isRef = true))
    (hd : decode bytes pc = .ok (i, 1)) (ha : a ≤ rm.cells) (hb' : b ≤ rm.slots) (hq : Q (some w) h) : N G K rm Q h a b pc ls (w :: st) := fun T locs X e N0 => by
  obtain ⟨fs, hr', hrun, hended, hW, hsame⟩ := X.leave (v := some w) (fun q => by rw [C.rt, hr] at q; cases q) (hlocks := C.lk)
  exact ⟨_, _, retOut X C.hx (C.rt.trans hr) hn hi (hb C.by hd) hr', hrun, hended, _, _, rfl, ⟨by show Q (some w) T.heap; rw [e]; exact hq, N0⟩, ⟨_, rfl⟩, hW, hsame.mono ha hb'⟩
theorem N.retI (C : Cx G K own nm bytes maxL (some .int) W) {z : Int32} (hd : decode bytes pc = .ok (.ireturn, 1)) (ha : a ≤ rm.cells) (hb' : b ≤ rm.slots) (hq : Q (some (.int z)) h) : N G K rm Q h a b pc ls (.int z :: st) :=
  N.retV C rfl rfl (Or.inl ⟨rfl, Or.inl rfl, z, rfl⟩) hd ha hb' hq
theorem N.retL (C : Cx G K own nm bytes maxL (some .long) W) {z : Int64} (hd : decode bytes pc = .ok (.lreturn, 1)) (ha : a ≤ rm.cells) (hb' : b ≤ rm.slots) (hq : Q (some (.long z)) h) : N G K rm Q h a b pc ls (.long z :: st) :=
  N.retV C rfl rfl (Or.inr (Or.inl ⟨rfl, rfl, z, rfl⟩)) hd ha hb' hq
theorem N.retA (C : Cx G K own nm bytes maxL (some t) W) {w : Value} (ht : t.isReference = true) (hw : w.isRef = true) (hd : decode bytes pc = .ok (.areturn, 1)) (ha : a ≤ rm.cells) (hb' : b ≤ rm.slots) (hq : Q (some w) h) : N G K rm Q h a b pc ls (w :: st) :=
  N.retV C rfl (by rcases ref_cases hw with rfl | ⟨z, rfl⟩ <;> cases t <;> first | rfl | (cases ht)) (Or.inr (Or.inr (Or.inr (Or.inr ⟨rfl, ht, hw⟩)))) hd ha hb' hq
theorem N.retN (C : Cx G K own nm bytes maxL (some t) W) {z z' : Int32} (ht : t = .boolean ∨ t = .byte ∨ t = .char ∨ t = .short) (hz : nar t z = z') (hd : decode bytes pc = .ok (.ireturn, 1)) (ha : a ≤ rm.cells) (hb' : b ≤ rm.slots) (hq : Q (some (.int z')) h) : N G K rm Q h a b pc ls (.int z :: st) := fun T locs X e N0 => by
  subst hz
  obtain ⟨fs, hr', hrun, hended, hW, hsame⟩ := X.leave (v := some (.int (nar t z))) (fun q => by rw [C.rt] at q; cases q) (hlocks := C.lk)
  exact ⟨_, _, Jvm.RoadKit.retN X C.hx C.rt ht (hb C.by hd) hr', hrun, hended, _, _, rfl, ⟨by show Q (some (.int (nar t z))) T.heap; rw [e]; exact hq, N0⟩, ⟨_, rfl⟩, hW, hsame.mono ha hb'⟩
/-! calls by the callee's contract -/
section Calls
variable {y : MethodName} {bytes' : ByteArray} {maxL' : Nat} {ret' : Option FieldType} {rm' : Room} {as : Array Value} {R' : Option Value → Heap → Prop} {stk rest : List Value}
theorem N.callS (C : Cx G K own nm bytes maxL ret W) {i : Nat} (argsL : List Value) (hd : decode bytes pc = .ok (.invokestatic i, 3)) (w1 : (Jvm.Cond.methodLink own i y).before G.a0 G.Z = true) (w2 : (Jvm.Cond.static y).before G.a0 G.Z = true) (w3 : (Jvm.Cond.initialized y.cls).before G.a0 G.Z = true) (w4 : (Jvm.Cond.code y bytes' maxL' ret').before G.a0 G.Z = true)
    (hy : y.cls ≠ "java/lang/invoke/MethodHandle" ∧ y.cls ≠ "java/lang/invoke/VarHandle") (M : Con G y bytes' maxL' ret' rm' argsL.toArray h R') (hlen : ∀ sig, parseMethodDescriptor y.desc = some sig → argsL.length = sig.parameters.length) (hsz : ls.size = maxL)
    (hf : rm'.frames + 1 ≤ rm.frames) (hl : (rest.map fun v => v.category).sum + (maxL' + 11) + rm'.locals ≤ rm.locals) (hc : a + rm'.cells ≤ rm.cells) (hs : b + rm'.slots ≤ rm.slots) (hst : stk = argsL.reverse ++ rest) (hp : pc + 3 = pc')
    (k : ∀ v h', R' v h' → N G K rm Q h' (a + rm'.cells) (b + rm'.slots) pc' ls (v.toList ++ rest)) : N G K rm Q h a b pc ls stk := fun T locs X e N0 => by
  subst hp
  obtain ⟨v, _, ⟨T', L', k', n'⟩, -, X', ⟨Lc, ⟨hQ, N1⟩, l', y', z'⟩, s'⟩ := Jvm.LawKit.callS X C.hx (y := y) C.ow (mvT C.hZ w1) (mvT C.hZ w2) (mvT C.hZ w3) (mvT C.hZ w4) hy (backOf (W := (rest.map fun v => v.category).sum) (Q := fun v h L => R' v h ∧ Fr G.n0 L) (M []) C.hZ w4 w3 hf hl) (g := mkF K.m pc ls stk) rfl (by rw [C.ml]; exact hsz) (argsL := argsL) (rest := rest) hlen hst (by show 2 * 0 + _ ≤ _; omega) (hb C.by hd) (fun _ _ => ⟨rfl, e, hc, hs⟩)
  dsimp only [Pt.U, Pt.locs, Pt.cells, Pt.slots] at X' l' y' z' s' hQ
  subst l' y' z'
  obtain ⟨s₂, o, hs', r⟩ := k v T'.heap hQ T' _ X' rfl (N0.app N1)
  exact ⟨s₂, o, s' _ hs', r⟩
theorem N.callI (C : Cx G K own nm bytes maxL ret W) {i : Nat} (x : Addr) (argsL : List Value) (hd : decode bytes pc = .ok (.invokespecial i, 3)) (hy1 : y.name = "<init>") (w1 : (Jvm.Cond.methodLink own i y).before G.a0 G.Z = true) (w2 : (Jvm.Cond.instanceMethod y).before G.a0 G.Z = true) (w3 : (Jvm.Cond.initialized y.cls).before G.a0 G.Z = true) (w4 : (Jvm.Cond.code y bytes' maxL' none).before G.a0 G.Z = true)
    (hy : y.cls ≠ "java/lang/invoke/MethodHandle" ∧ y.cls ≠ "java/lang/invoke/VarHandle") (M : Con G y bytes' maxL' none rm' (.ref x :: argsL).toArray h R') (hlen : ∀ sig, parseMethodDescriptor y.desc = some sig → argsL.length = sig.parameters.length) (hsz : ls.size = maxL)
    (hf : rm'.frames + 1 ≤ rm.frames) (hl : (rest.map fun v => v.category).sum + (maxL' + 11) + rm'.locals ≤ rm.locals) (hc : a + rm'.cells ≤ rm.cells) (hs : b + rm'.slots ≤ rm.slots) (hst : stk = argsL.reverse ++ .ref x :: rest) (hp : pc + 3 = pc')
    (k : ∀ v h', R' v h' → N G K rm Q h' (a + rm'.cells) (b + rm'.slots) pc' ls (v.toList ++ rest)) : N G K rm Q h a b pc ls stk := fun T locs X e N0 => by
  subst hp
  obtain ⟨v, _, ⟨T', L', k', n'⟩, -, X', ⟨Lc, ⟨hQ, N1⟩, l', y', z'⟩, s'⟩ := X.specialBack C.hx (y := y) hy1 C.ow (mvT C.hZ w1) (mvT C.hZ w2) (mvT C.hZ w4) hy (backOf (W := (rest.map fun v => v.category).sum) (Q := fun v h L => R' v h ∧ Fr G.n0 L) (M []) C.hZ w4 w3 hf hl) (g := mkF K.m pc ls stk) rfl (by rw [C.ml]; exact hsz) (Steps.refl _) (a := x) (argsL := argsL) (rest := rest) hlen hst (by show 2 * 0 + _ ≤ _; omega) (hb C.by hd) (fun _ _ => ⟨rfl, e, hc, hs⟩)
  dsimp only [Pt.U, Pt.locs, Pt.cells, Pt.slots] at X' l' y' z' s' hQ
  subst l' y' z'
  obtain ⟨s₂, o, hs', r⟩ := k v T'.heap hQ T' _ X' rfl (N0.app N1)
  exact ⟨s₂, o, s'.trans hs', r⟩
/-- an instance method of a class that selects itself -/
theorem N.callV (C : Cx G K own nm bytes maxL ret W) {i : Nat} (x : Addr) (argsL : List Value) (hd : decode bytes pc = .ok (.invokevirtual i, 3)) (w1 : (Jvm.Cond.methodLink own i y).before G.a0 G.Z = true) (wd : (Jvm.Cond.declares y).before G.a0 G.Z = true) (ws : (Jvm.Cond.selects y.cls y y).before G.a0 G.Z = true) (w2 : (Jvm.Cond.instanceMethod y).before G.a0 G.Z = true) (w3 : (Jvm.Cond.initialized y.cls).before G.a0 G.Z = true) (w4 : (Jvm.Cond.code y bytes' maxL' ret').before G.a0 G.Z = true)
    (hy : y.cls ≠ "java/lang/invoke/MethodHandle" ∧ y.cls ≠ "java/lang/invoke/VarHandle") (E : Exa G.Z h x y.cls) (M : Con G y bytes' maxL' ret' rm' (.ref x :: argsL).toArray h R') (hlen : ∀ sig, parseMethodDescriptor y.desc = some sig → argsL.length = sig.parameters.length) (hsz : ls.size = maxL)
    (hf : rm'.frames + 1 ≤ rm.frames) (hl : (rest.map fun v => v.category).sum + (maxL' + 11) + rm'.locals ≤ rm.locals) (hc : a + rm'.cells ≤ rm.cells) (hs : b + rm'.slots ≤ rm.slots) (hst : stk = argsL.reverse ++ .ref x :: rest) (hp : pc + 3 = pc')
    (k : ∀ v h', R' v h' → N G K rm Q h' (a + rm'.cells) (b + rm'.slots) pc' ls (v.toList ++ rest)) : N G K rm Q h a b pc ls stk := fun T locs X e N0 => by
  subst hp
  obtain ⟨cq, kq, qa, qb, qc⟩ := isOf C.hZ e E
  obtain ⟨v, _, ⟨T', L', k', n'⟩, -, X', ⟨Lc, ⟨hQ, N1⟩, l', y', z'⟩, s'⟩ := X.virtualBack C.hx (y := y) (z := y) C.ow (mvT C.hZ w1) (mvT C.hZ wd) (notFace_of_selects (args := #[]) (mvT C.hZ ws)) (mvT C.hZ ws) (mvT C.hZ w2) hy (backOf (W := (rest.map fun v => v.category).sum) (Q := fun v h L => R' v h ∧ Fr G.n0 L) (M []) C.hZ w4 w3 hf hl) qa qc (g := mkF K.m pc ls stk) rfl (by rw [C.ml]; exact hsz) (Steps.refl _) (argsL := argsL) (rest := rest) hlen hst (by show 2 * 0 + _ ≤ _; omega) (hb C.by hd) (fun _ _ => ⟨rfl, e, hc, hs⟩)
  dsimp only [Pt.U, Pt.locs, Pt.cells, Pt.slots] at X' l' y' z' s' hQ
  subst l' y' z'
  obtain ⟨s₂, o, hs', r⟩ := k v T'.heap hQ T' _ X' rfl (N0.app N1)
  exact ⟨s₂, o, s'.trans hs', r⟩
/-- a private method -/
theorem N.callP (C : Cx G K own nm bytes maxL ret W) {i : Nat} (x : Addr) (argsL : List Value) (hd : decode bytes pc = .ok (.invokevirtual i, 3)) (w1 : (Jvm.Cond.methodLink own i y).before G.a0 G.Z = true) (wp : (Jvm.Cond.privateMethod y).before G.a0 G.Z = true) (ws : (Jvm.Cond.selects y.cls y y).before G.a0 G.Z = true) (w2 : (Jvm.Cond.instanceMethod y).before G.a0 G.Z = true) (w3 : (Jvm.Cond.initialized y.cls).before G.a0 G.Z = true) (w4 : (Jvm.Cond.code y bytes' maxL' ret').before G.a0 G.Z = true)
    (hy : y.cls ≠ "java/lang/invoke/MethodHandle" ∧ y.cls ≠ "java/lang/invoke/VarHandle") (E : Exa G.Z h x y.cls) (M : Con G y bytes' maxL' ret' rm' (.ref x :: argsL).toArray h R') (hlen : ∀ sig, parseMethodDescriptor y.desc = some sig → argsL.length = sig.parameters.length) (hsz : ls.size = maxL)
    (hf : rm'.frames + 1 ≤ rm.frames) (hl : (rest.map fun v => v.category).sum + (maxL' + 11) + rm'.locals ≤ rm.locals) (hc : a + rm'.cells ≤ rm.cells) (hs : b + rm'.slots ≤ rm.slots) (hst : stk = argsL.reverse ++ .ref x :: rest) (hp : pc + 3 = pc')
    (k : ∀ v h', R' v h' → N G K rm Q h' (a + rm'.cells) (b + rm'.slots) pc' ls (v.toList ++ rest)) : N G K rm Q h a b pc ls stk := fun T locs X e N0 => by
  subst hp
  obtain ⟨cq, qa, qb⟩ := E.cell
  obtain ⟨v, _, ⟨T', L', k', n'⟩, -, X', ⟨Lc, ⟨hQ, N1⟩, l', y', z'⟩, s'⟩ := X.privateBack C.hx (y := y) C.ow (mvT C.hZ w1) (mvT C.hZ w2) (mvT C.hZ ws) (Cond.privateMethod_at (mvP C.hZ wp (args := #[]))) (mvT C.hZ w4) hy (backOf (W := (rest.map fun v => v.category).sum) (Q := fun v h L => R' v h ∧ Fr G.n0 L) (M []) C.hZ w4 w3 hf hl) (g := mkF K.m pc ls stk) rfl (by rw [C.ml]; exact hsz) (Steps.refl _) (a := x) (by rw [e]; exact qa) qb (argsL := argsL) (rest := rest) hlen hst (by show 2 * 0 + _ ≤ _; omega) (hb C.by hd) (fun _ _ => ⟨rfl, e, hc, hs⟩)
  dsimp only [Pt.U, Pt.locs, Pt.cells, Pt.slots] at X' l' y' z' s' hQ
  subst l' y' z'
  obtain ⟨s₂, o, hs', r⟩ := k v T'.heap hQ T' _ X' rfl (N0.app N1)
  exact ⟨s₂, o, s'.trans hs', r⟩
end Calls
end Rules
end Jvm.OwnKit

namespace Jvm.Pilot.@@N@@
open Jvm Jvm.ClassFile Sem Op Lib Jvm.Free Jvm.Stand Jvm.LawKit Jvm.RoadKit Bundle Jvm.OwnKit Jvm.Pilot.@@N@@.Jvm.D
def own_dbl (ds : List Value) : Prop := ds.length = 3 ∧ ∀ i : Nat, i < 3 → ∃ d, ds[i]? = some (.double d)
def own_lng (ds : List Value) : Prop := ds.length = 3 ∧ ∀ i : Nat, i < 3 → ∃ d, ds[i]? = some (.long d)
def own_rng (hs : List Int32) : Prop := hs.length = 3 ∧ ∀ (i : Nat) (y : Int32), hs[i]? = some y → 0 ≤ y.toInt ∧ y.toInt < 3
def Hq (G : Gx) (h : Heap) (x e c a p g : Addr) (sz : Int32) (hs ps : List Int32) : Prop :=
  ∃ (gd : Int32) (of : Int64) (ds cs gs : List Value), x ≠ a ∧ x ≠ p ∧ x ≠ g ∧ a ≠ p ∧ a ≠ g ∧ p ≠ g ∧ e ≠ x ∧ e ≠ a ∧ e ≠ p ∧ e ≠ g ∧ c ≠ x ∧ c ≠ a ∧ c ≠ p ∧ c ≠ g ∧ G.n0 ≤ x ∧ G.n0 ≤ a ∧ G.n0 ≤ p ∧ G.n0 ≤ g ∧ Exa G.Z h x "com/example/ravel/ravel/search/NodeHeap" ∧ Fld G.Z h x "com/example/ravel/ravel/search/NodeHeap" "estimate" "[D" (.ref e) ∧ Fld G.Z h x "com/example/ravel/ravel/search/NodeHeap" "cost" "[D" (.ref c) ∧ Fld G.Z h x "com/example/ravel/ravel/search/NodeHeap" "guided" "Z" (.int gd) ∧ Fld G.Z h x "com/example/ravel/ravel/search/NodeHeap" "heap" "[I" (.ref a) ∧ Fld G.Z h x "com/example/ravel/ravel/search/NodeHeap" "place" "[I" (.ref p) ∧ Fld G.Z h x "com/example/ravel/ravel/search/NodeHeap" "given" "[J" (.ref g) ∧ Fld G.Z h x "com/example/ravel/ravel/search/NodeHeap" "offers" "J" (.long of) ∧ Fld G.Z h x "com/example/ravel/ravel/search/NodeHeap" "size" "I" (.int sz) ∧ Av G.Z h e .double ds ∧ own_dbl ds ∧ Av G.Z h c .double cs ∧ own_dbl cs ∧ Av G.Z h a .int (hs.map .int) ∧ own_rng hs ∧ Av G.Z h p .int (ps.map .int) ∧ ps.length = 3 ∧ Av G.Z h g .long gs ∧ own_lng gs
theorem Hq.exa {G : Gx} {h : Heap} {x e c a p g : Addr} {sz : Int32} {hs ps : List Int32} (H : Hq G h x e c a p g sz hs ps) : Exa G.Z h x "com/example/ravel/ravel/search/NodeHeap" := by
  obtain ⟨gd, of, ds, cs, gs, -, -, -, -, -, -, -, -, -, -, -, -, -, -, -, -, -, -, E, -⟩ := H
  exact E
theorem own_rng_get {hs : List Int32} (H : own_rng hs) {i : Nat} (hi : i < 3) : ∃ y : Int32, (hs.map Value.int)[i]? = some (.int y) ∧ hs[i]? = some y ∧ 0 ≤ y.toInt ∧ y.toInt < 3 := by
  have h1 : i < hs.length := by rw [H.1]; exact hi
  have e := List.getElem?_eq_getElem h1
  exact ⟨hs[i], by rw [List.getElem?_map, e]; rfl, e, H.2 i _ e⟩
theorem own_rng_set {hs : List Int32} (H : own_rng hs) {i : Nat} {y : Int32} (h0 : 0 ≤ y.toInt) (h1 : y.toInt < 3) : own_rng (hs.set i y) := by
  refine ⟨by simp [H.1], fun j z hz => ?_⟩
  by_cases q : i = j
  · subst q
    have hl : i < hs.length := by have := (List.getElem?_eq_some_iff.mp hz).1; simpa using this
    rw [List.getElem?_set_self hl] at hz
    cases hz; exact ⟨h0, h1⟩
  · rw [List.getElem?_set_ne q] at hz
    exact H.2 j z hz
theorem own_lng_set {gs : List Value} (H : own_lng gs) {i : Nat} {z : Int64} : own_lng (gs.set i (.long z)) := by
  refine ⟨by simp [H.1], fun j hj => ?_⟩
  by_cases q : i = j
  · subst q; exact ⟨z, List.getElem?_set_self (by rw [H.1]; exact hj)⟩
  · rw [List.getElem?_set_ne q]; exact H.2 j hj
theorem own_get3 {ps : List Int32} (hl : ps.length = 3) {n : Int32} (h0 : 0 ≤ n.toInt) (h1 : n.toInt < 3) : n.toInt = ((n.toInt.toNat : Nat) : Int) ∧ n.toInt.toNat < 3 := by omega
theorem own_pmap {ps : List Int32} {i : Nat} {y : Int32} (h : ps[i]? = some y) : (ps.map Value.int)[i]? = some (.int y) := by rw [List.getElem?_map, h]; rfl
theorem own_r0 : own_rng [0, 0, 0] := by
  refine ⟨rfl, fun i y hy => ?_⟩
  have hi := (List.getElem?_eq_some_iff.mp hy).1
  simp only [List.length_cons, List.length_nil] at hi
  rcases (by omega : i = 0 ∨ i = 1 ∨ i = 2) with rfl | rfl | rfl <;> cases hy <;> decide
theorem own_m1 : ∀ m : Nat, m < 3 → ([-1, -1, -1] : List Int32)[m]? = some (-1) := fun m hm => by
  rcases (by omega : m = 0 ∨ m = 1 ∨ m = 2) with rfl | rfl | rfl <;> rfl
theorem own_g0 : own_lng [.long (0 : Int64), .long (0 : Int64), .long (0 : Int64)] := ⟨rfl, fun m hm => by
  rcases (by omega : m = 0 ∨ m = 1 ∨ m = 2) with rfl | rfl | rfl <;> exact ⟨_, rfl⟩⟩
theorem own_d3 (d1 d2 d3 : UInt64) : own_dbl [.double d1, .double d2, .double d3] := ⟨rfl, fun m hm => by
  rcases (by omega : m = 0 ∨ m = 1 ∨ m = 2) with rfl | rfl | rfl <;> exact ⟨_, rfl⟩⟩
theorem own_rem3 (x : Int32) : 0 ≤ ((x &&& (2147483647 : Int32)) % (3 : Int32)).toInt ∧ ((x &&& (2147483647 : Int32)) % (3 : Int32)).toInt < 3 := by
  have h1 := (c_and x 2147483647 (by decide)).1
  have h2 := (c_irem (x &&& (2147483647 : Int32)) 3 3 (by decide)).1 h1
  omega
theorem own_z1 {z sz : Int32} (h : (z = 1 ∧ sz = 0) ∨ (z = 0 ∧ ¬ sz = 0)) (e : sz = 0) : z = 1 := by
  rcases h with h | h
  · exact h.1
  · exact absurd e h.2
theorem own_z0 {z sz : Int32} (h : (z = 1 ∧ sz = 0) ∨ (z = 0 ∧ ¬ sz = 0)) (e : ¬ sz = 0) : z = 0 := by
  rcases h with h | h
  · exact absurd h.2 e
  · exact h.1
theorem pn0 : plainName "com/example/ravel/ravel/search/NodeHeapIsEmptyPinLaw" = true := by first | (simp [plainName, overriddenIn]; done) | decide +kernel
theorem pn3 : plainName "java/util/Arrays" = true := by first | (simp [plainName, overriddenIn]; done) | decide +kernel
theorem pn1 : plainName "com/example/ravel/ravel/search/NodeHeap" = true := by first | (simp [plainName, overriddenIn]; done) | decide +kernel
theorem pn4 : plainName "com/example/ravel/ravel/search/NodeHeap" = true := by first | (simp [plainName, overriddenIn]; done) | decide +kernel
theorem pn5 : plainName "com/example/ravel/ravel/search/NodeHeap" = true := by first | (simp [plainName, overriddenIn]; done) | decide +kernel
theorem pn6 : plainName "com/example/ravel/ravel/search/NodeHeap" = true := by first | (simp [plainName, overriddenIn]; done) | decide +kernel
theorem pn7 : plainName "com/example/ravel/ravel/search/NodeHeap" = true := by first | (simp [plainName, overriddenIn]; done) | decide +kernel
theorem pn8 : plainName "com/example/ravel/ravel/search/NodeHeap" = true := by first | (simp [plainName, overriddenIn]; done) | decide +kernel
theorem pn9 : plainName "com/example/ravel/ravel/search/NodeHeap" = true := by first | (simp [plainName, overriddenIn]; done) | decide +kernel
theorem pn10 : plainName "com/example/ravel/ravel/search/NodeHeap" = true := by first | (simp [plainName, overriddenIn]; done) | decide +kernel
theorem pd___D_D_V : parseMethodDescriptor "([D[D)V" = some ⟨[(.array .double), (.array .double)], none⟩ := by decide +kernel
theorem pd___Z : parseMethodDescriptor "()Z" = some ⟨[], some .boolean⟩ := by decide +kernel
theorem pd__I_V : parseMethodDescriptor "(I)V" = some ⟨[.int], none⟩ := by decide +kernel
theorem pd___I : parseMethodDescriptor "()I" = some ⟨[], some .int⟩ := by decide +kernel
theorem pd___II_V : parseMethodDescriptor "([II)V" = some ⟨[(.array .int), .int], none⟩ := by decide +kernel
theorem pd__II_V : parseMethodDescriptor "(II)V" = some ⟨[.int, .int], none⟩ := by decide +kernel
theorem pd__II_Z : parseMethodDescriptor "(II)Z" = some ⟨[.int, .int], some .boolean⟩ := by decide +kernel

theorem d3_0 : decode jdk_65_method_103_code 0 = .ok (.iconst 0, 1) := by decide +kernel
theorem d3_1 : decode jdk_65_method_103_code 1 = .ok (.istore_n 2, 1) := by decide +kernel
theorem d3_2 : decode jdk_65_method_103_code 2 = .ok (.aload_n 0, 1) := by decide +kernel
theorem d3_3 : decode jdk_65_method_103_code 3 = .ok (.arraylength, 1) := by decide +kernel
theorem d3_4 : decode jdk_65_method_103_code 4 = .ok (.istore_n 3, 1) := by decide +kernel
theorem d3_5 : decode jdk_65_method_103_code 5 = .ok (.iload_n 2, 1) := by decide +kernel
theorem d3_6 : decode jdk_65_method_103_code 6 = .ok (.iload_n 3, 1) := by decide +kernel
theorem d3_7 : decode jdk_65_method_103_code 7 = .ok (.if_icmp .ge 13, 3) := by decide +kernel
theorem d3_10 : decode jdk_65_method_103_code 10 = .ok (.aload_n 0, 1) := by decide +kernel
theorem d3_11 : decode jdk_65_method_103_code 11 = .ok (.iload_n 2, 1) := by decide +kernel
theorem d3_12 : decode jdk_65_method_103_code 12 = .ok (.iload_n 1, 1) := by decide +kernel
theorem d3_13 : decode jdk_65_method_103_code 13 = .ok (.iastore, 1) := by decide +kernel
theorem d3_14 : decode jdk_65_method_103_code 14 = .ok (.iinc 2 1, 3) := by decide +kernel
theorem d3_17 : decode jdk_65_method_103_code 17 = .ok (.goto (-12), 3) := by decide +kernel
theorem d3_20 : decode jdk_65_method_103_code 20 = .ok (.return_, 1) := by decide +kernel
theorem d1_0 : decode prog_50_method_1_code 0 = .ok (.aload_n 0, 1) := by decide +kernel
theorem d1_1 : decode prog_50_method_1_code 1 = .ok (.invokespecial 1, 3) := by decide +kernel
theorem d1_4 : decode prog_50_method_1_code 4 = .ok (.aload_n 0, 1) := by decide +kernel
theorem d1_5 : decode prog_50_method_1_code 5 = .ok (.aload_n 1, 1) := by decide +kernel
theorem d1_6 : decode prog_50_method_1_code 6 = .ok (.putfield 7, 3) := by decide +kernel
theorem d1_9 : decode prog_50_method_1_code 9 = .ok (.aload_n 0, 1) := by decide +kernel
theorem d1_10 : decode prog_50_method_1_code 10 = .ok (.aload_n 2, 1) := by decide +kernel
theorem d1_11 : decode prog_50_method_1_code 11 = .ok (.putfield 13, 3) := by decide +kernel
theorem d1_14 : decode prog_50_method_1_code 14 = .ok (.aload_n 0, 1) := by decide +kernel
theorem d1_15 : decode prog_50_method_1_code 15 = .ok (.aload_n 1, 1) := by decide +kernel
theorem d1_16 : decode prog_50_method_1_code 16 = .ok (.aload_n 2, 1) := by decide +kernel
theorem d1_17 : decode prog_50_method_1_code 17 = .ok (.if_acmp .eq 7, 3) := by decide +kernel
theorem d1_20 : decode prog_50_method_1_code 20 = .ok (.iconst 1, 1) := by decide +kernel
theorem d1_21 : decode prog_50_method_1_code 21 = .ok (.goto 4, 3) := by decide +kernel
theorem d1_24 : decode prog_50_method_1_code 24 = .ok (.iconst 0, 1) := by decide +kernel
theorem d1_25 : decode prog_50_method_1_code 25 = .ok (.putfield 16, 3) := by decide +kernel
theorem d1_28 : decode prog_50_method_1_code 28 = .ok (.aload_n 0, 1) := by decide +kernel
theorem d1_29 : decode prog_50_method_1_code 29 = .ok (.aload_n 2, 1) := by decide +kernel
theorem d1_30 : decode prog_50_method_1_code 30 = .ok (.arraylength, 1) := by decide +kernel
theorem d1_31 : decode prog_50_method_1_code 31 = .ok (.newarray .int, 2) := by decide +kernel
theorem d1_33 : decode prog_50_method_1_code 33 = .ok (.putfield 20, 3) := by decide +kernel
theorem d1_36 : decode prog_50_method_1_code 36 = .ok (.aload_n 0, 1) := by decide +kernel
theorem d1_37 : decode prog_50_method_1_code 37 = .ok (.aload_n 2, 1) := by decide +kernel
theorem d1_38 : decode prog_50_method_1_code 38 = .ok (.arraylength, 1) := by decide +kernel
theorem d1_39 : decode prog_50_method_1_code 39 = .ok (.newarray .int, 2) := by decide +kernel
theorem d1_41 : decode prog_50_method_1_code 41 = .ok (.putfield 24, 3) := by decide +kernel
theorem d1_44 : decode prog_50_method_1_code 44 = .ok (.aload_n 0, 1) := by decide +kernel
theorem d1_45 : decode prog_50_method_1_code 45 = .ok (.getfield 24, 3) := by decide +kernel
theorem d1_48 : decode prog_50_method_1_code 48 = .ok (.iconst (-1), 1) := by decide +kernel
theorem d1_49 : decode prog_50_method_1_code 49 = .ok (.invokestatic 27, 3) := by decide +kernel
theorem d1_52 : decode prog_50_method_1_code 52 = .ok (.aload_n 0, 1) := by decide +kernel
theorem d1_53 : decode prog_50_method_1_code 53 = .ok (.aload_n 2, 1) := by decide +kernel
theorem d1_54 : decode prog_50_method_1_code 54 = .ok (.arraylength, 1) := by decide +kernel
theorem d1_55 : decode prog_50_method_1_code 55 = .ok (.newarray .long, 2) := by decide +kernel
theorem d1_57 : decode prog_50_method_1_code 57 = .ok (.putfield 33, 3) := by decide +kernel
theorem d1_60 : decode prog_50_method_1_code 60 = .ok (.return_, 1) := by decide +kernel
theorem d4_0 : decode prog_50_method_2_code 0 = .ok (.aload_n 0, 1) := by decide +kernel
theorem d4_1 : decode prog_50_method_2_code 1 = .ok (.getfield 37, 3) := by decide +kernel
theorem d4_4 : decode prog_50_method_2_code 4 = .ok (.ifCond .ne 7, 3) := by decide +kernel
theorem d4_7 : decode prog_50_method_2_code 7 = .ok (.iconst 1, 1) := by decide +kernel
theorem d4_8 : decode prog_50_method_2_code 8 = .ok (.goto 4, 3) := by decide +kernel
theorem d4_11 : decode prog_50_method_2_code 11 = .ok (.iconst 0, 1) := by decide +kernel
theorem d4_12 : decode prog_50_method_2_code 12 = .ok (.ireturn, 1) := by decide +kernel
theorem d5_0 : decode prog_50_method_3_code 0 = .ok (.aload_n 0, 1) := by decide +kernel
theorem d5_1 : decode prog_50_method_3_code 1 = .ok (.getfield 33, 3) := by decide +kernel
theorem d5_4 : decode prog_50_method_3_code 4 = .ok (.iload_n 1, 1) := by decide +kernel
theorem d5_5 : decode prog_50_method_3_code 5 = .ok (.aload_n 0, 1) := by decide +kernel
theorem d5_6 : decode prog_50_method_3_code 6 = .ok (.dup, 1) := by decide +kernel
theorem d5_7 : decode prog_50_method_3_code 7 = .ok (.getfield 41, 3) := by decide +kernel
theorem d5_10 : decode prog_50_method_3_code 10 = .ok (.dup2_x1, 1) := by decide +kernel
theorem d5_11 : decode prog_50_method_3_code 11 = .ok (.lconst 1, 1) := by decide +kernel
theorem d5_12 : decode prog_50_method_3_code 12 = .ok (.ladd, 1) := by decide +kernel
theorem d5_13 : decode prog_50_method_3_code 13 = .ok (.putfield 41, 3) := by decide +kernel
theorem d5_16 : decode prog_50_method_3_code 16 = .ok (.lastore, 1) := by decide +kernel
theorem d5_17 : decode prog_50_method_3_code 17 = .ok (.aload_n 0, 1) := by decide +kernel
theorem d5_18 : decode prog_50_method_3_code 18 = .ok (.getfield 24, 3) := by decide +kernel
theorem d5_21 : decode prog_50_method_3_code 21 = .ok (.iload_n 1, 1) := by decide +kernel
theorem d5_22 : decode prog_50_method_3_code 22 = .ok (.iaload, 1) := by decide +kernel
theorem d5_23 : decode prog_50_method_3_code 23 = .ok (.ifCond .ge 30, 3) := by decide +kernel
theorem d5_26 : decode prog_50_method_3_code 26 = .ok (.aload_n 0, 1) := by decide +kernel
theorem d5_27 : decode prog_50_method_3_code 27 = .ok (.getfield 24, 3) := by decide +kernel
theorem d5_30 : decode prog_50_method_3_code 30 = .ok (.iload_n 1, 1) := by decide +kernel
theorem d5_31 : decode prog_50_method_3_code 31 = .ok (.aload_n 0, 1) := by decide +kernel
theorem d5_32 : decode prog_50_method_3_code 32 = .ok (.getfield 37, 3) := by decide +kernel
theorem d5_35 : decode prog_50_method_3_code 35 = .ok (.iastore, 1) := by decide +kernel
theorem d5_36 : decode prog_50_method_3_code 36 = .ok (.aload_n 0, 1) := by decide +kernel
theorem d5_37 : decode prog_50_method_3_code 37 = .ok (.getfield 20, 3) := by decide +kernel
theorem d5_40 : decode prog_50_method_3_code 40 = .ok (.aload_n 0, 1) := by decide +kernel
theorem d5_41 : decode prog_50_method_3_code 41 = .ok (.dup, 1) := by decide +kernel
theorem d5_42 : decode prog_50_method_3_code 42 = .ok (.getfield 37, 3) := by decide +kernel
theorem d5_45 : decode prog_50_method_3_code 45 = .ok (.dup_x1, 1) := by decide +kernel
theorem d5_46 : decode prog_50_method_3_code 46 = .ok (.iconst 1, 1) := by decide +kernel
theorem d5_47 : decode prog_50_method_3_code 47 = .ok (.iadd, 1) := by decide +kernel
theorem d5_48 : decode prog_50_method_3_code 48 = .ok (.putfield 37, 3) := by decide +kernel
theorem d5_51 : decode prog_50_method_3_code 51 = .ok (.iload_n 1, 1) := by decide +kernel
theorem d5_52 : decode prog_50_method_3_code 52 = .ok (.iastore, 1) := by decide +kernel
theorem d5_53 : decode prog_50_method_3_code 53 = .ok (.aload_n 0, 1) := by decide +kernel
theorem d5_54 : decode prog_50_method_3_code 54 = .ok (.aload_n 0, 1) := by decide +kernel
theorem d5_55 : decode prog_50_method_3_code 55 = .ok (.getfield 24, 3) := by decide +kernel
theorem d5_58 : decode prog_50_method_3_code 58 = .ok (.iload_n 1, 1) := by decide +kernel
theorem d5_59 : decode prog_50_method_3_code 59 = .ok (.iaload, 1) := by decide +kernel
theorem d5_60 : decode prog_50_method_3_code 60 = .ok (.invokevirtual 45, 3) := by decide +kernel
theorem d5_63 : decode prog_50_method_3_code 63 = .ok (.return_, 1) := by decide +kernel
theorem d6_0 : decode prog_50_method_6_code 0 = .ok (.aload_n 0, 1) := by decide +kernel
theorem d6_1 : decode prog_50_method_6_code 1 = .ok (.getfield 20, 3) := by decide +kernel
theorem d6_4 : decode prog_50_method_6_code 4 = .ok (.iload_n 1, 1) := by decide +kernel
theorem d6_5 : decode prog_50_method_6_code 5 = .ok (.iaload, 1) := by decide +kernel
theorem d6_6 : decode prog_50_method_6_code 6 = .ok (.istore_n 2, 1) := by decide +kernel
theorem d6_7 : decode prog_50_method_6_code 7 = .ok (.iload_n 1, 1) := by decide +kernel
theorem d6_8 : decode prog_50_method_6_code 8 = .ok (.ifCond .le 42, 3) := by decide +kernel
theorem d6_11 : decode prog_50_method_6_code 11 = .ok (.iload_n 1, 1) := by decide +kernel
theorem d6_12 : decode prog_50_method_6_code 12 = .ok (.iconst 1, 1) := by decide +kernel
theorem d6_13 : decode prog_50_method_6_code 13 = .ok (.isub, 1) := by decide +kernel
theorem d6_14 : decode prog_50_method_6_code 14 = .ok (.iconst 2, 1) := by decide +kernel
theorem d6_15 : decode prog_50_method_6_code 15 = .ok (.iushr, 1) := by decide +kernel
theorem d6_16 : decode prog_50_method_6_code 16 = .ok (.istore_n 3, 1) := by decide +kernel
theorem d6_17 : decode prog_50_method_6_code 17 = .ok (.aload_n 0, 1) := by decide +kernel
theorem d6_18 : decode prog_50_method_6_code 18 = .ok (.iload_n 2, 1) := by decide +kernel
theorem d6_19 : decode prog_50_method_6_code 19 = .ok (.aload_n 0, 1) := by decide +kernel
theorem d6_20 : decode prog_50_method_6_code 20 = .ok (.getfield 20, 3) := by decide +kernel
theorem d6_23 : decode prog_50_method_6_code 23 = .ok (.iload_n 3, 1) := by decide +kernel
theorem d6_24 : decode prog_50_method_6_code 24 = .ok (.iaload, 1) := by decide +kernel
theorem d6_25 : decode prog_50_method_6_code 25 = .ok (.invokevirtual 56, 3) := by decide +kernel
theorem d6_28 : decode prog_50_method_6_code 28 = .ok (.ifCond .ne 6, 3) := by decide +kernel
theorem d6_31 : decode prog_50_method_6_code 31 = .ok (.goto 19, 3) := by decide +kernel
theorem d6_34 : decode prog_50_method_6_code 34 = .ok (.aload_n 0, 1) := by decide +kernel
theorem d6_35 : decode prog_50_method_6_code 35 = .ok (.aload_n 0, 1) := by decide +kernel
theorem d6_36 : decode prog_50_method_6_code 36 = .ok (.getfield 20, 3) := by decide +kernel
theorem d6_39 : decode prog_50_method_6_code 39 = .ok (.iload_n 3, 1) := by decide +kernel
theorem d6_40 : decode prog_50_method_6_code 40 = .ok (.iaload, 1) := by decide +kernel
theorem d6_41 : decode prog_50_method_6_code 41 = .ok (.iload_n 1, 1) := by decide +kernel
theorem d6_42 : decode prog_50_method_6_code 42 = .ok (.invokevirtual 49, 3) := by decide +kernel
theorem d6_45 : decode prog_50_method_6_code 45 = .ok (.iload_n 3, 1) := by decide +kernel
theorem d6_46 : decode prog_50_method_6_code 46 = .ok (.istore_n 1, 1) := by decide +kernel
theorem d6_47 : decode prog_50_method_6_code 47 = .ok (.goto (-40), 3) := by decide +kernel
theorem d6_50 : decode prog_50_method_6_code 50 = .ok (.aload_n 0, 1) := by decide +kernel
theorem d6_51 : decode prog_50_method_6_code 51 = .ok (.iload_n 2, 1) := by decide +kernel
theorem d6_52 : decode prog_50_method_6_code 52 = .ok (.iload_n 1, 1) := by decide +kernel
theorem d6_53 : decode prog_50_method_6_code 53 = .ok (.invokevirtual 49, 3) := by decide +kernel
theorem d6_56 : decode prog_50_method_6_code 56 = .ok (.return_, 1) := by decide +kernel
theorem d7_0 : decode prog_50_method_8_code 0 = .ok (.aload_n 0, 1) := by decide +kernel
theorem d7_1 : decode prog_50_method_8_code 1 = .ok (.getfield 20, 3) := by decide +kernel
theorem d7_4 : decode prog_50_method_8_code 4 = .ok (.iload_n 2, 1) := by decide +kernel
theorem d7_5 : decode prog_50_method_8_code 5 = .ok (.iload_n 1, 1) := by decide +kernel
theorem d7_6 : decode prog_50_method_8_code 6 = .ok (.iastore, 1) := by decide +kernel
theorem d7_7 : decode prog_50_method_8_code 7 = .ok (.aload_n 0, 1) := by decide +kernel
theorem d7_8 : decode prog_50_method_8_code 8 = .ok (.getfield 24, 3) := by decide +kernel
theorem d7_11 : decode prog_50_method_8_code 11 = .ok (.iload_n 1, 1) := by decide +kernel
theorem d7_12 : decode prog_50_method_8_code 12 = .ok (.iload_n 2, 1) := by decide +kernel
theorem d7_13 : decode prog_50_method_8_code 13 = .ok (.iastore, 1) := by decide +kernel
theorem d7_14 : decode prog_50_method_8_code 14 = .ok (.return_, 1) := by decide +kernel
theorem d8_0 : decode prog_50_method_5_code 0 = .ok (.aload_n 0, 1) := by decide +kernel
theorem d8_1 : decode prog_50_method_5_code 1 = .ok (.getfield 7, 3) := by decide +kernel
theorem d8_4 : decode prog_50_method_5_code 4 = .ok (.iload_n 1, 1) := by decide +kernel
theorem d8_5 : decode prog_50_method_5_code 5 = .ok (.daload, 1) := by decide +kernel
theorem d8_6 : decode prog_50_method_5_code 6 = .ok (.dstore_n 3, 1) := by decide +kernel
theorem d8_7 : decode prog_50_method_5_code 7 = .ok (.aload_n 0, 1) := by decide +kernel
theorem d8_8 : decode prog_50_method_5_code 8 = .ok (.getfield 7, 3) := by decide +kernel
theorem d8_11 : decode prog_50_method_5_code 11 = .ok (.iload_n 2, 1) := by decide +kernel
theorem d8_12 : decode prog_50_method_5_code 12 = .ok (.daload, 1) := by decide +kernel
theorem d8_13 : decode prog_50_method_5_code 13 = .ok (.dstore 5, 2) := by decide +kernel
theorem d8_15 : decode prog_50_method_5_code 15 = .ok (.dload_n 3, 1) := by decide +kernel
theorem d8_16 : decode prog_50_method_5_code 16 = .ok (.dload 5, 2) := by decide +kernel
theorem d8_18 : decode prog_50_method_5_code 18 = .ok (.dcmp .l, 1) := by decide +kernel
theorem d8_19 : decode prog_50_method_5_code 19 = .ok (.ifCond .eq 16, 3) := by decide +kernel
theorem d8_22 : decode prog_50_method_5_code 22 = .ok (.dload_n 3, 1) := by decide +kernel
theorem d8_23 : decode prog_50_method_5_code 23 = .ok (.dload 5, 2) := by decide +kernel
theorem d8_25 : decode prog_50_method_5_code 25 = .ok (.dcmp .g, 1) := by decide +kernel
theorem d8_26 : decode prog_50_method_5_code 26 = .ok (.ifCond .ge 7, 3) := by decide +kernel
theorem d8_29 : decode prog_50_method_5_code 29 = .ok (.iconst 1, 1) := by decide +kernel
theorem d8_30 : decode prog_50_method_5_code 30 = .ok (.goto 4, 3) := by decide +kernel
theorem d8_33 : decode prog_50_method_5_code 33 = .ok (.iconst 0, 1) := by decide +kernel
theorem d8_34 : decode prog_50_method_5_code 34 = .ok (.ireturn, 1) := by decide +kernel
theorem d8_35 : decode prog_50_method_5_code 35 = .ok (.aload_n 0, 1) := by decide +kernel
theorem d8_36 : decode prog_50_method_5_code 36 = .ok (.getfield 16, 3) := by decide +kernel
theorem d8_39 : decode prog_50_method_5_code 39 = .ok (.ifCond .eq 41, 3) := by decide +kernel
theorem d8_42 : decode prog_50_method_5_code 42 = .ok (.aload_n 0, 1) := by decide +kernel
theorem d8_43 : decode prog_50_method_5_code 43 = .ok (.getfield 13, 3) := by decide +kernel
theorem d8_46 : decode prog_50_method_5_code 46 = .ok (.iload_n 1, 1) := by decide +kernel
theorem d8_47 : decode prog_50_method_5_code 47 = .ok (.daload, 1) := by decide +kernel
theorem d8_48 : decode prog_50_method_5_code 48 = .ok (.aload_n 0, 1) := by decide +kernel
theorem d8_49 : decode prog_50_method_5_code 49 = .ok (.getfield 13, 3) := by decide +kernel
theorem d8_52 : decode prog_50_method_5_code 52 = .ok (.iload_n 2, 1) := by decide +kernel
theorem d8_53 : decode prog_50_method_5_code 53 = .ok (.daload, 1) := by decide +kernel
theorem d8_54 : decode prog_50_method_5_code 54 = .ok (.dcmp .l, 1) := by decide +kernel
theorem d8_55 : decode prog_50_method_5_code 55 = .ok (.ifCond .eq 25, 3) := by decide +kernel
theorem d8_58 : decode prog_50_method_5_code 58 = .ok (.aload_n 0, 1) := by decide +kernel
theorem d8_59 : decode prog_50_method_5_code 59 = .ok (.getfield 13, 3) := by decide +kernel
theorem d8_62 : decode prog_50_method_5_code 62 = .ok (.iload_n 1, 1) := by decide +kernel
theorem d8_63 : decode prog_50_method_5_code 63 = .ok (.daload, 1) := by decide +kernel
theorem d8_64 : decode prog_50_method_5_code 64 = .ok (.aload_n 0, 1) := by decide +kernel
theorem d8_65 : decode prog_50_method_5_code 65 = .ok (.getfield 13, 3) := by decide +kernel
theorem d8_68 : decode prog_50_method_5_code 68 = .ok (.iload_n 2, 1) := by decide +kernel
theorem d8_69 : decode prog_50_method_5_code 69 = .ok (.daload, 1) := by decide +kernel
theorem d8_70 : decode prog_50_method_5_code 70 = .ok (.dcmp .l, 1) := by decide +kernel
theorem d8_71 : decode prog_50_method_5_code 71 = .ok (.ifCond .le 7, 3) := by decide +kernel
theorem d8_74 : decode prog_50_method_5_code 74 = .ok (.iconst 1, 1) := by decide +kernel
theorem d8_75 : decode prog_50_method_5_code 75 = .ok (.goto 4, 3) := by decide +kernel
theorem d8_78 : decode prog_50_method_5_code 78 = .ok (.iconst 0, 1) := by decide +kernel
theorem d8_79 : decode prog_50_method_5_code 79 = .ok (.ireturn, 1) := by decide +kernel
theorem d8_80 : decode prog_50_method_5_code 80 = .ok (.aload_n 0, 1) := by decide +kernel
theorem d8_81 : decode prog_50_method_5_code 81 = .ok (.getfield 33, 3) := by decide +kernel
theorem d8_84 : decode prog_50_method_5_code 84 = .ok (.iload_n 1, 1) := by decide +kernel
theorem d8_85 : decode prog_50_method_5_code 85 = .ok (.laload, 1) := by decide +kernel
theorem d8_86 : decode prog_50_method_5_code 86 = .ok (.aload_n 0, 1) := by decide +kernel
theorem d8_87 : decode prog_50_method_5_code 87 = .ok (.getfield 33, 3) := by decide +kernel
theorem d8_90 : decode prog_50_method_5_code 90 = .ok (.iload_n 2, 1) := by decide +kernel
theorem d8_91 : decode prog_50_method_5_code 91 = .ok (.laload, 1) := by decide +kernel
theorem d8_92 : decode prog_50_method_5_code 92 = .ok (.lcmp, 1) := by decide +kernel
theorem d8_93 : decode prog_50_method_5_code 93 = .ok (.ifCond .ge 7, 3) := by decide +kernel
theorem d8_96 : decode prog_50_method_5_code 96 = .ok (.iconst 1, 1) := by decide +kernel
theorem d8_97 : decode prog_50_method_5_code 97 = .ok (.goto 4, 3) := by decide +kernel
theorem d8_100 : decode prog_50_method_5_code 100 = .ok (.iconst 0, 1) := by decide +kernel
theorem d8_101 : decode prog_50_method_5_code 101 = .ok (.ireturn, 1) := by decide +kernel
theorem d9_0 : decode prog_50_method_4_code 0 = .ok (.aload_n 0, 1) := by decide +kernel
theorem d9_1 : decode prog_50_method_4_code 1 = .ok (.getfield 20, 3) := by decide +kernel
theorem d9_4 : decode prog_50_method_4_code 4 = .ok (.iconst 0, 1) := by decide +kernel
theorem d9_5 : decode prog_50_method_4_code 5 = .ok (.iaload, 1) := by decide +kernel
theorem d9_6 : decode prog_50_method_4_code 6 = .ok (.istore_n 1, 1) := by decide +kernel
theorem d9_7 : decode prog_50_method_4_code 7 = .ok (.aload_n 0, 1) := by decide +kernel
theorem d9_8 : decode prog_50_method_4_code 8 = .ok (.getfield 24, 3) := by decide +kernel
theorem d9_11 : decode prog_50_method_4_code 11 = .ok (.iload_n 1, 1) := by decide +kernel
theorem d9_12 : decode prog_50_method_4_code 12 = .ok (.iconst (-1), 1) := by decide +kernel
theorem d9_13 : decode prog_50_method_4_code 13 = .ok (.iastore, 1) := by decide +kernel
theorem d9_14 : decode prog_50_method_4_code 14 = .ok (.aload_n 0, 1) := by decide +kernel
theorem d9_15 : decode prog_50_method_4_code 15 = .ok (.dup, 1) := by decide +kernel
theorem d9_16 : decode prog_50_method_4_code 16 = .ok (.getfield 37, 3) := by decide +kernel
theorem d9_19 : decode prog_50_method_4_code 19 = .ok (.iconst 1, 1) := by decide +kernel
theorem d9_20 : decode prog_50_method_4_code 20 = .ok (.isub, 1) := by decide +kernel
theorem d9_21 : decode prog_50_method_4_code 21 = .ok (.putfield 37, 3) := by decide +kernel
theorem d9_24 : decode prog_50_method_4_code 24 = .ok (.aload_n 0, 1) := by decide +kernel
theorem d9_25 : decode prog_50_method_4_code 25 = .ok (.getfield 37, 3) := by decide +kernel
theorem d9_28 : decode prog_50_method_4_code 28 = .ok (.ifCond .le 22, 3) := by decide +kernel
theorem d9_31 : decode prog_50_method_4_code 31 = .ok (.aload_n 0, 1) := by decide +kernel
theorem d9_32 : decode prog_50_method_4_code 32 = .ok (.aload_n 0, 1) := by decide +kernel
theorem d9_33 : decode prog_50_method_4_code 33 = .ok (.getfield 20, 3) := by decide +kernel
theorem d9_36 : decode prog_50_method_4_code 36 = .ok (.aload_n 0, 1) := by decide +kernel
theorem d9_37 : decode prog_50_method_4_code 37 = .ok (.getfield 37, 3) := by decide +kernel
theorem d9_40 : decode prog_50_method_4_code 40 = .ok (.iaload, 1) := by decide +kernel
theorem d9_41 : decode prog_50_method_4_code 41 = .ok (.iconst 0, 1) := by decide +kernel
theorem d9_42 : decode prog_50_method_4_code 42 = .ok (.invokevirtual 49, 3) := by decide +kernel
theorem d9_45 : decode prog_50_method_4_code 45 = .ok (.aload_n 0, 1) := by decide +kernel
theorem d9_46 : decode prog_50_method_4_code 46 = .ok (.iconst 0, 1) := by decide +kernel
theorem d9_47 : decode prog_50_method_4_code 47 = .ok (.invokevirtual 53, 3) := by decide +kernel
theorem d9_50 : decode prog_50_method_4_code 50 = .ok (.iload_n 1, 1) := by decide +kernel
theorem d9_51 : decode prog_50_method_4_code 51 = .ok (.ireturn, 1) := by decide +kernel
theorem d10_0 : decode prog_50_method_7_code 0 = .ok (.aload_n 0, 1) := by decide +kernel
theorem d10_1 : decode prog_50_method_7_code 1 = .ok (.getfield 20, 3) := by decide +kernel
theorem d10_4 : decode prog_50_method_7_code 4 = .ok (.iload_n 1, 1) := by decide +kernel
theorem d10_5 : decode prog_50_method_7_code 5 = .ok (.iaload, 1) := by decide +kernel
theorem d10_6 : decode prog_50_method_7_code 6 = .ok (.istore_n 2, 1) := by decide +kernel
theorem d10_7 : decode prog_50_method_7_code 7 = .ok (.ldc2_w 60, 3) := by decide +kernel
theorem d10_10 : decode prog_50_method_7_code 10 = .ok (.iload_n 1, 1) := by decide +kernel
theorem d10_11 : decode prog_50_method_7_code 11 = .ok (.i2l, 1) := by decide +kernel
theorem d10_12 : decode prog_50_method_7_code 12 = .ok (.lmul, 1) := by decide +kernel
theorem d10_13 : decode prog_50_method_7_code 13 = .ok (.lconst 1, 1) := by decide +kernel
theorem d10_14 : decode prog_50_method_7_code 14 = .ok (.ladd, 1) := by decide +kernel
theorem d10_15 : decode prog_50_method_7_code 15 = .ok (.aload_n 0, 1) := by decide +kernel
theorem d10_16 : decode prog_50_method_7_code 16 = .ok (.getfield 37, 3) := by decide +kernel
theorem d10_19 : decode prog_50_method_7_code 19 = .ok (.i2l, 1) := by decide +kernel
theorem d10_20 : decode prog_50_method_7_code 20 = .ok (.lcmp, 1) := by decide +kernel
theorem d10_21 : decode prog_50_method_7_code 21 = .ok (.ifCond .ge 108, 3) := by decide +kernel
theorem d10_129 : decode prog_50_method_7_code 129 = .ok (.aload_n 0, 1) := by decide +kernel
theorem d10_130 : decode prog_50_method_7_code 130 = .ok (.iload_n 2, 1) := by decide +kernel
theorem d10_131 : decode prog_50_method_7_code 131 = .ok (.iload_n 1, 1) := by decide +kernel
theorem d10_132 : decode prog_50_method_7_code 132 = .ok (.invokevirtual 49, 3) := by decide +kernel
theorem d10_135 : decode prog_50_method_7_code 135 = .ok (.return_, 1) := by decide +kernel
theorem ef3 (m : MethodId) (x0 : Addr) (x1 : Int32) : entryFrame m #[(.ref x0), (.int x1)] 4 = mkF m 0 #[.val (.ref x0), .val (.int x1), .unset, .unset] [] := by first | (simp [entryFrame, mkF, argsToLocals, Value.category]; done) | rfl
theorem ef1 (m : MethodId) (x0 : Addr) (x1 : Addr) (x2 : Addr) : entryFrame m #[(.ref x0), (.ref x1), (.ref x2)] 3 = mkF m 0 #[.val (.ref x0), .val (.ref x1), .val (.ref x2)] [] := by first | (simp [entryFrame, mkF, argsToLocals, Value.category]; done) | rfl
theorem ef0 (m : MethodId) (x0 : Int32) (x1 : Int32) (x2 : Int32) (x3 : Int32) (x4 : Int32) : entryFrame m #[(.int x0), (.int x1), (.int x2), (.int x3), (.int x4)] maxLocals = mkF m 0 #[.val (.int x0), .val (.int x1), .val (.int x2), .val (.int x3), .val (.int x4), .unset, .unset, .unset, .unset, .unset, .unset, .unset, .unset, .unset, .unset, .unset] [] := by first | (simp [entryFrame, mkF, argsToLocals, Value.category, maxLocals]; done) | rfl
theorem ef4 (m : MethodId) (x0 : Addr) : entryFrame m #[(.ref x0)] 1 = mkF m 0 #[.val (.ref x0)] [] := by first | (simp [entryFrame, mkF, argsToLocals, Value.category]; done) | rfl
theorem ef5 (m : MethodId) (x0 : Addr) (x1 : Int32) : entryFrame m #[(.ref x0), (.int x1)] 2 = mkF m 0 #[.val (.ref x0), .val (.int x1)] [] := by first | (simp [entryFrame, mkF, argsToLocals, Value.category]; done) | rfl
theorem ef6 (m : MethodId) (x0 : Addr) (x1 : Int32) : entryFrame m #[(.ref x0), (.int x1)] 4 = mkF m 0 #[.val (.ref x0), .val (.int x1), .unset, .unset] [] := by first | (simp [entryFrame, mkF, argsToLocals, Value.category]; done) | rfl
theorem ef7 (m : MethodId) (x0 : Addr) (x1 : Int32) (x2 : Int32) : entryFrame m #[(.ref x0), (.int x1), (.int x2)] 3 = mkF m 0 #[.val (.ref x0), .val (.int x1), .val (.int x2)] [] := by first | (simp [entryFrame, mkF, argsToLocals, Value.category]; done) | rfl
theorem ef8 (m : MethodId) (x0 : Addr) (x1 : Int32) (x2 : Int32) : entryFrame m #[(.ref x0), (.int x1), (.int x2)] 7 = mkF m 0 #[.val (.ref x0), .val (.int x1), .val (.int x2), .unset, .unset, .unset, .unset] [] := by first | (simp [entryFrame, mkF, argsToLocals, Value.category]; done) | rfl
theorem ef9 (m : MethodId) (x0 : Addr) : entryFrame m #[(.ref x0)] 2 = mkF m 0 #[.val (.ref x0), .unset] [] := by first | (simp [entryFrame, mkF, argsToLocals, Value.category]; done) | rfl
theorem ef10 (m : MethodId) (x0 : Addr) (x1 : Int32) : entryFrame m #[(.ref x0), (.int x1)] 7 = mkF m 0 #[.val (.ref x0), .val (.int x1), .unset, .unset, .unset, .unset, .unset] [] := by first | (simp [entryFrame, mkF, argsToLocals, Value.category]; done) | rfl
def rm4 : Room := { frames := 0, cells := 0, slots := 0, locals := 0 }
def rm7 : Room := { frames := 0, cells := 0, slots := 0, locals := 0 }
def rm8 : Room := { frames := 0, cells := 0, slots := 0, locals := 0 }
def rm6 : Room := { frames := 1, cells := 0, slots := 0, locals := 20 }
def rm10 : Room := { frames := 1, cells := 0, slots := 0, locals := 16 }
def rm5 : Room := { frames := 2, cells := 0, slots := 0, locals := 36 }
def rm9 : Room := { frames := 2, cells := 0, slots := 0, locals := 36 }
def rm1 : Room := { frames := 1, cells := 3, slots := 9, locals := 30 }
def rm3 : Room := { frames := 0, cells := 0, slots := 0, locals := 0 }
set_option maxRecDepth 65536 in
set_option maxHeartbeats 40000000 in
theorem con4 (G : Gx) (hw : ∀ d ∈ tables_1, d.before G.a0 G.Z = true) (x e c a p g : Addr) (sz : Int32) (hs ps : List Int32) (h : Heap) (HQ : Hq G h x e c a p g sz hs ps) :
    Con G (⟨"com/example/ravel/ravel/search/NodeHeap", "isEmpty", "()Z"⟩ : MethodName) prog_50_method_2_code 1 (some .boolean) rm4 #[(.ref x)] h (fun v h' => ∃ z : Int32, v = some (.int z) ∧ h = h' ∧ ((z = 1 ∧ sz = 0) ∨ (z = 0 ∧ ¬ sz = 0))) := by
  refine Con.of (W := tables_1) (plainFor_of_name pn4) hw (fun mm => ef4 mm x) (fun K C => ?_)
  have C : Cx G K "com/example/ravel/ravel/search/NodeHeap" "isEmpty" prog_50_method_2_code 1 (some .boolean) tables_1 := C
  generalize hQ : (fun v h' => ∃ z : Int32, v = some (.int z) ∧ h = h' ∧ ((z = 1 ∧ sz = 0) ∨ (z = 0 ∧ ¬ sz = 0)) : Option Value → Heap → Prop) = Q
  obtain ⟨gd, of, ds, cs, gs, ne_x_a, ne_x_p, ne_x_g, ne_a_p, ne_a_g, ne_p_g, ne_e_x, ne_e_a, ne_e_p, ne_e_g, ne_c_x, ne_c_a, ne_c_p, ne_c_g, g_x, g_a, g_p, g_g, E_x, F_x_estimate, F_x_cost, F_x_guided, F_x_heap, F_x_place, F_x_given, F_x_offers, F_x_size, A_e, D_e, A_c, D_c, A_a, R_a, A_p, L_p, A_g, L_g⟩ := HQ
  have ne_a_x := Ne.symm ne_x_a
  have ne_p_x := Ne.symm ne_x_p
  have ne_g_x := Ne.symm ne_x_g
  have ne_p_a := Ne.symm ne_a_p
  have ne_g_a := Ne.symm ne_a_g
  have ne_g_p := Ne.symm ne_p_g
  have ne_x_e := Ne.symm ne_e_x
  have ne_a_e := Ne.symm ne_e_a
  have ne_p_e := Ne.symm ne_e_p
  have ne_g_e := Ne.symm ne_e_g
  have ne_x_c := Ne.symm ne_c_x
  have ne_a_c := Ne.symm ne_c_a
  have ne_p_c := Ne.symm ne_c_p
  have ne_g_c := Ne.symm ne_c_g
  refine N.aloadN C (pc' := 1) d4_0 rfl rfl rfl ?_
  refine N.getF C (pc' := 4) d4_1 (C.w (i := 34) rfl) F_x_size rfl ?_
  refine N.ifc C (pt := 11) (pf := 7) d4_4 rfl rfl (fun (hc4 : ¬ sz = (0 : Int32)) => ?_) (fun (hc4 : sz = (0 : Int32)) => ?_)
  · have hi4 : ¬ sz.toInt = 0 := neI hc4
    refine N.iconst C (pc' := 12) (z := 0) d4_11 rfl rfl ?_
    exact N.retN C (by simp) (z' := (0 : Int32)) rfl d4_12 (by decide) (by decide) (by subst hQ; exact ⟨(0 : Int32), rfl, rfl, Or.inr ⟨rfl, hc4⟩⟩)
  · have hi4 : sz.toInt = 0 := eqI hc4
    refine N.iconst C (pc' := 8) (z := 1) d4_7 rfl rfl ?_
    refine N.goto C (pc' := 12) d4_8 rfl ?_
    exact N.retN C (by simp) (z' := (1 : Int32)) rfl d4_12 (by decide) (by decide) (by subst hQ; exact ⟨(1 : Int32), rfl, rfl, Or.inl ⟨rfl, hc4⟩⟩)
set_option maxRecDepth 65536 in
set_option maxHeartbeats 40000000 in
theorem con7 (G : Gx) (hw : ∀ d ∈ tables_1, d.before G.a0 G.Z = true) (x e c a p g : Addr) (n k sz : Int32) (hs ps : List Int32) (h : Heap) (hn0 : 0 ≤ n.toInt) (hn1 : n.toInt < 3) (hk0 : 0 ≤ k.toInt) (hk1 : k.toInt < 3) (Z0 : G.n0 ≤ h.size) (HQ : Hq G h x e c a p g sz hs ps) :
    Con G (⟨"com/example/ravel/ravel/search/NodeHeap", "put", "(II)V"⟩ : MethodName) prog_50_method_8_code 3 none rm7 #[(.ref x), (.int n), (.int k)] h (fun v h' => v = none ∧ G.n0 ≤ h'.size ∧ Hq G h' x e c a p g sz (hs.set k.toInt.toNat n) (ps.set n.toInt.toNat k)) := by
  refine Con.of (W := tables_1) (plainFor_of_name pn7) hw (fun mm => ef7 mm x n k) (fun K C => ?_)
  have C : Cx G K "com/example/ravel/ravel/search/NodeHeap" "put" prog_50_method_8_code 3 none tables_1 := C
  generalize hQ : (fun v h' => v = none ∧ G.n0 ≤ h'.size ∧ Hq G h' x e c a p g sz (hs.set k.toInt.toNat n) (ps.set n.toInt.toNat k) : Option Value → Heap → Prop) = Q
  obtain ⟨gd, of, ds, cs, gs, ne_x_a, ne_x_p, ne_x_g, ne_a_p, ne_a_g, ne_p_g, ne_e_x, ne_e_a, ne_e_p, ne_e_g, ne_c_x, ne_c_a, ne_c_p, ne_c_g, g_x, g_a, g_p, g_g, E_x, F_x_estimate, F_x_cost, F_x_guided, F_x_heap, F_x_place, F_x_given, F_x_offers, F_x_size, A_e, D_e, A_c, D_c, A_a, R_a, A_p, L_p, A_g, L_g⟩ := HQ
  have ne_a_x := Ne.symm ne_x_a
  have ne_p_x := Ne.symm ne_x_p
  have ne_g_x := Ne.symm ne_x_g
  have ne_p_a := Ne.symm ne_a_p
  have ne_g_a := Ne.symm ne_a_g
  have ne_g_p := Ne.symm ne_p_g
  have ne_x_e := Ne.symm ne_e_x
  have ne_a_e := Ne.symm ne_e_a
  have ne_p_e := Ne.symm ne_e_p
  have ne_g_e := Ne.symm ne_e_g
  have ne_x_c := Ne.symm ne_c_x
  have ne_a_c := Ne.symm ne_c_a
  have ne_p_c := Ne.symm ne_c_p
  have ne_g_c := Ne.symm ne_c_g
  refine N.aloadN C (pc' := 1) d7_0 rfl rfl rfl ?_
  refine N.getF C (pc' := 4) d7_1 (C.w (i := 18) rfl) F_x_heap rfl ?_
  refine N.iloadN C (pc' := 5) d7_4 rfl rfl ?_
  refine N.iloadN C (pc' := 6) d7_5 rfl rfl ?_
  refine N.iastore C (pc' := 7) (i := k.toInt.toNat) d7_6 A_a (by omega) (by rw [List.length_map, R_a.1]; omega) g_a rfl (fun h6_1 W6 A_a => ?_)
  have Z0 : G.n0 ≤ _ := (Wr.size W6).symm ▸ Z0
  have F_x_estimate := F_x_estimate.other W6 (Or.inl ne_x_a)
  have F_x_cost := F_x_cost.other W6 (Or.inl ne_x_a)
  have F_x_guided := F_x_guided.other W6 (Or.inl ne_x_a)
  have F_x_heap := F_x_heap.other W6 (Or.inl ne_x_a)
  have F_x_place := F_x_place.other W6 (Or.inl ne_x_a)
  have F_x_given := F_x_given.other W6 (Or.inl ne_x_a)
  have F_x_offers := F_x_offers.other W6 (Or.inl ne_x_a)
  have F_x_size := F_x_size.other W6 (Or.inl ne_x_a)
  have E_x := E_x.wr W6
  have A_e := A_e.other W6 ne_e_a
  have A_c := A_c.other W6 ne_c_a
  have A_p := A_p.other W6 ne_p_a
  have A_g := A_g.other W6 ne_g_a
  have A_a : Av G.Z h6_1 a .int ((hs.set k.toInt.toNat n).map .int) := by rw [List.map_set]; exact A_a
  refine N.aloadN C (pc' := 8) d7_7 rfl rfl rfl ?_
  refine N.getF C (pc' := 11) d7_8 (C.w (i := 20) rfl) F_x_place rfl ?_
  refine N.iloadN C (pc' := 12) d7_11 rfl rfl ?_
  refine N.iloadN C (pc' := 13) d7_12 rfl rfl ?_
  refine N.iastore C (pc' := 14) (i := n.toInt.toNat) d7_13 A_p (by omega) (by rw [List.length_map, L_p]; omega) g_p rfl (fun h13_2 W13 A_p => ?_)
  have Z0 : G.n0 ≤ _ := (Wr.size W13).symm ▸ Z0
  have F_x_estimate := F_x_estimate.other W13 (Or.inl ne_x_p)
  have F_x_cost := F_x_cost.other W13 (Or.inl ne_x_p)
  have F_x_guided := F_x_guided.other W13 (Or.inl ne_x_p)
  have F_x_heap := F_x_heap.other W13 (Or.inl ne_x_p)
  have F_x_place := F_x_place.other W13 (Or.inl ne_x_p)
  have F_x_given := F_x_given.other W13 (Or.inl ne_x_p)
  have F_x_offers := F_x_offers.other W13 (Or.inl ne_x_p)
  have F_x_size := F_x_size.other W13 (Or.inl ne_x_p)
  have E_x := E_x.wr W13
  have A_e := A_e.other W13 ne_e_p
  have A_c := A_c.other W13 ne_c_p
  have A_a := A_a.other W13 ne_a_p
  have A_g := A_g.other W13 ne_g_p
  have A_p : Av G.Z h13_2 p .int ((ps.set n.toInt.toNat k).map .int) := by rw [List.map_set]; exact A_p
  exact N.ret0 C rfl d7_14 (by decide) (by decide) (by subst hQ; exact ⟨rfl, Z0, ⟨gd, of, ds, cs, gs, ne_x_a, ne_x_p, ne_x_g, ne_a_p, ne_a_g, ne_p_g, ne_e_x, ne_e_a, ne_e_p, ne_e_g, ne_c_x, ne_c_a, ne_c_p, ne_c_g, g_x, g_a, g_p, g_g, E_x, F_x_estimate, F_x_cost, F_x_guided, F_x_heap, F_x_place, F_x_given, F_x_offers, F_x_size, A_e, D_e, A_c, D_c, A_a, own_rng_set R_a hn0 hn1, A_p, (by simp [L_p]), A_g, L_g⟩⟩)
set_option maxRecDepth 65536 in
set_option maxHeartbeats 40000000 in
theorem con8 (G : Gx) (hw : ∀ d ∈ tables_1, d.before G.a0 G.Z = true) (x e c a p g : Addr) (u t sz : Int32) (hs ps : List Int32) (h : Heap) (hu0 : 0 ≤ u.toInt) (hu1 : u.toInt < 3) (ht0 : 0 ≤ t.toInt) (ht1 : t.toInt < 3) (HQ : Hq G h x e c a p g sz hs ps) :
    Con G (⟨"com/example/ravel/ravel/search/NodeHeap", "before", "(II)Z"⟩ : MethodName) prog_50_method_5_code 7 (some .boolean) rm8 #[(.ref x), (.int u), (.int t)] h (fun v h' => ∃ z : Int32, v = some (.int z) ∧ h = h') := by
  refine Con.of (W := tables_1) (plainFor_of_name pn8) hw (fun mm => ef8 mm x u t) (fun K C => ?_)
  have C : Cx G K "com/example/ravel/ravel/search/NodeHeap" "before" prog_50_method_5_code 7 (some .boolean) tables_1 := C
  generalize hQ : (fun v h' => ∃ z : Int32, v = some (.int z) ∧ h = h' : Option Value → Heap → Prop) = Q
  obtain ⟨gd, of, ds, cs, gs, ne_x_a, ne_x_p, ne_x_g, ne_a_p, ne_a_g, ne_p_g, ne_e_x, ne_e_a, ne_e_p, ne_e_g, ne_c_x, ne_c_a, ne_c_p, ne_c_g, g_x, g_a, g_p, g_g, E_x, F_x_estimate, F_x_cost, F_x_guided, F_x_heap, F_x_place, F_x_given, F_x_offers, F_x_size, A_e, D_e, A_c, D_c, A_a, R_a, A_p, L_p, A_g, L_g⟩ := HQ
  have ne_a_x := Ne.symm ne_x_a
  have ne_p_x := Ne.symm ne_x_p
  have ne_g_x := Ne.symm ne_x_g
  have ne_p_a := Ne.symm ne_a_p
  have ne_g_a := Ne.symm ne_a_g
  have ne_g_p := Ne.symm ne_p_g
  have ne_x_e := Ne.symm ne_e_x
  have ne_a_e := Ne.symm ne_e_a
  have ne_p_e := Ne.symm ne_e_p
  have ne_g_e := Ne.symm ne_e_g
  have ne_x_c := Ne.symm ne_c_x
  have ne_a_c := Ne.symm ne_c_a
  have ne_p_c := Ne.symm ne_c_p
  have ne_g_c := Ne.symm ne_c_g
  refine N.aloadN C (pc' := 1) d8_0 rfl rfl rfl ?_
  refine N.getF C (pc' := 4) d8_1 (C.w (i := 11) rfl) F_x_estimate rfl ?_
  refine N.iloadN C (pc' := 5) d8_4 rfl rfl ?_
  obtain ⟨d1, hd1⟩ := D_e.2 u.toInt.toNat (by omega)
  refine N.daload C (pc' := 6) (i := u.toInt.toNat) (v := (.double d1)) d8_5 A_e (by omega) hd1 rfl ?_
  refine N.dstoreN C (pc' := 7) (ls' := #[.val (.ref x), .val (.int u), .val (.int t), .val (.double d1), .second, .unset, .unset]) d8_6 rfl rfl ?_
  refine N.aloadN C (pc' := 8) d8_7 rfl rfl rfl ?_
  refine N.getF C (pc' := 11) d8_8 (C.w (i := 11) rfl) F_x_estimate rfl ?_
  refine N.iloadN C (pc' := 12) d8_11 rfl rfl ?_
  obtain ⟨d2, hd2⟩ := D_e.2 t.toInt.toNat (by omega)
  refine N.daload C (pc' := 13) (i := t.toInt.toNat) (v := (.double d2)) d8_12 A_e (by omega) hd2 rfl ?_
  refine N.dstore C (pc' := 15) (ls' := #[.val (.ref x), .val (.int u), .val (.int t), .val (.double d1), .second, .val (.double d2), .second]) d8_13 rfl rfl ?_
  refine N.dloadN C (pc' := 16) d8_15 rfl rfl ?_
  refine N.dload C (pc' := 18) d8_16 rfl rfl ?_
  refine N.dcmp C (pc' := 19) d8_18 rfl ?_
  generalize cmpValue (FP.dcmp d1 d2) .l = cv3
  refine N.ifc C (pt := 35) (pf := 22) d8_19 rfl rfl (fun (hc19 : cv3 = (0 : Int32)) => ?_) (fun (hc19 : ¬ cv3 = (0 : Int32)) => ?_)
  · have hi19 : cv3.toInt = 0 := eqI hc19
    refine N.aloadN C (pc' := 36) d8_35 rfl rfl rfl ?_
    refine N.getF C (pc' := 39) d8_36 (C.w (i := 15) rfl) F_x_guided rfl ?_
    refine N.ifc C (pt := 80) (pf := 42) d8_39 rfl rfl (fun (hc39 : gd = (0 : Int32)) => ?_) (fun (hc39 : ¬ gd = (0 : Int32)) => ?_)
    · have hi39 : gd.toInt = 0 := eqI hc39
      refine N.aloadN C (pc' := 81) d8_80 rfl rfl rfl ?_
      refine N.getF C (pc' := 84) d8_81 (C.w (i := 27) rfl) F_x_given rfl ?_
      refine N.iloadN C (pc' := 85) d8_84 rfl rfl ?_
      obtain ⟨d4, hd4⟩ := L_g.2 u.toInt.toNat (by omega)
      refine N.laload C (pc' := 86) (i := u.toInt.toNat) (v := (.long d4)) d8_85 A_g (by omega) hd4 rfl ?_
      refine N.aloadN C (pc' := 87) d8_86 rfl rfl rfl ?_
      refine N.getF C (pc' := 90) d8_87 (C.w (i := 27) rfl) F_x_given rfl ?_
      refine N.iloadN C (pc' := 91) d8_90 rfl rfl ?_
      obtain ⟨d5, hd5⟩ := L_g.2 t.toInt.toNat (by omega)
      refine N.laload C (pc' := 92) (i := t.toInt.toNat) (v := (.long d5)) d8_91 A_g (by omega) hd5 rfl ?_
      refine N.lcmp C (pc' := 93) d8_92 rfl ?_
      refine N.lif C (pt := 100) (pf := 96) d8_93 rfl rfl (fun (hc93 : d5.toInt ≤ d4.toInt) => ?_) (fun (hc93 : d4.toInt < d5.toInt) => ?_)
      · refine N.iconst C (pc' := 101) (z := 0) d8_100 rfl rfl ?_
        exact N.retN C (by simp) (z' := (0 : Int32)) rfl d8_101 (by decide) (by decide) (by subst hQ; exact ⟨_, rfl, rfl⟩)
      · refine N.iconst C (pc' := 97) (z := 1) d8_96 rfl rfl ?_
        refine N.goto C (pc' := 101) d8_97 rfl ?_
        exact N.retN C (by simp) (z' := (1 : Int32)) rfl d8_101 (by decide) (by decide) (by subst hQ; exact ⟨_, rfl, rfl⟩)
    · have hi39 : ¬ gd.toInt = 0 := neI hc39
      refine N.aloadN C (pc' := 43) d8_42 rfl rfl rfl ?_
      refine N.getF C (pc' := 46) d8_43 (C.w (i := 13) rfl) F_x_cost rfl ?_
      refine N.iloadN C (pc' := 47) d8_46 rfl rfl ?_
      obtain ⟨d6, hd6⟩ := D_c.2 u.toInt.toNat (by omega)
      refine N.daload C (pc' := 48) (i := u.toInt.toNat) (v := (.double d6)) d8_47 A_c (by omega) hd6 rfl ?_
      refine N.aloadN C (pc' := 49) d8_48 rfl rfl rfl ?_
      refine N.getF C (pc' := 52) d8_49 (C.w (i := 13) rfl) F_x_cost rfl ?_
      refine N.iloadN C (pc' := 53) d8_52 rfl rfl ?_
      obtain ⟨d7, hd7⟩ := D_c.2 t.toInt.toNat (by omega)
      refine N.daload C (pc' := 54) (i := t.toInt.toNat) (v := (.double d7)) d8_53 A_c (by omega) hd7 rfl ?_
      refine N.dcmp C (pc' := 55) d8_54 rfl ?_
      generalize cmpValue (FP.dcmp d6 d7) .l = cv8
      refine N.ifc C (pt := 80) (pf := 58) d8_55 rfl rfl (fun (hc55 : cv8 = (0 : Int32)) => ?_) (fun (hc55 : ¬ cv8 = (0 : Int32)) => ?_)
      · have hi55 : cv8.toInt = 0 := eqI hc55
        refine N.aloadN C (pc' := 81) d8_80 rfl rfl rfl ?_
        refine N.getF C (pc' := 84) d8_81 (C.w (i := 27) rfl) F_x_given rfl ?_
        refine N.iloadN C (pc' := 85) d8_84 rfl rfl ?_
        obtain ⟨d9, hd9⟩ := L_g.2 u.toInt.toNat (by omega)
        refine N.laload C (pc' := 86) (i := u.toInt.toNat) (v := (.long d9)) d8_85 A_g (by omega) hd9 rfl ?_
        refine N.aloadN C (pc' := 87) d8_86 rfl rfl rfl ?_
        refine N.getF C (pc' := 90) d8_87 (C.w (i := 27) rfl) F_x_given rfl ?_
        refine N.iloadN C (pc' := 91) d8_90 rfl rfl ?_
        obtain ⟨d10, hd10⟩ := L_g.2 t.toInt.toNat (by omega)
        refine N.laload C (pc' := 92) (i := t.toInt.toNat) (v := (.long d10)) d8_91 A_g (by omega) hd10 rfl ?_
        refine N.lcmp C (pc' := 93) d8_92 rfl ?_
        refine N.lif C (pt := 100) (pf := 96) d8_93 rfl rfl (fun (hc93 : d10.toInt ≤ d9.toInt) => ?_) (fun (hc93 : d9.toInt < d10.toInt) => ?_)
        · refine N.iconst C (pc' := 101) (z := 0) d8_100 rfl rfl ?_
          exact N.retN C (by simp) (z' := (0 : Int32)) rfl d8_101 (by decide) (by decide) (by subst hQ; exact ⟨_, rfl, rfl⟩)
        · refine N.iconst C (pc' := 97) (z := 1) d8_96 rfl rfl ?_
          refine N.goto C (pc' := 101) d8_97 rfl ?_
          exact N.retN C (by simp) (z' := (1 : Int32)) rfl d8_101 (by decide) (by decide) (by subst hQ; exact ⟨_, rfl, rfl⟩)
      · have hi55 : ¬ cv8.toInt = 0 := neI hc55
        refine N.aloadN C (pc' := 59) d8_58 rfl rfl rfl ?_
        refine N.getF C (pc' := 62) d8_59 (C.w (i := 13) rfl) F_x_cost rfl ?_
        refine N.iloadN C (pc' := 63) d8_62 rfl rfl ?_
        obtain ⟨d11, hd11⟩ := D_c.2 u.toInt.toNat (by omega)
        refine N.daload C (pc' := 64) (i := u.toInt.toNat) (v := (.double d11)) d8_63 A_c (by omega) hd11 rfl ?_
        refine N.aloadN C (pc' := 65) d8_64 rfl rfl rfl ?_
        refine N.getF C (pc' := 68) d8_65 (C.w (i := 13) rfl) F_x_cost rfl ?_
        refine N.iloadN C (pc' := 69) d8_68 rfl rfl ?_
        obtain ⟨d12, hd12⟩ := D_c.2 t.toInt.toNat (by omega)
        refine N.daload C (pc' := 70) (i := t.toInt.toNat) (v := (.double d12)) d8_69 A_c (by omega) hd12 rfl ?_
        refine N.dcmp C (pc' := 71) d8_70 rfl ?_
        generalize cmpValue (FP.dcmp d11 d12) .l = cv13
        refine N.ifc C (pt := 78) (pf := 74) d8_71 rfl rfl (fun (hc71 : cv13.toInt ≤ 0) => ?_) (fun (hc71 : 0 < cv13.toInt) => ?_)
        · refine N.iconst C (pc' := 79) (z := 0) d8_78 rfl rfl ?_
          exact N.retN C (by simp) (z' := (0 : Int32)) rfl d8_79 (by decide) (by decide) (by subst hQ; exact ⟨_, rfl, rfl⟩)
        · refine N.iconst C (pc' := 75) (z := 1) d8_74 rfl rfl ?_
          refine N.goto C (pc' := 79) d8_75 rfl ?_
          exact N.retN C (by simp) (z' := (1 : Int32)) rfl d8_79 (by decide) (by decide) (by subst hQ; exact ⟨_, rfl, rfl⟩)
  · have hi19 : ¬ cv3.toInt = 0 := neI hc19
    refine N.dloadN C (pc' := 23) d8_22 rfl rfl ?_
    refine N.dload C (pc' := 25) d8_23 rfl rfl ?_
    refine N.dcmp C (pc' := 26) d8_25 rfl ?_
    generalize cmpValue (FP.dcmp d1 d2) .g = cv14
    refine N.ifc C (pt := 33) (pf := 29) d8_26 rfl rfl (fun (hc26 : 0 ≤ cv14.toInt) => ?_) (fun (hc26 : cv14.toInt < 0) => ?_)
    · refine N.iconst C (pc' := 34) (z := 0) d8_33 rfl rfl ?_
      exact N.retN C (by simp) (z' := (0 : Int32)) rfl d8_34 (by decide) (by decide) (by subst hQ; exact ⟨_, rfl, rfl⟩)
    · refine N.iconst C (pc' := 30) (z := 1) d8_29 rfl rfl ?_
      refine N.goto C (pc' := 34) d8_30 rfl ?_
      exact N.retN C (by simp) (z' := (1 : Int32)) rfl d8_34 (by decide) (by decide) (by subst hQ; exact ⟨_, rfl, rfl⟩)
set_option maxRecDepth 65536 in
set_option maxHeartbeats 40000000 in
theorem con_up0 (G : Gx) (hw : ∀ d ∈ tables_1, d.before G.a0 G.Z = true) (x e c a p g : Addr) (sz : Int32) (hs ps : List Int32) (h : Heap) (Z0 : G.n0 ≤ h.size) (HQ : Hq G h x e c a p g sz hs ps) :
    Con G (⟨"com/example/ravel/ravel/search/NodeHeap", "up", "(I)V"⟩ : MethodName) prog_50_method_6_code 4 none rm6 #[(.ref x), (.int (0 : Int32))] h (fun v h' => v = none ∧ G.n0 ≤ h'.size ∧ ∃ y : Int32, hs[0]? = some y ∧ 0 ≤ y.toInt ∧ y.toInt < 3 ∧ Hq G h' x e c a p g sz (hs.set 0 y) (ps.set y.toInt.toNat 0)) := by
  refine Con.of (W := tables_1) (plainFor_of_name pn6) hw (fun mm => ef6 mm x (0 : Int32)) (fun K C => ?_)
  have C : Cx G K "com/example/ravel/ravel/search/NodeHeap" "up" prog_50_method_6_code 4 none tables_1 := C
  generalize hQ : (fun v h' => v = none ∧ G.n0 ≤ h'.size ∧ ∃ y : Int32, hs[0]? = some y ∧ 0 ≤ y.toInt ∧ y.toInt < 3 ∧ Hq G h' x e c a p g sz (hs.set 0 y) (ps.set y.toInt.toNat 0) : Option Value → Heap → Prop) = Q
  obtain ⟨gd, of, ds, cs, gs, ne_x_a, ne_x_p, ne_x_g, ne_a_p, ne_a_g, ne_p_g, ne_e_x, ne_e_a, ne_e_p, ne_e_g, ne_c_x, ne_c_a, ne_c_p, ne_c_g, g_x, g_a, g_p, g_g, E_x, F_x_estimate, F_x_cost, F_x_guided, F_x_heap, F_x_place, F_x_given, F_x_offers, F_x_size, A_e, D_e, A_c, D_c, A_a, R_a, A_p, L_p, A_g, L_g⟩ := HQ
  have ne_a_x := Ne.symm ne_x_a
  have ne_p_x := Ne.symm ne_x_p
  have ne_g_x := Ne.symm ne_x_g
  have ne_p_a := Ne.symm ne_a_p
  have ne_g_a := Ne.symm ne_a_g
  have ne_g_p := Ne.symm ne_p_g
  have ne_x_e := Ne.symm ne_e_x
  have ne_a_e := Ne.symm ne_e_a
  have ne_p_e := Ne.symm ne_e_p
  have ne_g_e := Ne.symm ne_e_g
  have ne_x_c := Ne.symm ne_c_x
  have ne_a_c := Ne.symm ne_c_a
  have ne_p_c := Ne.symm ne_c_p
  have ne_g_c := Ne.symm ne_c_g
  refine N.aloadN C (pc' := 1) d6_0 rfl rfl rfl ?_
  refine N.getF C (pc' := 4) d6_1 (C.w (i := 18) rfl) F_x_heap rfl ?_
  refine N.iloadN C (pc' := 5) d6_4 rfl rfl ?_
  obtain ⟨y1, my1, ey1, ry1⟩ := own_rng_get R_a (i := 0) (by decide)
  refine N.iaload C (pc' := 6) (i := 0) (v := (.int y1)) d6_5 A_a rfl my1 rfl ?_
  refine N.istoreN C (pc' := 7) (ls' := #[.val (.ref x), .val (.int (0 : Int32)), .val (.int y1), .unset]) d6_6 rfl rfl ?_
  refine N.iloadN C (pc' := 8) d6_7 rfl rfl ?_
  refine N.ifc C (pt := 50) (pf := 11) d6_8 rfl rfl (fun _ => ?_) (fun (q : 0 < 0) => absurd q (by decide))
  refine N.aloadN C (pc' := 51) d6_50 rfl rfl rfl ?_
  refine N.iloadN C (pc' := 52) d6_51 rfl rfl ?_
  refine N.iloadN C (pc' := 53) d6_52 rfl rfl ?_
  refine N.callP C (pc' := 56) x [(.int y1), (.int (0 : Int32))] d6_53 (C.w (i := 47) rfl) (C.w (i := 49) rfl) (Jvm.Kit.selects_private (by decide) (C.w (i := 3) rfl) (C.w (i := 49) rfl) (C.w (i := 48) rfl)) (C.w (i := 48) rfl) (C.w (i := 4) rfl) (C.w (i := 50) rfl) (by decide) E_x (con7 G hw x e c a p g y1 (0 : Int32) sz hs ps h ry1.1 ry1.2 (by decide) (by decide) Z0 ⟨gd, of, ds, cs, gs, ne_x_a, ne_x_p, ne_x_g, ne_a_p, ne_a_g, ne_p_g, ne_e_x, ne_e_a, ne_e_p, ne_e_g, ne_c_x, ne_c_a, ne_c_p, ne_c_g, g_x, g_a, g_p, g_g, E_x, F_x_estimate, F_x_cost, F_x_guided, F_x_heap, F_x_place, F_x_given, F_x_offers, F_x_size, A_e, D_e, A_c, D_c, A_a, R_a, A_p, L_p, A_g, L_g⟩) (lenOf pd__II_V rfl) rfl (by decide) (show 0 + (3 + 11) + _ ≤ _ from by decide) (by decide) (by decide) (rest := []) rfl rfl ?_
  rintro _ h53_1 ⟨rfl, Zp2, Hp2⟩
  have Z0 := Zp2
  obtain ⟨gd, of, ds, cs, gs, ne_x_a, ne_x_p, ne_x_g, ne_a_p, ne_a_g, ne_p_g, ne_e_x, ne_e_a, ne_e_p, ne_e_g, ne_c_x, ne_c_a, ne_c_p, ne_c_g, g_x, g_a, g_p, g_g, E_x, F_x_estimate, F_x_cost, F_x_guided, F_x_heap, F_x_place, F_x_given, F_x_offers, F_x_size, A_e, D_e, A_c, D_c, A_a, R_a, A_p, L_p, A_g, L_g⟩ := Hp2
  have ne_a_x := Ne.symm ne_x_a
  have ne_p_x := Ne.symm ne_x_p
  have ne_g_x := Ne.symm ne_x_g
  have ne_p_a := Ne.symm ne_a_p
  have ne_g_a := Ne.symm ne_a_g
  have ne_g_p := Ne.symm ne_p_g
  have ne_x_e := Ne.symm ne_e_x
  have ne_a_e := Ne.symm ne_e_a
  have ne_p_e := Ne.symm ne_e_p
  have ne_g_e := Ne.symm ne_e_g
  have ne_x_c := Ne.symm ne_c_x
  have ne_a_c := Ne.symm ne_c_a
  have ne_p_c := Ne.symm ne_c_p
  have ne_g_c := Ne.symm ne_c_g
  show N G K rm6 Q h53_1 0 0 56 #[.val (.ref x), .val (.int (0 : Int32)), .val (.int y1), .unset] []
  exact N.ret0 C rfl d6_56 (by decide) (by decide) (by subst hQ; exact ⟨rfl, Z0, y1, ey1, ry1.1, ry1.2, ⟨gd, of, ds, cs, gs, ne_x_a, ne_x_p, ne_x_g, ne_a_p, ne_a_g, ne_p_g, ne_e_x, ne_e_a, ne_e_p, ne_e_g, ne_c_x, ne_c_a, ne_c_p, ne_c_g, g_x, g_a, g_p, g_g, E_x, F_x_estimate, F_x_cost, F_x_guided, F_x_heap, F_x_place, F_x_given, F_x_offers, F_x_size, A_e, D_e, A_c, D_c, A_a, R_a, A_p, L_p, A_g, L_g⟩⟩)
set_option maxRecDepth 65536 in
set_option maxHeartbeats 40000000 in
theorem con_up1 (G : Gx) (hw : ∀ d ∈ tables_1, d.before G.a0 G.Z = true) (x e c a p g : Addr) (sz : Int32) (hs ps : List Int32) (h : Heap) (Z0 : G.n0 ≤ h.size) (HQ : Hq G h x e c a p g sz hs ps) :
    Con G (⟨"com/example/ravel/ravel/search/NodeHeap", "up", "(I)V"⟩ : MethodName) prog_50_method_6_code 4 none rm6 #[(.ref x), (.int (1 : Int32))] h (fun v h' => v = none ∧ G.n0 ≤ h'.size ∧ ∃ hs' ps' : List Int32, Hq G h' x e c a p g sz hs' ps') := by
  refine Con.of (W := tables_1) (plainFor_of_name pn6) hw (fun mm => ef6 mm x (1 : Int32)) (fun K C => ?_)
  have C : Cx G K "com/example/ravel/ravel/search/NodeHeap" "up" prog_50_method_6_code 4 none tables_1 := C
  generalize hQ : (fun v h' => v = none ∧ G.n0 ≤ h'.size ∧ ∃ hs' ps' : List Int32, Hq G h' x e c a p g sz hs' ps' : Option Value → Heap → Prop) = Q
  obtain ⟨gd, of, ds, cs, gs, ne_x_a, ne_x_p, ne_x_g, ne_a_p, ne_a_g, ne_p_g, ne_e_x, ne_e_a, ne_e_p, ne_e_g, ne_c_x, ne_c_a, ne_c_p, ne_c_g, g_x, g_a, g_p, g_g, E_x, F_x_estimate, F_x_cost, F_x_guided, F_x_heap, F_x_place, F_x_given, F_x_offers, F_x_size, A_e, D_e, A_c, D_c, A_a, R_a, A_p, L_p, A_g, L_g⟩ := HQ
  have ne_a_x := Ne.symm ne_x_a
  have ne_p_x := Ne.symm ne_x_p
  have ne_g_x := Ne.symm ne_x_g
  have ne_p_a := Ne.symm ne_a_p
  have ne_g_a := Ne.symm ne_a_g
  have ne_g_p := Ne.symm ne_p_g
  have ne_x_e := Ne.symm ne_e_x
  have ne_a_e := Ne.symm ne_e_a
  have ne_p_e := Ne.symm ne_e_p
  have ne_g_e := Ne.symm ne_e_g
  have ne_x_c := Ne.symm ne_c_x
  have ne_a_c := Ne.symm ne_c_a
  have ne_p_c := Ne.symm ne_c_p
  have ne_g_c := Ne.symm ne_c_g
  refine N.aloadN C (pc' := 1) d6_0 rfl rfl rfl ?_
  refine N.getF C (pc' := 4) d6_1 (C.w (i := 18) rfl) F_x_heap rfl ?_
  refine N.iloadN C (pc' := 5) d6_4 rfl rfl ?_
  obtain ⟨y1, my1, ey1, ry1⟩ := own_rng_get R_a (i := 1) (by decide)
  refine N.iaload C (pc' := 6) (i := 1) (v := (.int y1)) d6_5 A_a rfl my1 rfl ?_
  refine N.istoreN C (pc' := 7) (ls' := #[.val (.ref x), .val (.int (1 : Int32)), .val (.int y1), .unset]) d6_6 rfl rfl ?_
  refine N.iloadN C (pc' := 8) d6_7 rfl rfl ?_
  refine N.ifc C (pt := 50) (pf := 11) d6_8 rfl rfl (fun (q : 1 ≤ 0) => absurd q (by decide)) (fun _ => ?_)
  refine N.iloadN C (pc' := 12) d6_11 rfl rfl ?_
  refine N.iconst C (pc' := 13) (z := 1) d6_12 rfl rfl ?_
  refine N.isub C (pc' := 14) d6_13 rfl ?_
  show N G K rm6 Q h 0 0 14 #[.val (.ref x), .val (.int (1 : Int32)), .val (.int y1), .unset] [(.int (0 : Int32))]
  refine N.iconst C (pc' := 15) (z := 2) d6_14 rfl rfl ?_
  refine N.iushr C (pc' := 16) d6_15 rfl ?_
  show N G K rm6 Q h 0 0 16 #[.val (.ref x), .val (.int (1 : Int32)), .val (.int y1), .unset] [(.int (0 : Int32))]
  refine N.istoreN C (pc' := 17) (ls' := #[.val (.ref x), .val (.int (1 : Int32)), .val (.int y1), .val (.int (0 : Int32))]) d6_16 rfl rfl ?_
  refine N.aloadN C (pc' := 18) d6_17 rfl rfl rfl ?_
  refine N.iloadN C (pc' := 19) d6_18 rfl rfl ?_
  refine N.aloadN C (pc' := 20) d6_19 rfl rfl rfl ?_
  refine N.getF C (pc' := 23) d6_20 (C.w (i := 18) rfl) F_x_heap rfl ?_
  refine N.iloadN C (pc' := 24) d6_23 rfl rfl ?_
  obtain ⟨y2, my2, ey2, ry2⟩ := own_rng_get R_a (i := 0) (by decide)
  refine N.iaload C (pc' := 25) (i := 0) (v := (.int y2)) d6_24 A_a rfl my2 rfl ?_
  refine N.callP C (pc' := 28) x [(.int y1), (.int y2)] d6_25 (C.w (i := 51) rfl) (C.w (i := 53) rfl) (Jvm.Kit.selects_private (by decide) (C.w (i := 3) rfl) (C.w (i := 53) rfl) (C.w (i := 52) rfl)) (C.w (i := 52) rfl) (C.w (i := 4) rfl) (C.w (i := 54) rfl) (by decide) E_x (con8 G hw x e c a p g y1 y2 sz hs ps h ry1.1 ry1.2 ry2.1 ry2.2 ⟨gd, of, ds, cs, gs, ne_x_a, ne_x_p, ne_x_g, ne_a_p, ne_a_g, ne_p_g, ne_e_x, ne_e_a, ne_e_p, ne_e_g, ne_c_x, ne_c_a, ne_c_p, ne_c_g, g_x, g_a, g_p, g_g, E_x, F_x_estimate, F_x_cost, F_x_guided, F_x_heap, F_x_place, F_x_given, F_x_offers, F_x_size, A_e, D_e, A_c, D_c, A_a, R_a, A_p, L_p, A_g, L_g⟩) (lenOf pd__II_Z rfl) rfl (by decide) (show 0 + (7 + 11) + _ ≤ _ from by decide) (by decide) (by decide) (rest := []) rfl rfl ?_
  rintro _ h25_1 ⟨zb3, rfl, rfl⟩
  show N G K rm6 Q h 0 0 28 #[.val (.ref x), .val (.int (1 : Int32)), .val (.int y1), .val (.int (0 : Int32))] [(.int zb3)]
  refine N.ifc C (pt := 34) (pf := 31) d6_28 rfl rfl (fun (hc28 : ¬ zb3 = (0 : Int32)) => ?_) (fun (hc28 : zb3 = (0 : Int32)) => ?_)
  · have hi28 : ¬ zb3.toInt = 0 := neI hc28
    refine N.aloadN C (pc' := 35) d6_34 rfl rfl rfl ?_
    refine N.aloadN C (pc' := 36) d6_35 rfl rfl rfl ?_
    refine N.getF C (pc' := 39) d6_36 (C.w (i := 18) rfl) F_x_heap rfl ?_
    refine N.iloadN C (pc' := 40) d6_39 rfl rfl ?_
    obtain ⟨y4, my4, ey4, ry4⟩ := own_rng_get R_a (i := 0) (by decide)
    refine N.iaload C (pc' := 41) (i := 0) (v := (.int y4)) d6_40 A_a rfl my4 rfl ?_
    refine N.iloadN C (pc' := 42) d6_41 rfl rfl ?_
    refine N.callP C (pc' := 45) x [(.int y4), (.int (1 : Int32))] d6_42 (C.w (i := 47) rfl) (C.w (i := 49) rfl) (Jvm.Kit.selects_private (by decide) (C.w (i := 3) rfl) (C.w (i := 49) rfl) (C.w (i := 48) rfl)) (C.w (i := 48) rfl) (C.w (i := 4) rfl) (C.w (i := 50) rfl) (by decide) E_x (con7 G hw x e c a p g y4 (1 : Int32) sz hs ps h ry4.1 ry4.2 (by decide) (by decide) Z0 ⟨gd, of, ds, cs, gs, ne_x_a, ne_x_p, ne_x_g, ne_a_p, ne_a_g, ne_p_g, ne_e_x, ne_e_a, ne_e_p, ne_e_g, ne_c_x, ne_c_a, ne_c_p, ne_c_g, g_x, g_a, g_p, g_g, E_x, F_x_estimate, F_x_cost, F_x_guided, F_x_heap, F_x_place, F_x_given, F_x_offers, F_x_size, A_e, D_e, A_c, D_c, A_a, R_a, A_p, L_p, A_g, L_g⟩) (lenOf pd__II_V rfl) rfl (by decide) (show 0 + (3 + 11) + _ ≤ _ from by decide) (by decide) (by decide) (rest := []) rfl rfl ?_
    rintro _ h42_2 ⟨rfl, Zp5, Hp5⟩
    have Z0 := Zp5
    obtain ⟨gd, of, ds, cs, gs, ne_x_a, ne_x_p, ne_x_g, ne_a_p, ne_a_g, ne_p_g, ne_e_x, ne_e_a, ne_e_p, ne_e_g, ne_c_x, ne_c_a, ne_c_p, ne_c_g, g_x, g_a, g_p, g_g, E_x, F_x_estimate, F_x_cost, F_x_guided, F_x_heap, F_x_place, F_x_given, F_x_offers, F_x_size, A_e, D_e, A_c, D_c, A_a, R_a, A_p, L_p, A_g, L_g⟩ := Hp5
    have ne_a_x := Ne.symm ne_x_a
    have ne_p_x := Ne.symm ne_x_p
    have ne_g_x := Ne.symm ne_x_g
    have ne_p_a := Ne.symm ne_a_p
    have ne_g_a := Ne.symm ne_a_g
    have ne_g_p := Ne.symm ne_p_g
    have ne_x_e := Ne.symm ne_e_x
    have ne_a_e := Ne.symm ne_e_a
    have ne_p_e := Ne.symm ne_e_p
    have ne_g_e := Ne.symm ne_e_g
    have ne_x_c := Ne.symm ne_c_x
    have ne_a_c := Ne.symm ne_c_a
    have ne_p_c := Ne.symm ne_c_p
    have ne_g_c := Ne.symm ne_c_g
    show N G K rm6 Q h42_2 0 0 45 #[.val (.ref x), .val (.int (1 : Int32)), .val (.int y1), .val (.int (0 : Int32))] []
    refine N.iloadN C (pc' := 46) d6_45 rfl rfl ?_
    refine N.istoreN C (pc' := 47) (ls' := #[.val (.ref x), .val (.int (0 : Int32)), .val (.int y1), .val (.int (0 : Int32))]) d6_46 rfl rfl ?_
    refine N.goto C (pc' := 7) d6_47 rfl ?_
    refine N.iloadN C (pc' := 8) d6_7 rfl rfl ?_
    refine N.ifc C (pt := 50) (pf := 11) d6_8 rfl rfl (fun _ => ?_) (fun (q : 0 < 0) => absurd q (by decide))
    refine N.aloadN C (pc' := 51) d6_50 rfl rfl rfl ?_
    refine N.iloadN C (pc' := 52) d6_51 rfl rfl ?_
    refine N.iloadN C (pc' := 53) d6_52 rfl rfl ?_
    refine N.callP C (pc' := 56) x [(.int y1), (.int (0 : Int32))] d6_53 (C.w (i := 47) rfl) (C.w (i := 49) rfl) (Jvm.Kit.selects_private (by decide) (C.w (i := 3) rfl) (C.w (i := 49) rfl) (C.w (i := 48) rfl)) (C.w (i := 48) rfl) (C.w (i := 4) rfl) (C.w (i := 50) rfl) (by decide) E_x (con7 G hw x e c a p g y1 (0 : Int32) sz (hs.set ((1 : Int32)).toInt.toNat y4) (ps.set (y4).toInt.toNat (1 : Int32)) h42_2 ry1.1 ry1.2 (by decide) (by decide) Z0 ⟨gd, of, ds, cs, gs, ne_x_a, ne_x_p, ne_x_g, ne_a_p, ne_a_g, ne_p_g, ne_e_x, ne_e_a, ne_e_p, ne_e_g, ne_c_x, ne_c_a, ne_c_p, ne_c_g, g_x, g_a, g_p, g_g, E_x, F_x_estimate, F_x_cost, F_x_guided, F_x_heap, F_x_place, F_x_given, F_x_offers, F_x_size, A_e, D_e, A_c, D_c, A_a, R_a, A_p, L_p, A_g, L_g⟩) (lenOf pd__II_V rfl) rfl (by decide) (show 0 + (3 + 11) + _ ≤ _ from by decide) (by decide) (by decide) (rest := []) rfl rfl ?_
    rintro _ h53_3 ⟨rfl, Zp6, Hp6⟩
    have Z0 := Zp6
    obtain ⟨gd, of, ds, cs, gs, ne_x_a, ne_x_p, ne_x_g, ne_a_p, ne_a_g, ne_p_g, ne_e_x, ne_e_a, ne_e_p, ne_e_g, ne_c_x, ne_c_a, ne_c_p, ne_c_g, g_x, g_a, g_p, g_g, E_x, F_x_estimate, F_x_cost, F_x_guided, F_x_heap, F_x_place, F_x_given, F_x_offers, F_x_size, A_e, D_e, A_c, D_c, A_a, R_a, A_p, L_p, A_g, L_g⟩ := Hp6
    have ne_a_x := Ne.symm ne_x_a
    have ne_p_x := Ne.symm ne_x_p
    have ne_g_x := Ne.symm ne_x_g
    have ne_p_a := Ne.symm ne_a_p
    have ne_g_a := Ne.symm ne_a_g
    have ne_g_p := Ne.symm ne_p_g
    have ne_x_e := Ne.symm ne_e_x
    have ne_a_e := Ne.symm ne_e_a
    have ne_p_e := Ne.symm ne_e_p
    have ne_g_e := Ne.symm ne_e_g
    have ne_x_c := Ne.symm ne_c_x
    have ne_a_c := Ne.symm ne_c_a
    have ne_p_c := Ne.symm ne_c_p
    have ne_g_c := Ne.symm ne_c_g
    show N G K rm6 Q h53_3 0 0 56 #[.val (.ref x), .val (.int (0 : Int32)), .val (.int y1), .val (.int (0 : Int32))] []
    exact N.ret0 C rfl d6_56 (by decide) (by decide) (by subst hQ; exact ⟨rfl, Z0, _, _, ⟨gd, of, ds, cs, gs, ne_x_a, ne_x_p, ne_x_g, ne_a_p, ne_a_g, ne_p_g, ne_e_x, ne_e_a, ne_e_p, ne_e_g, ne_c_x, ne_c_a, ne_c_p, ne_c_g, g_x, g_a, g_p, g_g, E_x, F_x_estimate, F_x_cost, F_x_guided, F_x_heap, F_x_place, F_x_given, F_x_offers, F_x_size, A_e, D_e, A_c, D_c, A_a, R_a, A_p, L_p, A_g, L_g⟩⟩)
  · have hi28 : zb3.toInt = 0 := eqI hc28
    refine N.goto C (pc' := 50) d6_31 rfl ?_
    refine N.aloadN C (pc' := 51) d6_50 rfl rfl rfl ?_
    refine N.iloadN C (pc' := 52) d6_51 rfl rfl ?_
    refine N.iloadN C (pc' := 53) d6_52 rfl rfl ?_
    refine N.callP C (pc' := 56) x [(.int y1), (.int (1 : Int32))] d6_53 (C.w (i := 47) rfl) (C.w (i := 49) rfl) (Jvm.Kit.selects_private (by decide) (C.w (i := 3) rfl) (C.w (i := 49) rfl) (C.w (i := 48) rfl)) (C.w (i := 48) rfl) (C.w (i := 4) rfl) (C.w (i := 50) rfl) (by decide) E_x (con7 G hw x e c a p g y1 (1 : Int32) sz hs ps h ry1.1 ry1.2 (by decide) (by decide) Z0 ⟨gd, of, ds, cs, gs, ne_x_a, ne_x_p, ne_x_g, ne_a_p, ne_a_g, ne_p_g, ne_e_x, ne_e_a, ne_e_p, ne_e_g, ne_c_x, ne_c_a, ne_c_p, ne_c_g, g_x, g_a, g_p, g_g, E_x, F_x_estimate, F_x_cost, F_x_guided, F_x_heap, F_x_place, F_x_given, F_x_offers, F_x_size, A_e, D_e, A_c, D_c, A_a, R_a, A_p, L_p, A_g, L_g⟩) (lenOf pd__II_V rfl) rfl (by decide) (show 0 + (3 + 11) + _ ≤ _ from by decide) (by decide) (by decide) (rest := []) rfl rfl ?_
    rintro _ h53_4 ⟨rfl, Zp7, Hp7⟩
    have Z0 := Zp7
    obtain ⟨gd, of, ds, cs, gs, ne_x_a, ne_x_p, ne_x_g, ne_a_p, ne_a_g, ne_p_g, ne_e_x, ne_e_a, ne_e_p, ne_e_g, ne_c_x, ne_c_a, ne_c_p, ne_c_g, g_x, g_a, g_p, g_g, E_x, F_x_estimate, F_x_cost, F_x_guided, F_x_heap, F_x_place, F_x_given, F_x_offers, F_x_size, A_e, D_e, A_c, D_c, A_a, R_a, A_p, L_p, A_g, L_g⟩ := Hp7
    have ne_a_x := Ne.symm ne_x_a
    have ne_p_x := Ne.symm ne_x_p
    have ne_g_x := Ne.symm ne_x_g
    have ne_p_a := Ne.symm ne_a_p
    have ne_g_a := Ne.symm ne_a_g
    have ne_g_p := Ne.symm ne_p_g
    have ne_x_e := Ne.symm ne_e_x
    have ne_a_e := Ne.symm ne_e_a
    have ne_p_e := Ne.symm ne_e_p
    have ne_g_e := Ne.symm ne_e_g
    have ne_x_c := Ne.symm ne_c_x
    have ne_a_c := Ne.symm ne_c_a
    have ne_p_c := Ne.symm ne_c_p
    have ne_g_c := Ne.symm ne_c_g
    show N G K rm6 Q h53_4 0 0 56 #[.val (.ref x), .val (.int (1 : Int32)), .val (.int y1), .val (.int (0 : Int32))] []
    exact N.ret0 C rfl d6_56 (by decide) (by decide) (by subst hQ; exact ⟨rfl, Z0, _, _, ⟨gd, of, ds, cs, gs, ne_x_a, ne_x_p, ne_x_g, ne_a_p, ne_a_g, ne_p_g, ne_e_x, ne_e_a, ne_e_p, ne_e_g, ne_c_x, ne_c_a, ne_c_p, ne_c_g, g_x, g_a, g_p, g_g, E_x, F_x_estimate, F_x_cost, F_x_guided, F_x_heap, F_x_place, F_x_given, F_x_offers, F_x_size, A_e, D_e, A_c, D_c, A_a, R_a, A_p, L_p, A_g, L_g⟩⟩)
set_option maxRecDepth 65536 in
set_option maxHeartbeats 40000000 in
theorem con10 (G : Gx) (hw : ∀ d ∈ tables_1, d.before G.a0 G.Z = true) (x e c a p g : Addr) (hs ps : List Int32) (h : Heap) (Z0 : G.n0 ≤ h.size) (HQ : Hq G h x e c a p g 1 hs ps) :
    Con G (⟨"com/example/ravel/ravel/search/NodeHeap", "down", "(I)V"⟩ : MethodName) prog_50_method_7_code 7 none rm10 #[(.ref x), (.int (0 : Int32))] h (fun v h' => v = none ∧ G.n0 ≤ h'.size ∧ ∃ hs' ps' : List Int32, Hq G h' x e c a p g 1 hs' ps') := by
  refine Con.of (W := tables_1) (plainFor_of_name pn10) hw (fun mm => ef10 mm x (0 : Int32)) (fun K C => ?_)
  have C : Cx G K "com/example/ravel/ravel/search/NodeHeap" "down" prog_50_method_7_code 7 none tables_1 := C
  generalize hQ : (fun v h' => v = none ∧ G.n0 ≤ h'.size ∧ ∃ hs' ps' : List Int32, Hq G h' x e c a p g 1 hs' ps' : Option Value → Heap → Prop) = Q
  obtain ⟨gd, of, ds, cs, gs, ne_x_a, ne_x_p, ne_x_g, ne_a_p, ne_a_g, ne_p_g, ne_e_x, ne_e_a, ne_e_p, ne_e_g, ne_c_x, ne_c_a, ne_c_p, ne_c_g, g_x, g_a, g_p, g_g, E_x, F_x_estimate, F_x_cost, F_x_guided, F_x_heap, F_x_place, F_x_given, F_x_offers, F_x_size, A_e, D_e, A_c, D_c, A_a, R_a, A_p, L_p, A_g, L_g⟩ := HQ
  have ne_a_x := Ne.symm ne_x_a
  have ne_p_x := Ne.symm ne_x_p
  have ne_g_x := Ne.symm ne_x_g
  have ne_p_a := Ne.symm ne_a_p
  have ne_g_a := Ne.symm ne_a_g
  have ne_g_p := Ne.symm ne_p_g
  have ne_x_e := Ne.symm ne_e_x
  have ne_a_e := Ne.symm ne_e_a
  have ne_p_e := Ne.symm ne_e_p
  have ne_g_e := Ne.symm ne_e_g
  have ne_x_c := Ne.symm ne_c_x
  have ne_a_c := Ne.symm ne_c_a
  have ne_p_c := Ne.symm ne_c_p
  have ne_g_c := Ne.symm ne_c_g
  refine N.aloadN C (pc' := 1) d10_0 rfl rfl rfl ?_
  refine N.getF C (pc' := 4) d10_1 (C.w (i := 18) rfl) F_x_heap rfl ?_
  refine N.iloadN C (pc' := 5) d10_4 rfl rfl ?_
  obtain ⟨y1, my1, ey1, ry1⟩ := own_rng_get R_a (i := 0) (by decide)
  refine N.iaload C (pc' := 6) (i := 0) (v := (.int y1)) d10_5 A_a rfl my1 rfl ?_
  refine N.istoreN C (pc' := 7) (ls' := #[.val (.ref x), .val (.int (0 : Int32)), .val (.int y1), .unset, .unset, .unset, .unset]) d10_6 rfl rfl ?_
  refine N.ldcL C (pc' := 10) (v := 4) d10_7 (C.w (i := 64) rfl) rfl ?_
  refine N.iloadN C (pc' := 11) d10_10 rfl rfl ?_
  refine N.i2l C (pc' := 12) d10_11 rfl ?_
  show N G K rm10 Q h 0 0 12 #[.val (.ref x), .val (.int (0 : Int32)), .val (.int y1), .unset, .unset, .unset, .unset] [(.long (0 : Int64)), (.long (4 : Int64))]
  refine N.lmul C (pc' := 13) d10_12 rfl ?_
  show N G K rm10 Q h 0 0 13 #[.val (.ref x), .val (.int (0 : Int32)), .val (.int y1), .unset, .unset, .unset, .unset] [(.long (0 : Int64))]
  refine N.lconst C (pc' := 14) (z := 1) d10_13 rfl rfl ?_
  refine N.ladd C (pc' := 15) d10_14 rfl ?_
  show N G K rm10 Q h 0 0 15 #[.val (.ref x), .val (.int (0 : Int32)), .val (.int y1), .unset, .unset, .unset, .unset] [(.long (1 : Int64))]
  refine N.aloadN C (pc' := 16) d10_15 rfl rfl rfl ?_
  refine N.getF C (pc' := 19) d10_16 (C.w (i := 34) rfl) F_x_size rfl ?_
  refine N.i2l C (pc' := 20) d10_19 rfl ?_
  show N G K rm10 Q h 0 0 20 #[.val (.ref x), .val (.int (0 : Int32)), .val (.int y1), .unset, .unset, .unset, .unset] [(.long (1 : Int64)), (.long (1 : Int64))]
  refine N.lcmp C (pc' := 21) d10_20 rfl ?_
  refine N.lif C (pt := 129) (pf := 24) d10_21 rfl rfl (fun _ => ?_) (fun (q : 1 < 1) => absurd q (by decide))
  refine N.aloadN C (pc' := 130) d10_129 rfl rfl rfl ?_
  refine N.iloadN C (pc' := 131) d10_130 rfl rfl ?_
  refine N.iloadN C (pc' := 132) d10_131 rfl rfl ?_
  refine N.callP C (pc' := 135) x [(.int y1), (.int (0 : Int32))] d10_132 (C.w (i := 47) rfl) (C.w (i := 49) rfl) (Jvm.Kit.selects_private (by decide) (C.w (i := 3) rfl) (C.w (i := 49) rfl) (C.w (i := 48) rfl)) (C.w (i := 48) rfl) (C.w (i := 4) rfl) (C.w (i := 50) rfl) (by decide) E_x (con7 G hw x e c a p g y1 (0 : Int32) (1 : Int32) hs ps h ry1.1 ry1.2 (by decide) (by decide) Z0 ⟨gd, of, ds, cs, gs, ne_x_a, ne_x_p, ne_x_g, ne_a_p, ne_a_g, ne_p_g, ne_e_x, ne_e_a, ne_e_p, ne_e_g, ne_c_x, ne_c_a, ne_c_p, ne_c_g, g_x, g_a, g_p, g_g, E_x, F_x_estimate, F_x_cost, F_x_guided, F_x_heap, F_x_place, F_x_given, F_x_offers, F_x_size, A_e, D_e, A_c, D_c, A_a, R_a, A_p, L_p, A_g, L_g⟩) (lenOf pd__II_V rfl) rfl (by decide) (show 0 + (3 + 11) + _ ≤ _ from by decide) (by decide) (by decide) (rest := []) rfl rfl ?_
  rintro _ h132_1 ⟨rfl, Zp2, Hp2⟩
  have Z0 := Zp2
  obtain ⟨gd, of, ds, cs, gs, ne_x_a, ne_x_p, ne_x_g, ne_a_p, ne_a_g, ne_p_g, ne_e_x, ne_e_a, ne_e_p, ne_e_g, ne_c_x, ne_c_a, ne_c_p, ne_c_g, g_x, g_a, g_p, g_g, E_x, F_x_estimate, F_x_cost, F_x_guided, F_x_heap, F_x_place, F_x_given, F_x_offers, F_x_size, A_e, D_e, A_c, D_c, A_a, R_a, A_p, L_p, A_g, L_g⟩ := Hp2
  have ne_a_x := Ne.symm ne_x_a
  have ne_p_x := Ne.symm ne_x_p
  have ne_g_x := Ne.symm ne_x_g
  have ne_p_a := Ne.symm ne_a_p
  have ne_g_a := Ne.symm ne_a_g
  have ne_g_p := Ne.symm ne_p_g
  have ne_x_e := Ne.symm ne_e_x
  have ne_a_e := Ne.symm ne_e_a
  have ne_p_e := Ne.symm ne_e_p
  have ne_g_e := Ne.symm ne_e_g
  have ne_x_c := Ne.symm ne_c_x
  have ne_a_c := Ne.symm ne_c_a
  have ne_p_c := Ne.symm ne_c_p
  have ne_g_c := Ne.symm ne_c_g
  show N G K rm10 Q h132_1 0 0 135 #[.val (.ref x), .val (.int (0 : Int32)), .val (.int y1), .unset, .unset, .unset, .unset] []
  exact N.ret0 C rfl d10_135 (by decide) (by decide) (by subst hQ; exact ⟨rfl, Z0, _, _, ⟨gd, of, ds, cs, gs, ne_x_a, ne_x_p, ne_x_g, ne_a_p, ne_a_g, ne_p_g, ne_e_x, ne_e_a, ne_e_p, ne_e_g, ne_c_x, ne_c_a, ne_c_p, ne_c_g, g_x, g_a, g_p, g_g, E_x, F_x_estimate, F_x_cost, F_x_guided, F_x_heap, F_x_place, F_x_given, F_x_offers, F_x_size, A_e, D_e, A_c, D_c, A_a, R_a, A_p, L_p, A_g, L_g⟩⟩)
set_option maxRecDepth 65536 in
set_option maxHeartbeats 40000000 in
theorem con_offA0 (G : Gx) (hw : ∀ d ∈ tables_1, d.before G.a0 G.Z = true) (x e c a p g : Addr) (n : Int32) (hs ps : List Int32) (h : Heap) (hn : 0 ≤ n.toInt ∧ n.toInt < 3) (hpn : ps[n.toInt.toNat]? = some (-1)) (Z0 : G.n0 ≤ h.size) (HQ : Hq G h x e c a p g 0 hs ps) :
    Con G (⟨"com/example/ravel/ravel/search/NodeHeap", "offer", "(I)V"⟩ : MethodName) prog_50_method_3_code 2 none rm5 #[(.ref x), (.int n)] h (fun v h' => v = none ∧ G.n0 ≤ h'.size ∧ ∃ hs' ps' : List Int32, ps'[n.toInt.toNat]? = some 0 ∧ (∀ m : Nat, m ≠ n.toInt.toNat → ps'[m]? = ps[m]?) ∧ Hq G h' x e c a p g 1 hs' ps') := by
  refine Con.of (W := tables_1) (plainFor_of_name pn5) hw (fun mm => ef5 mm x n) (fun K C => ?_)
  have C : Cx G K "com/example/ravel/ravel/search/NodeHeap" "offer" prog_50_method_3_code 2 none tables_1 := C
  generalize hQ : (fun v h' => v = none ∧ G.n0 ≤ h'.size ∧ ∃ hs' ps' : List Int32, ps'[n.toInt.toNat]? = some 0 ∧ (∀ m : Nat, m ≠ n.toInt.toNat → ps'[m]? = ps[m]?) ∧ Hq G h' x e c a p g 1 hs' ps' : Option Value → Heap → Prop) = Q
  obtain ⟨gd, of, ds, cs, gs, ne_x_a, ne_x_p, ne_x_g, ne_a_p, ne_a_g, ne_p_g, ne_e_x, ne_e_a, ne_e_p, ne_e_g, ne_c_x, ne_c_a, ne_c_p, ne_c_g, g_x, g_a, g_p, g_g, E_x, F_x_estimate, F_x_cost, F_x_guided, F_x_heap, F_x_place, F_x_given, F_x_offers, F_x_size, A_e, D_e, A_c, D_c, A_a, R_a, A_p, L_p, A_g, L_g⟩ := HQ
  have ne_a_x := Ne.symm ne_x_a
  have ne_p_x := Ne.symm ne_x_p
  have ne_g_x := Ne.symm ne_x_g
  have ne_p_a := Ne.symm ne_a_p
  have ne_g_a := Ne.symm ne_a_g
  have ne_g_p := Ne.symm ne_p_g
  have ne_x_e := Ne.symm ne_e_x
  have ne_a_e := Ne.symm ne_e_a
  have ne_p_e := Ne.symm ne_e_p
  have ne_g_e := Ne.symm ne_e_g
  have ne_x_c := Ne.symm ne_c_x
  have ne_a_c := Ne.symm ne_c_a
  have ne_p_c := Ne.symm ne_c_p
  have ne_g_c := Ne.symm ne_c_g
  refine N.aloadN C (pc' := 1) d5_0 rfl rfl rfl ?_
  refine N.getF C (pc' := 4) d5_1 (C.w (i := 27) rfl) F_x_given rfl ?_
  refine N.iloadN C (pc' := 5) d5_4 rfl rfl ?_
  refine N.aloadN C (pc' := 6) d5_5 rfl rfl rfl ?_
  refine N.dup C (pc' := 7) d5_6 rfl rfl ?_
  refine N.getF C (pc' := 10) d5_7 (C.w (i := 41) rfl) F_x_offers rfl ?_
  refine N.dup2_x1L C (pc' := 11) d5_10 rfl ?_
  refine N.lconst C (pc' := 12) (z := 1) d5_11 rfl rfl ?_
  refine N.ladd C (pc' := 13) d5_12 rfl ?_
  refine N.putF C (pc' := 16) d5_13 (C.w (i := 41) rfl) F_x_offers E_x (Or.inl (C.w (i := 42) rfl)) (C.w (i := 3) rfl) (ty := .long) (by decide) rfl rfl g_x rfl (fun h13_1 W13 => ?_)
  have Z0 : G.n0 ≤ _ := (Wr.size W13).symm ▸ Z0
  have F_x_estimate := F_x_estimate.other W13 (Or.inr (slot_ne (Or.inr (C.w (i := 12) rfl)) (Or.inl (C.w (i := 42) rfl)) (by decide) (t := (.array .double)) (t' := .long) (by decide) (by decide)))
  have F_x_cost := F_x_cost.other W13 (Or.inr (slot_ne (Or.inr (C.w (i := 14) rfl)) (Or.inl (C.w (i := 42) rfl)) (by decide) (t := (.array .double)) (t' := .long) (by decide) (by decide)))
  have F_x_guided := F_x_guided.other W13 (Or.inr (slot_ne (Or.inr (C.w (i := 16) rfl)) (Or.inl (C.w (i := 42) rfl)) (by decide) (t := .boolean) (t' := .long) (by decide) (by decide)))
  have F_x_heap := F_x_heap.other W13 (Or.inr (slot_ne (Or.inr (C.w (i := 19) rfl)) (Or.inl (C.w (i := 42) rfl)) (by decide) (t := (.array .int)) (t' := .long) (by decide) (by decide)))
  have F_x_place := F_x_place.other W13 (Or.inr (slot_ne (Or.inr (C.w (i := 21) rfl)) (Or.inl (C.w (i := 42) rfl)) (by decide) (t := (.array .int)) (t' := .long) (by decide) (by decide)))
  have F_x_given := F_x_given.other W13 (Or.inr (slot_ne (Or.inr (C.w (i := 28) rfl)) (Or.inl (C.w (i := 42) rfl)) (by decide) (t := (.array .long)) (t' := .long) (by decide) (by decide)))
  have F_x_offers := F_x_offers.same W13
  have F_x_size := F_x_size.other W13 (Or.inr (slot_ne (Or.inl (C.w (i := 35) rfl)) (Or.inl (C.w (i := 42) rfl)) (by decide) (t := .int) (t' := .long) (by decide) (by decide)))
  have E_x := E_x.wr W13
  have A_e := A_e.other W13 ne_e_x
  have A_c := A_c.other W13 ne_c_x
  have A_a := A_a.other W13 ne_a_x
  have A_p := A_p.other W13 ne_p_x
  have A_g := A_g.other W13 ne_g_x
  refine N.lastore C (pc' := 17) (i := n.toInt.toNat) d5_16 A_g (by omega) (by rw [L_g.1]; omega) g_g rfl (fun h16_2 W16 A_g => ?_)
  have Z0 : G.n0 ≤ _ := (Wr.size W16).symm ▸ Z0
  have F_x_estimate := F_x_estimate.other W16 (Or.inl ne_x_g)
  have F_x_cost := F_x_cost.other W16 (Or.inl ne_x_g)
  have F_x_guided := F_x_guided.other W16 (Or.inl ne_x_g)
  have F_x_heap := F_x_heap.other W16 (Or.inl ne_x_g)
  have F_x_place := F_x_place.other W16 (Or.inl ne_x_g)
  have F_x_given := F_x_given.other W16 (Or.inl ne_x_g)
  have F_x_offers := F_x_offers.other W16 (Or.inl ne_x_g)
  have F_x_size := F_x_size.other W16 (Or.inl ne_x_g)
  have E_x := E_x.wr W16
  have A_e := A_e.other W16 ne_e_g
  have A_c := A_c.other W16 ne_c_g
  have A_a := A_a.other W16 ne_a_g
  have A_p := A_p.other W16 ne_p_g
  refine N.aloadN C (pc' := 18) d5_17 rfl rfl rfl ?_
  refine N.getF C (pc' := 21) d5_18 (C.w (i := 20) rfl) F_x_place rfl ?_
  refine N.iloadN C (pc' := 22) d5_21 rfl rfl ?_
  refine N.iaload C (pc' := 23) (i := n.toInt.toNat) (v := (.int (-1 : Int32))) d5_22 A_p (by omega) (own_pmap hpn) rfl ?_
  refine N.ifc C (pt := 53) (pf := 26) d5_23 rfl rfl (fun (q : 0 ≤ (-1)) => absurd q (by decide)) (fun _ => ?_)
  refine N.aloadN C (pc' := 27) d5_26 rfl rfl rfl ?_
  refine N.getF C (pc' := 30) d5_27 (C.w (i := 20) rfl) F_x_place rfl ?_
  refine N.iloadN C (pc' := 31) d5_30 rfl rfl ?_
  refine N.aloadN C (pc' := 32) d5_31 rfl rfl rfl ?_
  refine N.getF C (pc' := 35) d5_32 (C.w (i := 34) rfl) F_x_size rfl ?_
  refine N.iastore C (pc' := 36) (i := n.toInt.toNat) d5_35 A_p (by omega) (by rw [List.length_map, L_p]; omega) g_p rfl (fun h35_3 W35 A_p => ?_)
  have Z0 : G.n0 ≤ _ := (Wr.size W35).symm ▸ Z0
  have F_x_estimate := F_x_estimate.other W35 (Or.inl ne_x_p)
  have F_x_cost := F_x_cost.other W35 (Or.inl ne_x_p)
  have F_x_guided := F_x_guided.other W35 (Or.inl ne_x_p)
  have F_x_heap := F_x_heap.other W35 (Or.inl ne_x_p)
  have F_x_place := F_x_place.other W35 (Or.inl ne_x_p)
  have F_x_given := F_x_given.other W35 (Or.inl ne_x_p)
  have F_x_offers := F_x_offers.other W35 (Or.inl ne_x_p)
  have F_x_size := F_x_size.other W35 (Or.inl ne_x_p)
  have E_x := E_x.wr W35
  have A_e := A_e.other W35 ne_e_p
  have A_c := A_c.other W35 ne_c_p
  have A_a := A_a.other W35 ne_a_p
  have A_g := A_g.other W35 ne_g_p
  have A_p : Av G.Z h35_3 p .int ((ps.set n.toInt.toNat (0 : Int32)).map .int) := by rw [List.map_set]; exact A_p
  refine N.aloadN C (pc' := 37) d5_36 rfl rfl rfl ?_
  refine N.getF C (pc' := 40) d5_37 (C.w (i := 18) rfl) F_x_heap rfl ?_
  refine N.aloadN C (pc' := 41) d5_40 rfl rfl rfl ?_
  refine N.dup C (pc' := 42) d5_41 rfl rfl ?_
  refine N.getF C (pc' := 45) d5_42 (C.w (i := 34) rfl) F_x_size rfl ?_
  refine N.dup_x1 C (pc' := 46) d5_45 rfl rfl rfl ?_
  refine N.iconst C (pc' := 47) (z := 1) d5_46 rfl rfl ?_
  refine N.iadd C (pc' := 48) d5_47 rfl ?_
  show N G K rm5 Q h35_3 0 0 48 #[.val (.ref x), .val (.int n)] [(.int (1 : Int32)), (.ref x), (.int (0 : Int32)), (.ref a)]
  refine N.putF C (pc' := 51) d5_48 (C.w (i := 34) rfl) F_x_size E_x (Or.inl (C.w (i := 35) rfl)) (C.w (i := 3) rfl) (ty := .int) (by decide) rfl rfl g_x rfl (fun h48_4 W48 => ?_)
  have Z0 : G.n0 ≤ _ := (Wr.size W48).symm ▸ Z0
  have F_x_estimate := F_x_estimate.other W48 (Or.inr (slot_ne (Or.inr (C.w (i := 12) rfl)) (Or.inl (C.w (i := 35) rfl)) (by decide) (t := (.array .double)) (t' := .int) (by decide) (by decide)))
  have F_x_cost := F_x_cost.other W48 (Or.inr (slot_ne (Or.inr (C.w (i := 14) rfl)) (Or.inl (C.w (i := 35) rfl)) (by decide) (t := (.array .double)) (t' := .int) (by decide) (by decide)))
  have F_x_guided := F_x_guided.other W48 (Or.inr (slot_ne (Or.inr (C.w (i := 16) rfl)) (Or.inl (C.w (i := 35) rfl)) (by decide) (t := .boolean) (t' := .int) (by decide) (by decide)))
  have F_x_heap := F_x_heap.other W48 (Or.inr (slot_ne (Or.inr (C.w (i := 19) rfl)) (Or.inl (C.w (i := 35) rfl)) (by decide) (t := (.array .int)) (t' := .int) (by decide) (by decide)))
  have F_x_place := F_x_place.other W48 (Or.inr (slot_ne (Or.inr (C.w (i := 21) rfl)) (Or.inl (C.w (i := 35) rfl)) (by decide) (t := (.array .int)) (t' := .int) (by decide) (by decide)))
  have F_x_given := F_x_given.other W48 (Or.inr (slot_ne (Or.inr (C.w (i := 28) rfl)) (Or.inl (C.w (i := 35) rfl)) (by decide) (t := (.array .long)) (t' := .int) (by decide) (by decide)))
  have F_x_offers := F_x_offers.other W48 (Or.inr (slot_ne (Or.inl (C.w (i := 42) rfl)) (Or.inl (C.w (i := 35) rfl)) (by decide) (t := .long) (t' := .int) (by decide) (by decide)))
  have F_x_size := F_x_size.same W48
  have E_x := E_x.wr W48
  have A_e := A_e.other W48 ne_e_x
  have A_c := A_c.other W48 ne_c_x
  have A_a := A_a.other W48 ne_a_x
  have A_p := A_p.other W48 ne_p_x
  have A_g := A_g.other W48 ne_g_x
  refine N.iloadN C (pc' := 52) d5_51 rfl rfl ?_
  refine N.iastore C (pc' := 53) (i := 0) d5_52 A_a rfl (by rw [List.length_map, R_a.1]; decide) g_a rfl (fun h52_5 W52 A_a => ?_)
  have Z0 : G.n0 ≤ _ := (Wr.size W52).symm ▸ Z0
  have F_x_estimate := F_x_estimate.other W52 (Or.inl ne_x_a)
  have F_x_cost := F_x_cost.other W52 (Or.inl ne_x_a)
  have F_x_guided := F_x_guided.other W52 (Or.inl ne_x_a)
  have F_x_heap := F_x_heap.other W52 (Or.inl ne_x_a)
  have F_x_place := F_x_place.other W52 (Or.inl ne_x_a)
  have F_x_given := F_x_given.other W52 (Or.inl ne_x_a)
  have F_x_offers := F_x_offers.other W52 (Or.inl ne_x_a)
  have F_x_size := F_x_size.other W52 (Or.inl ne_x_a)
  have E_x := E_x.wr W52
  have A_e := A_e.other W52 ne_e_a
  have A_c := A_c.other W52 ne_c_a
  have A_p := A_p.other W52 ne_p_a
  have A_g := A_g.other W52 ne_g_a
  have A_a : Av G.Z h52_5 a .int ((hs.set 0 n).map .int) := by rw [List.map_set]; exact A_a
  refine N.aloadN C (pc' := 54) d5_53 rfl rfl rfl ?_
  refine N.aloadN C (pc' := 55) d5_54 rfl rfl rfl ?_
  refine N.getF C (pc' := 58) d5_55 (C.w (i := 20) rfl) F_x_place rfl ?_
  refine N.iloadN C (pc' := 59) d5_58 rfl rfl ?_
  refine N.iaload C (pc' := 60) (i := n.toInt.toNat) (v := (.int (0 : Int32))) d5_59 A_p (by omega) (own_pmap (List.getElem?_set_self (by rw [L_p]; omega))) rfl ?_
  refine N.callP C (pc' := 63) x [(.int (0 : Int32))] d5_60 (C.w (i := 43) rfl) (C.w (i := 45) rfl) (Jvm.Kit.selects_private (by decide) (C.w (i := 3) rfl) (C.w (i := 45) rfl) (C.w (i := 44) rfl)) (C.w (i := 44) rfl) (C.w (i := 4) rfl) (C.w (i := 46) rfl) (by decide) E_x (con_up0 G hw x e c a p g (1 : Int32) (hs.set 0 n) (ps.set n.toInt.toNat (0 : Int32)) h52_5 Z0 ⟨gd, (of + (1 : Int64)), ds, cs, (gs.set n.toInt.toNat (.long of)), ne_x_a, ne_x_p, ne_x_g, ne_a_p, ne_a_g, ne_p_g, ne_e_x, ne_e_a, ne_e_p, ne_e_g, ne_c_x, ne_c_a, ne_c_p, ne_c_g, g_x, g_a, g_p, g_g, E_x, F_x_estimate, F_x_cost, F_x_guided, F_x_heap, F_x_place, F_x_given, F_x_offers, F_x_size, A_e, D_e, A_c, D_c, A_a, own_rng_set R_a hn.1 hn.2, A_p, (by simp [L_p]), A_g, own_lng_set L_g⟩) (lenOf pd__I_V rfl) rfl (by decide) (show 0 + (4 + 11) + _ ≤ _ from by decide) (by decide) (by decide) (rest := []) rfl rfl ?_
  rintro _ h60_6 ⟨rfl, Zp1, yu, eyu, ry0, ry1, HU⟩
  have Z0 := Zp1
  show N G K rm5 Q h60_6 0 0 63 #[.val (.ref x), .val (.int n)] []
  exact N.ret0 C rfl d5_63 (by decide) (by decide) (by subst hQ; rw [List.getElem?_set_self (by rw [R_a.1]; decide)] at eyu; cases eyu; exact ⟨rfl, Z0, _, _, List.getElem?_set_self (by rw [List.length_set, L_p]; omega), fun m hm => by rw [List.getElem?_set_ne (Ne.symm hm), List.getElem?_set_ne (Ne.symm hm)], HU⟩)
set_option maxRecDepth 65536 in
set_option maxHeartbeats 40000000 in
theorem con_offA1 (G : Gx) (hw : ∀ d ∈ tables_1, d.before G.a0 G.Z = true) (x e c a p g : Addr) (n : Int32) (hs ps : List Int32) (h : Heap) (hn : 0 ≤ n.toInt ∧ n.toInt < 3) (hpn : ps[n.toInt.toNat]? = some (-1)) (Z0 : G.n0 ≤ h.size) (HQ : Hq G h x e c a p g 1 hs ps) :
    Con G (⟨"com/example/ravel/ravel/search/NodeHeap", "offer", "(I)V"⟩ : MethodName) prog_50_method_3_code 2 none rm5 #[(.ref x), (.int n)] h (fun v h' => v = none ∧ G.n0 ≤ h'.size ∧ ∃ hs' ps' : List Int32, Hq G h' x e c a p g 2 hs' ps') := by
  refine Con.of (W := tables_1) (plainFor_of_name pn5) hw (fun mm => ef5 mm x n) (fun K C => ?_)
  have C : Cx G K "com/example/ravel/ravel/search/NodeHeap" "offer" prog_50_method_3_code 2 none tables_1 := C
  generalize hQ : (fun v h' => v = none ∧ G.n0 ≤ h'.size ∧ ∃ hs' ps' : List Int32, Hq G h' x e c a p g 2 hs' ps' : Option Value → Heap → Prop) = Q
  obtain ⟨gd, of, ds, cs, gs, ne_x_a, ne_x_p, ne_x_g, ne_a_p, ne_a_g, ne_p_g, ne_e_x, ne_e_a, ne_e_p, ne_e_g, ne_c_x, ne_c_a, ne_c_p, ne_c_g, g_x, g_a, g_p, g_g, E_x, F_x_estimate, F_x_cost, F_x_guided, F_x_heap, F_x_place, F_x_given, F_x_offers, F_x_size, A_e, D_e, A_c, D_c, A_a, R_a, A_p, L_p, A_g, L_g⟩ := HQ
  have ne_a_x := Ne.symm ne_x_a
  have ne_p_x := Ne.symm ne_x_p
  have ne_g_x := Ne.symm ne_x_g
  have ne_p_a := Ne.symm ne_a_p
  have ne_g_a := Ne.symm ne_a_g
  have ne_g_p := Ne.symm ne_p_g
  have ne_x_e := Ne.symm ne_e_x
  have ne_a_e := Ne.symm ne_e_a
  have ne_p_e := Ne.symm ne_e_p
  have ne_g_e := Ne.symm ne_e_g
  have ne_x_c := Ne.symm ne_c_x
  have ne_a_c := Ne.symm ne_c_a
  have ne_p_c := Ne.symm ne_c_p
  have ne_g_c := Ne.symm ne_c_g
  refine N.aloadN C (pc' := 1) d5_0 rfl rfl rfl ?_
  refine N.getF C (pc' := 4) d5_1 (C.w (i := 27) rfl) F_x_given rfl ?_
  refine N.iloadN C (pc' := 5) d5_4 rfl rfl ?_
  refine N.aloadN C (pc' := 6) d5_5 rfl rfl rfl ?_
  refine N.dup C (pc' := 7) d5_6 rfl rfl ?_
  refine N.getF C (pc' := 10) d5_7 (C.w (i := 41) rfl) F_x_offers rfl ?_
  refine N.dup2_x1L C (pc' := 11) d5_10 rfl ?_
  refine N.lconst C (pc' := 12) (z := 1) d5_11 rfl rfl ?_
  refine N.ladd C (pc' := 13) d5_12 rfl ?_
  refine N.putF C (pc' := 16) d5_13 (C.w (i := 41) rfl) F_x_offers E_x (Or.inl (C.w (i := 42) rfl)) (C.w (i := 3) rfl) (ty := .long) (by decide) rfl rfl g_x rfl (fun h13_1 W13 => ?_)
  have Z0 : G.n0 ≤ _ := (Wr.size W13).symm ▸ Z0
  have F_x_estimate := F_x_estimate.other W13 (Or.inr (slot_ne (Or.inr (C.w (i := 12) rfl)) (Or.inl (C.w (i := 42) rfl)) (by decide) (t := (.array .double)) (t' := .long) (by decide) (by decide)))
  have F_x_cost := F_x_cost.other W13 (Or.inr (slot_ne (Or.inr (C.w (i := 14) rfl)) (Or.inl (C.w (i := 42) rfl)) (by decide) (t := (.array .double)) (t' := .long) (by decide) (by decide)))
  have F_x_guided := F_x_guided.other W13 (Or.inr (slot_ne (Or.inr (C.w (i := 16) rfl)) (Or.inl (C.w (i := 42) rfl)) (by decide) (t := .boolean) (t' := .long) (by decide) (by decide)))
  have F_x_heap := F_x_heap.other W13 (Or.inr (slot_ne (Or.inr (C.w (i := 19) rfl)) (Or.inl (C.w (i := 42) rfl)) (by decide) (t := (.array .int)) (t' := .long) (by decide) (by decide)))
  have F_x_place := F_x_place.other W13 (Or.inr (slot_ne (Or.inr (C.w (i := 21) rfl)) (Or.inl (C.w (i := 42) rfl)) (by decide) (t := (.array .int)) (t' := .long) (by decide) (by decide)))
  have F_x_given := F_x_given.other W13 (Or.inr (slot_ne (Or.inr (C.w (i := 28) rfl)) (Or.inl (C.w (i := 42) rfl)) (by decide) (t := (.array .long)) (t' := .long) (by decide) (by decide)))
  have F_x_offers := F_x_offers.same W13
  have F_x_size := F_x_size.other W13 (Or.inr (slot_ne (Or.inl (C.w (i := 35) rfl)) (Or.inl (C.w (i := 42) rfl)) (by decide) (t := .int) (t' := .long) (by decide) (by decide)))
  have E_x := E_x.wr W13
  have A_e := A_e.other W13 ne_e_x
  have A_c := A_c.other W13 ne_c_x
  have A_a := A_a.other W13 ne_a_x
  have A_p := A_p.other W13 ne_p_x
  have A_g := A_g.other W13 ne_g_x
  refine N.lastore C (pc' := 17) (i := n.toInt.toNat) d5_16 A_g (by omega) (by rw [L_g.1]; omega) g_g rfl (fun h16_2 W16 A_g => ?_)
  have Z0 : G.n0 ≤ _ := (Wr.size W16).symm ▸ Z0
  have F_x_estimate := F_x_estimate.other W16 (Or.inl ne_x_g)
  have F_x_cost := F_x_cost.other W16 (Or.inl ne_x_g)
  have F_x_guided := F_x_guided.other W16 (Or.inl ne_x_g)
  have F_x_heap := F_x_heap.other W16 (Or.inl ne_x_g)
  have F_x_place := F_x_place.other W16 (Or.inl ne_x_g)
  have F_x_given := F_x_given.other W16 (Or.inl ne_x_g)
  have F_x_offers := F_x_offers.other W16 (Or.inl ne_x_g)
  have F_x_size := F_x_size.other W16 (Or.inl ne_x_g)
  have E_x := E_x.wr W16
  have A_e := A_e.other W16 ne_e_g
  have A_c := A_c.other W16 ne_c_g
  have A_a := A_a.other W16 ne_a_g
  have A_p := A_p.other W16 ne_p_g
  refine N.aloadN C (pc' := 18) d5_17 rfl rfl rfl ?_
  refine N.getF C (pc' := 21) d5_18 (C.w (i := 20) rfl) F_x_place rfl ?_
  refine N.iloadN C (pc' := 22) d5_21 rfl rfl ?_
  refine N.iaload C (pc' := 23) (i := n.toInt.toNat) (v := (.int (-1 : Int32))) d5_22 A_p (by omega) (own_pmap hpn) rfl ?_
  refine N.ifc C (pt := 53) (pf := 26) d5_23 rfl rfl (fun (q : 0 ≤ (-1)) => absurd q (by decide)) (fun _ => ?_)
  refine N.aloadN C (pc' := 27) d5_26 rfl rfl rfl ?_
  refine N.getF C (pc' := 30) d5_27 (C.w (i := 20) rfl) F_x_place rfl ?_
  refine N.iloadN C (pc' := 31) d5_30 rfl rfl ?_
  refine N.aloadN C (pc' := 32) d5_31 rfl rfl rfl ?_
  refine N.getF C (pc' := 35) d5_32 (C.w (i := 34) rfl) F_x_size rfl ?_
  refine N.iastore C (pc' := 36) (i := n.toInt.toNat) d5_35 A_p (by omega) (by rw [List.length_map, L_p]; omega) g_p rfl (fun h35_3 W35 A_p => ?_)
  have Z0 : G.n0 ≤ _ := (Wr.size W35).symm ▸ Z0
  have F_x_estimate := F_x_estimate.other W35 (Or.inl ne_x_p)
  have F_x_cost := F_x_cost.other W35 (Or.inl ne_x_p)
  have F_x_guided := F_x_guided.other W35 (Or.inl ne_x_p)
  have F_x_heap := F_x_heap.other W35 (Or.inl ne_x_p)
  have F_x_place := F_x_place.other W35 (Or.inl ne_x_p)
  have F_x_given := F_x_given.other W35 (Or.inl ne_x_p)
  have F_x_offers := F_x_offers.other W35 (Or.inl ne_x_p)
  have F_x_size := F_x_size.other W35 (Or.inl ne_x_p)
  have E_x := E_x.wr W35
  have A_e := A_e.other W35 ne_e_p
  have A_c := A_c.other W35 ne_c_p
  have A_a := A_a.other W35 ne_a_p
  have A_g := A_g.other W35 ne_g_p
  have A_p : Av G.Z h35_3 p .int ((ps.set n.toInt.toNat (1 : Int32)).map .int) := by rw [List.map_set]; exact A_p
  refine N.aloadN C (pc' := 37) d5_36 rfl rfl rfl ?_
  refine N.getF C (pc' := 40) d5_37 (C.w (i := 18) rfl) F_x_heap rfl ?_
  refine N.aloadN C (pc' := 41) d5_40 rfl rfl rfl ?_
  refine N.dup C (pc' := 42) d5_41 rfl rfl ?_
  refine N.getF C (pc' := 45) d5_42 (C.w (i := 34) rfl) F_x_size rfl ?_
  refine N.dup_x1 C (pc' := 46) d5_45 rfl rfl rfl ?_
  refine N.iconst C (pc' := 47) (z := 1) d5_46 rfl rfl ?_
  refine N.iadd C (pc' := 48) d5_47 rfl ?_
  show N G K rm5 Q h35_3 0 0 48 #[.val (.ref x), .val (.int n)] [(.int (2 : Int32)), (.ref x), (.int (1 : Int32)), (.ref a)]
  refine N.putF C (pc' := 51) d5_48 (C.w (i := 34) rfl) F_x_size E_x (Or.inl (C.w (i := 35) rfl)) (C.w (i := 3) rfl) (ty := .int) (by decide) rfl rfl g_x rfl (fun h48_4 W48 => ?_)
  have Z0 : G.n0 ≤ _ := (Wr.size W48).symm ▸ Z0
  have F_x_estimate := F_x_estimate.other W48 (Or.inr (slot_ne (Or.inr (C.w (i := 12) rfl)) (Or.inl (C.w (i := 35) rfl)) (by decide) (t := (.array .double)) (t' := .int) (by decide) (by decide)))
  have F_x_cost := F_x_cost.other W48 (Or.inr (slot_ne (Or.inr (C.w (i := 14) rfl)) (Or.inl (C.w (i := 35) rfl)) (by decide) (t := (.array .double)) (t' := .int) (by decide) (by decide)))
  have F_x_guided := F_x_guided.other W48 (Or.inr (slot_ne (Or.inr (C.w (i := 16) rfl)) (Or.inl (C.w (i := 35) rfl)) (by decide) (t := .boolean) (t' := .int) (by decide) (by decide)))
  have F_x_heap := F_x_heap.other W48 (Or.inr (slot_ne (Or.inr (C.w (i := 19) rfl)) (Or.inl (C.w (i := 35) rfl)) (by decide) (t := (.array .int)) (t' := .int) (by decide) (by decide)))
  have F_x_place := F_x_place.other W48 (Or.inr (slot_ne (Or.inr (C.w (i := 21) rfl)) (Or.inl (C.w (i := 35) rfl)) (by decide) (t := (.array .int)) (t' := .int) (by decide) (by decide)))
  have F_x_given := F_x_given.other W48 (Or.inr (slot_ne (Or.inr (C.w (i := 28) rfl)) (Or.inl (C.w (i := 35) rfl)) (by decide) (t := (.array .long)) (t' := .int) (by decide) (by decide)))
  have F_x_offers := F_x_offers.other W48 (Or.inr (slot_ne (Or.inl (C.w (i := 42) rfl)) (Or.inl (C.w (i := 35) rfl)) (by decide) (t := .long) (t' := .int) (by decide) (by decide)))
  have F_x_size := F_x_size.same W48
  have E_x := E_x.wr W48
  have A_e := A_e.other W48 ne_e_x
  have A_c := A_c.other W48 ne_c_x
  have A_a := A_a.other W48 ne_a_x
  have A_p := A_p.other W48 ne_p_x
  have A_g := A_g.other W48 ne_g_x
  refine N.iloadN C (pc' := 52) d5_51 rfl rfl ?_
  refine N.iastore C (pc' := 53) (i := 1) d5_52 A_a rfl (by rw [List.length_map, R_a.1]; decide) g_a rfl (fun h52_5 W52 A_a => ?_)
  have Z0 : G.n0 ≤ _ := (Wr.size W52).symm ▸ Z0
  have F_x_estimate := F_x_estimate.other W52 (Or.inl ne_x_a)
  have F_x_cost := F_x_cost.other W52 (Or.inl ne_x_a)
  have F_x_guided := F_x_guided.other W52 (Or.inl ne_x_a)
  have F_x_heap := F_x_heap.other W52 (Or.inl ne_x_a)
  have F_x_place := F_x_place.other W52 (Or.inl ne_x_a)
  have F_x_given := F_x_given.other W52 (Or.inl ne_x_a)
  have F_x_offers := F_x_offers.other W52 (Or.inl ne_x_a)
  have F_x_size := F_x_size.other W52 (Or.inl ne_x_a)
  have E_x := E_x.wr W52
  have A_e := A_e.other W52 ne_e_a
  have A_c := A_c.other W52 ne_c_a
  have A_p := A_p.other W52 ne_p_a
  have A_g := A_g.other W52 ne_g_a
  have A_a : Av G.Z h52_5 a .int ((hs.set 1 n).map .int) := by rw [List.map_set]; exact A_a
  refine N.aloadN C (pc' := 54) d5_53 rfl rfl rfl ?_
  refine N.aloadN C (pc' := 55) d5_54 rfl rfl rfl ?_
  refine N.getF C (pc' := 58) d5_55 (C.w (i := 20) rfl) F_x_place rfl ?_
  refine N.iloadN C (pc' := 59) d5_58 rfl rfl ?_
  refine N.iaload C (pc' := 60) (i := n.toInt.toNat) (v := (.int (1 : Int32))) d5_59 A_p (by omega) (own_pmap (List.getElem?_set_self (by rw [L_p]; omega))) rfl ?_
  refine N.callP C (pc' := 63) x [(.int (1 : Int32))] d5_60 (C.w (i := 43) rfl) (C.w (i := 45) rfl) (Jvm.Kit.selects_private (by decide) (C.w (i := 3) rfl) (C.w (i := 45) rfl) (C.w (i := 44) rfl)) (C.w (i := 44) rfl) (C.w (i := 4) rfl) (C.w (i := 46) rfl) (by decide) E_x (con_up1 G hw x e c a p g (2 : Int32) (hs.set 1 n) (ps.set n.toInt.toNat (1 : Int32)) h52_5 Z0 ⟨gd, (of + (1 : Int64)), ds, cs, (gs.set n.toInt.toNat (.long of)), ne_x_a, ne_x_p, ne_x_g, ne_a_p, ne_a_g, ne_p_g, ne_e_x, ne_e_a, ne_e_p, ne_e_g, ne_c_x, ne_c_a, ne_c_p, ne_c_g, g_x, g_a, g_p, g_g, E_x, F_x_estimate, F_x_cost, F_x_guided, F_x_heap, F_x_place, F_x_given, F_x_offers, F_x_size, A_e, D_e, A_c, D_c, A_a, own_rng_set R_a hn.1 hn.2, A_p, (by simp [L_p]), A_g, own_lng_set L_g⟩) (lenOf pd__I_V rfl) rfl (by decide) (show 0 + (4 + 11) + _ ≤ _ from by decide) (by decide) (by decide) (rest := []) rfl rfl ?_
  rintro _ h60_6 ⟨rfl, Zp1, hs', ps', HU⟩
  have Z0 := Zp1
  show N G K rm5 Q h60_6 0 0 63 #[.val (.ref x), .val (.int n)] []
  exact N.ret0 C rfl d5_63 (by decide) (by decide) (by subst hQ; exact ⟨rfl, Z0, _, _, HU⟩)
set_option maxRecDepth 65536 in
set_option maxHeartbeats 40000000 in
theorem con_offB (G : Gx) (hw : ∀ d ∈ tables_1, d.before G.a0 G.Z = true) (x e c a p g : Addr) (n : Int32) (hs ps : List Int32) (h : Heap) (hn : 0 ≤ n.toInt ∧ n.toInt < 3) (hpn : ps[n.toInt.toNat]? = some 0) (Z0 : G.n0 ≤ h.size) (HQ : Hq G h x e c a p g 1 hs ps) :
    Con G (⟨"com/example/ravel/ravel/search/NodeHeap", "offer", "(I)V"⟩ : MethodName) prog_50_method_3_code 2 none rm5 #[(.ref x), (.int n)] h (fun v h' => v = none ∧ G.n0 ≤ h'.size ∧ ∃ hs' ps' : List Int32, Hq G h' x e c a p g 1 hs' ps') := by
  refine Con.of (W := tables_1) (plainFor_of_name pn5) hw (fun mm => ef5 mm x n) (fun K C => ?_)
  have C : Cx G K "com/example/ravel/ravel/search/NodeHeap" "offer" prog_50_method_3_code 2 none tables_1 := C
  generalize hQ : (fun v h' => v = none ∧ G.n0 ≤ h'.size ∧ ∃ hs' ps' : List Int32, Hq G h' x e c a p g 1 hs' ps' : Option Value → Heap → Prop) = Q
  obtain ⟨gd, of, ds, cs, gs, ne_x_a, ne_x_p, ne_x_g, ne_a_p, ne_a_g, ne_p_g, ne_e_x, ne_e_a, ne_e_p, ne_e_g, ne_c_x, ne_c_a, ne_c_p, ne_c_g, g_x, g_a, g_p, g_g, E_x, F_x_estimate, F_x_cost, F_x_guided, F_x_heap, F_x_place, F_x_given, F_x_offers, F_x_size, A_e, D_e, A_c, D_c, A_a, R_a, A_p, L_p, A_g, L_g⟩ := HQ
  have ne_a_x := Ne.symm ne_x_a
  have ne_p_x := Ne.symm ne_x_p
  have ne_g_x := Ne.symm ne_x_g
  have ne_p_a := Ne.symm ne_a_p
  have ne_g_a := Ne.symm ne_a_g
  have ne_g_p := Ne.symm ne_p_g
  have ne_x_e := Ne.symm ne_e_x
  have ne_a_e := Ne.symm ne_e_a
  have ne_p_e := Ne.symm ne_e_p
  have ne_g_e := Ne.symm ne_e_g
  have ne_x_c := Ne.symm ne_c_x
  have ne_a_c := Ne.symm ne_c_a
  have ne_p_c := Ne.symm ne_c_p
  have ne_g_c := Ne.symm ne_c_g
  refine N.aloadN C (pc' := 1) d5_0 rfl rfl rfl ?_
  refine N.getF C (pc' := 4) d5_1 (C.w (i := 27) rfl) F_x_given rfl ?_
  refine N.iloadN C (pc' := 5) d5_4 rfl rfl ?_
  refine N.aloadN C (pc' := 6) d5_5 rfl rfl rfl ?_
  refine N.dup C (pc' := 7) d5_6 rfl rfl ?_
  refine N.getF C (pc' := 10) d5_7 (C.w (i := 41) rfl) F_x_offers rfl ?_
  refine N.dup2_x1L C (pc' := 11) d5_10 rfl ?_
  refine N.lconst C (pc' := 12) (z := 1) d5_11 rfl rfl ?_
  refine N.ladd C (pc' := 13) d5_12 rfl ?_
  refine N.putF C (pc' := 16) d5_13 (C.w (i := 41) rfl) F_x_offers E_x (Or.inl (C.w (i := 42) rfl)) (C.w (i := 3) rfl) (ty := .long) (by decide) rfl rfl g_x rfl (fun h13_1 W13 => ?_)
  have Z0 : G.n0 ≤ _ := (Wr.size W13).symm ▸ Z0
  have F_x_estimate := F_x_estimate.other W13 (Or.inr (slot_ne (Or.inr (C.w (i := 12) rfl)) (Or.inl (C.w (i := 42) rfl)) (by decide) (t := (.array .double)) (t' := .long) (by decide) (by decide)))
  have F_x_cost := F_x_cost.other W13 (Or.inr (slot_ne (Or.inr (C.w (i := 14) rfl)) (Or.inl (C.w (i := 42) rfl)) (by decide) (t := (.array .double)) (t' := .long) (by decide) (by decide)))
  have F_x_guided := F_x_guided.other W13 (Or.inr (slot_ne (Or.inr (C.w (i := 16) rfl)) (Or.inl (C.w (i := 42) rfl)) (by decide) (t := .boolean) (t' := .long) (by decide) (by decide)))
  have F_x_heap := F_x_heap.other W13 (Or.inr (slot_ne (Or.inr (C.w (i := 19) rfl)) (Or.inl (C.w (i := 42) rfl)) (by decide) (t := (.array .int)) (t' := .long) (by decide) (by decide)))
  have F_x_place := F_x_place.other W13 (Or.inr (slot_ne (Or.inr (C.w (i := 21) rfl)) (Or.inl (C.w (i := 42) rfl)) (by decide) (t := (.array .int)) (t' := .long) (by decide) (by decide)))
  have F_x_given := F_x_given.other W13 (Or.inr (slot_ne (Or.inr (C.w (i := 28) rfl)) (Or.inl (C.w (i := 42) rfl)) (by decide) (t := (.array .long)) (t' := .long) (by decide) (by decide)))
  have F_x_offers := F_x_offers.same W13
  have F_x_size := F_x_size.other W13 (Or.inr (slot_ne (Or.inl (C.w (i := 35) rfl)) (Or.inl (C.w (i := 42) rfl)) (by decide) (t := .int) (t' := .long) (by decide) (by decide)))
  have E_x := E_x.wr W13
  have A_e := A_e.other W13 ne_e_x
  have A_c := A_c.other W13 ne_c_x
  have A_a := A_a.other W13 ne_a_x
  have A_p := A_p.other W13 ne_p_x
  have A_g := A_g.other W13 ne_g_x
  refine N.lastore C (pc' := 17) (i := n.toInt.toNat) d5_16 A_g (by omega) (by rw [L_g.1]; omega) g_g rfl (fun h16_2 W16 A_g => ?_)
  have Z0 : G.n0 ≤ _ := (Wr.size W16).symm ▸ Z0
  have F_x_estimate := F_x_estimate.other W16 (Or.inl ne_x_g)
  have F_x_cost := F_x_cost.other W16 (Or.inl ne_x_g)
  have F_x_guided := F_x_guided.other W16 (Or.inl ne_x_g)
  have F_x_heap := F_x_heap.other W16 (Or.inl ne_x_g)
  have F_x_place := F_x_place.other W16 (Or.inl ne_x_g)
  have F_x_given := F_x_given.other W16 (Or.inl ne_x_g)
  have F_x_offers := F_x_offers.other W16 (Or.inl ne_x_g)
  have F_x_size := F_x_size.other W16 (Or.inl ne_x_g)
  have E_x := E_x.wr W16
  have A_e := A_e.other W16 ne_e_g
  have A_c := A_c.other W16 ne_c_g
  have A_a := A_a.other W16 ne_a_g
  have A_p := A_p.other W16 ne_p_g
  refine N.aloadN C (pc' := 18) d5_17 rfl rfl rfl ?_
  refine N.getF C (pc' := 21) d5_18 (C.w (i := 20) rfl) F_x_place rfl ?_
  refine N.iloadN C (pc' := 22) d5_21 rfl rfl ?_
  refine N.iaload C (pc' := 23) (i := n.toInt.toNat) (v := (.int (0 : Int32))) d5_22 A_p (by omega) (own_pmap hpn) rfl ?_
  refine N.ifc C (pt := 53) (pf := 26) d5_23 rfl rfl (fun _ => ?_) (fun (q : 0 < 0) => absurd q (by decide))
  refine N.aloadN C (pc' := 54) d5_53 rfl rfl rfl ?_
  refine N.aloadN C (pc' := 55) d5_54 rfl rfl rfl ?_
  refine N.getF C (pc' := 58) d5_55 (C.w (i := 20) rfl) F_x_place rfl ?_
  refine N.iloadN C (pc' := 59) d5_58 rfl rfl ?_
  refine N.iaload C (pc' := 60) (i := n.toInt.toNat) (v := (.int (0 : Int32))) d5_59 A_p (by omega) (own_pmap hpn) rfl ?_
  refine N.callP C (pc' := 63) x [(.int (0 : Int32))] d5_60 (C.w (i := 43) rfl) (C.w (i := 45) rfl) (Jvm.Kit.selects_private (by decide) (C.w (i := 3) rfl) (C.w (i := 45) rfl) (C.w (i := 44) rfl)) (C.w (i := 44) rfl) (C.w (i := 4) rfl) (C.w (i := 46) rfl) (by decide) E_x (con_up0 G hw x e c a p g (1 : Int32) hs ps h16_2 Z0 ⟨gd, (of + (1 : Int64)), ds, cs, (gs.set n.toInt.toNat (.long of)), ne_x_a, ne_x_p, ne_x_g, ne_a_p, ne_a_g, ne_p_g, ne_e_x, ne_e_a, ne_e_p, ne_e_g, ne_c_x, ne_c_a, ne_c_p, ne_c_g, g_x, g_a, g_p, g_g, E_x, F_x_estimate, F_x_cost, F_x_guided, F_x_heap, F_x_place, F_x_given, F_x_offers, F_x_size, A_e, D_e, A_c, D_c, A_a, R_a, A_p, L_p, A_g, own_lng_set L_g⟩) (lenOf pd__I_V rfl) rfl (by decide) (show 0 + (4 + 11) + _ ≤ _ from by decide) (by decide) (by decide) (rest := []) rfl rfl ?_
  rintro _ h60_3 ⟨rfl, Zp1, yu, eyu, ry0, ry1, HU⟩
  have Z0 := Zp1
  show N G K rm5 Q h60_3 0 0 63 #[.val (.ref x), .val (.int n)] []
  exact N.ret0 C rfl d5_63 (by decide) (by decide) (by subst hQ; exact ⟨rfl, Z0, _, _, HU⟩)
set_option maxRecDepth 65536 in
set_option maxHeartbeats 40000000 in
theorem con_poll1 (G : Gx) (hw : ∀ d ∈ tables_1, d.before G.a0 G.Z = true) (x e c a p g : Addr) (hs ps : List Int32) (h : Heap) (Z0 : G.n0 ≤ h.size) (HQ : Hq G h x e c a p g 1 hs ps) :
    Con G (⟨"com/example/ravel/ravel/search/NodeHeap", "poll", "()I"⟩ : MethodName) prog_50_method_4_code 2 (some .int) rm9 #[(.ref x)] h (fun v h' => ∃ r : Int32, v = some (.int r) ∧ G.n0 ≤ h'.size ∧ ∃ hs' ps' : List Int32, Hq G h' x e c a p g 0 hs' ps') := by
  refine Con.of (W := tables_1) (plainFor_of_name pn9) hw (fun mm => ef9 mm x) (fun K C => ?_)
  have C : Cx G K "com/example/ravel/ravel/search/NodeHeap" "poll" prog_50_method_4_code 2 (some .int) tables_1 := C
  generalize hQ : (fun v h' => ∃ r : Int32, v = some (.int r) ∧ G.n0 ≤ h'.size ∧ ∃ hs' ps' : List Int32, Hq G h' x e c a p g 0 hs' ps' : Option Value → Heap → Prop) = Q
  obtain ⟨gd, of, ds, cs, gs, ne_x_a, ne_x_p, ne_x_g, ne_a_p, ne_a_g, ne_p_g, ne_e_x, ne_e_a, ne_e_p, ne_e_g, ne_c_x, ne_c_a, ne_c_p, ne_c_g, g_x, g_a, g_p, g_g, E_x, F_x_estimate, F_x_cost, F_x_guided, F_x_heap, F_x_place, F_x_given, F_x_offers, F_x_size, A_e, D_e, A_c, D_c, A_a, R_a, A_p, L_p, A_g, L_g⟩ := HQ
  have ne_a_x := Ne.symm ne_x_a
  have ne_p_x := Ne.symm ne_x_p
  have ne_g_x := Ne.symm ne_x_g
  have ne_p_a := Ne.symm ne_a_p
  have ne_g_a := Ne.symm ne_a_g
  have ne_g_p := Ne.symm ne_p_g
  have ne_x_e := Ne.symm ne_e_x
  have ne_a_e := Ne.symm ne_e_a
  have ne_p_e := Ne.symm ne_e_p
  have ne_g_e := Ne.symm ne_e_g
  have ne_x_c := Ne.symm ne_c_x
  have ne_a_c := Ne.symm ne_c_a
  have ne_p_c := Ne.symm ne_c_p
  have ne_g_c := Ne.symm ne_c_g
  refine N.aloadN C (pc' := 1) d9_0 rfl rfl rfl ?_
  refine N.getF C (pc' := 4) d9_1 (C.w (i := 18) rfl) F_x_heap rfl ?_
  refine N.iconst C (pc' := 5) (z := 0) d9_4 rfl rfl ?_
  obtain ⟨y1, my1, ey1, ry1⟩ := own_rng_get R_a (i := 0) (by decide)
  refine N.iaload C (pc' := 6) (i := 0) (v := (.int y1)) d9_5 A_a rfl my1 rfl ?_
  refine N.istoreN C (pc' := 7) (ls' := #[.val (.ref x), .val (.int y1)]) d9_6 rfl rfl ?_
  refine N.aloadN C (pc' := 8) d9_7 rfl rfl rfl ?_
  refine N.getF C (pc' := 11) d9_8 (C.w (i := 20) rfl) F_x_place rfl ?_
  refine N.iloadN C (pc' := 12) d9_11 rfl rfl ?_
  refine N.iconst C (pc' := 13) (z := -1) d9_12 rfl rfl ?_
  refine N.iastore C (pc' := 14) (i := y1.toInt.toNat) d9_13 A_p (by omega) (by rw [List.length_map, L_p]; omega) g_p rfl (fun h13_1 W13 A_p => ?_)
  have Z0 : G.n0 ≤ _ := (Wr.size W13).symm ▸ Z0
  have F_x_estimate := F_x_estimate.other W13 (Or.inl ne_x_p)
  have F_x_cost := F_x_cost.other W13 (Or.inl ne_x_p)
  have F_x_guided := F_x_guided.other W13 (Or.inl ne_x_p)
  have F_x_heap := F_x_heap.other W13 (Or.inl ne_x_p)
  have F_x_place := F_x_place.other W13 (Or.inl ne_x_p)
  have F_x_given := F_x_given.other W13 (Or.inl ne_x_p)
  have F_x_offers := F_x_offers.other W13 (Or.inl ne_x_p)
  have F_x_size := F_x_size.other W13 (Or.inl ne_x_p)
  have E_x := E_x.wr W13
  have A_e := A_e.other W13 ne_e_p
  have A_c := A_c.other W13 ne_c_p
  have A_a := A_a.other W13 ne_a_p
  have A_g := A_g.other W13 ne_g_p
  have A_p : Av G.Z h13_1 p .int ((ps.set y1.toInt.toNat (-1)).map .int) := by rw [List.map_set]; exact A_p
  have L_p : (ps.set y1.toInt.toNat (-1)).length = 3 := by simp [L_p]
  refine N.aloadN C (pc' := 15) d9_14 rfl rfl rfl ?_
  refine N.dup C (pc' := 16) d9_15 rfl rfl ?_
  refine N.getF C (pc' := 19) d9_16 (C.w (i := 34) rfl) F_x_size rfl ?_
  refine N.iconst C (pc' := 20) (z := 1) d9_19 rfl rfl ?_
  refine N.isub C (pc' := 21) d9_20 rfl ?_
  show N G K rm9 Q h13_1 0 0 21 #[.val (.ref x), .val (.int y1)] [(.int (0 : Int32)), (.ref x)]
  refine N.putF C (pc' := 24) d9_21 (C.w (i := 34) rfl) F_x_size E_x (Or.inl (C.w (i := 35) rfl)) (C.w (i := 3) rfl) (ty := .int) (by decide) rfl rfl g_x rfl (fun h21_2 W21 => ?_)
  have Z0 : G.n0 ≤ _ := (Wr.size W21).symm ▸ Z0
  have F_x_estimate := F_x_estimate.other W21 (Or.inr (slot_ne (Or.inr (C.w (i := 12) rfl)) (Or.inl (C.w (i := 35) rfl)) (by decide) (t := (.array .double)) (t' := .int) (by decide) (by decide)))
  have F_x_cost := F_x_cost.other W21 (Or.inr (slot_ne (Or.inr (C.w (i := 14) rfl)) (Or.inl (C.w (i := 35) rfl)) (by decide) (t := (.array .double)) (t' := .int) (by decide) (by decide)))
  have F_x_guided := F_x_guided.other W21 (Or.inr (slot_ne (Or.inr (C.w (i := 16) rfl)) (Or.inl (C.w (i := 35) rfl)) (by decide) (t := .boolean) (t' := .int) (by decide) (by decide)))
  have F_x_heap := F_x_heap.other W21 (Or.inr (slot_ne (Or.inr (C.w (i := 19) rfl)) (Or.inl (C.w (i := 35) rfl)) (by decide) (t := (.array .int)) (t' := .int) (by decide) (by decide)))
  have F_x_place := F_x_place.other W21 (Or.inr (slot_ne (Or.inr (C.w (i := 21) rfl)) (Or.inl (C.w (i := 35) rfl)) (by decide) (t := (.array .int)) (t' := .int) (by decide) (by decide)))
  have F_x_given := F_x_given.other W21 (Or.inr (slot_ne (Or.inr (C.w (i := 28) rfl)) (Or.inl (C.w (i := 35) rfl)) (by decide) (t := (.array .long)) (t' := .int) (by decide) (by decide)))
  have F_x_offers := F_x_offers.other W21 (Or.inr (slot_ne (Or.inl (C.w (i := 42) rfl)) (Or.inl (C.w (i := 35) rfl)) (by decide) (t := .long) (t' := .int) (by decide) (by decide)))
  have F_x_size := F_x_size.same W21
  have E_x := E_x.wr W21
  have A_e := A_e.other W21 ne_e_x
  have A_c := A_c.other W21 ne_c_x
  have A_a := A_a.other W21 ne_a_x
  have A_p := A_p.other W21 ne_p_x
  have A_g := A_g.other W21 ne_g_x
  refine N.aloadN C (pc' := 25) d9_24 rfl rfl rfl ?_
  refine N.getF C (pc' := 28) d9_25 (C.w (i := 34) rfl) F_x_size rfl ?_
  refine N.ifc C (pt := 50) (pf := 31) d9_28 rfl rfl (fun _ => ?_) (fun (q : 0 < 0) => absurd q (by decide))
  refine N.iloadN C (pc' := 51) d9_50 rfl rfl ?_
  exact N.retI C d9_51 (by decide) (by decide) (by subst hQ; exact ⟨_, rfl, Z0, _, _, ⟨gd, of, ds, cs, gs, ne_x_a, ne_x_p, ne_x_g, ne_a_p, ne_a_g, ne_p_g, ne_e_x, ne_e_a, ne_e_p, ne_e_g, ne_c_x, ne_c_a, ne_c_p, ne_c_g, g_x, g_a, g_p, g_g, E_x, F_x_estimate, F_x_cost, F_x_guided, F_x_heap, F_x_place, F_x_given, F_x_offers, F_x_size, A_e, D_e, A_c, D_c, A_a, R_a, A_p, L_p, A_g, L_g⟩⟩)
set_option maxRecDepth 65536 in
set_option maxHeartbeats 40000000 in
theorem con_poll2 (G : Gx) (hw : ∀ d ∈ tables_1, d.before G.a0 G.Z = true) (x e c a p g : Addr) (hs ps : List Int32) (h : Heap) (Z0 : G.n0 ≤ h.size) (HQ : Hq G h x e c a p g 2 hs ps) :
    Con G (⟨"com/example/ravel/ravel/search/NodeHeap", "poll", "()I"⟩ : MethodName) prog_50_method_4_code 2 (some .int) rm9 #[(.ref x)] h (fun v h' => ∃ r : Int32, v = some (.int r) ∧ G.n0 ≤ h'.size ∧ ∃ hs' ps' : List Int32, Hq G h' x e c a p g 1 hs' ps') := by
  refine Con.of (W := tables_1) (plainFor_of_name pn9) hw (fun mm => ef9 mm x) (fun K C => ?_)
  have C : Cx G K "com/example/ravel/ravel/search/NodeHeap" "poll" prog_50_method_4_code 2 (some .int) tables_1 := C
  generalize hQ : (fun v h' => ∃ r : Int32, v = some (.int r) ∧ G.n0 ≤ h'.size ∧ ∃ hs' ps' : List Int32, Hq G h' x e c a p g 1 hs' ps' : Option Value → Heap → Prop) = Q
  obtain ⟨gd, of, ds, cs, gs, ne_x_a, ne_x_p, ne_x_g, ne_a_p, ne_a_g, ne_p_g, ne_e_x, ne_e_a, ne_e_p, ne_e_g, ne_c_x, ne_c_a, ne_c_p, ne_c_g, g_x, g_a, g_p, g_g, E_x, F_x_estimate, F_x_cost, F_x_guided, F_x_heap, F_x_place, F_x_given, F_x_offers, F_x_size, A_e, D_e, A_c, D_c, A_a, R_a, A_p, L_p, A_g, L_g⟩ := HQ
  have ne_a_x := Ne.symm ne_x_a
  have ne_p_x := Ne.symm ne_x_p
  have ne_g_x := Ne.symm ne_x_g
  have ne_p_a := Ne.symm ne_a_p
  have ne_g_a := Ne.symm ne_a_g
  have ne_g_p := Ne.symm ne_p_g
  have ne_x_e := Ne.symm ne_e_x
  have ne_a_e := Ne.symm ne_e_a
  have ne_p_e := Ne.symm ne_e_p
  have ne_g_e := Ne.symm ne_e_g
  have ne_x_c := Ne.symm ne_c_x
  have ne_a_c := Ne.symm ne_c_a
  have ne_p_c := Ne.symm ne_c_p
  have ne_g_c := Ne.symm ne_c_g
  refine N.aloadN C (pc' := 1) d9_0 rfl rfl rfl ?_
  refine N.getF C (pc' := 4) d9_1 (C.w (i := 18) rfl) F_x_heap rfl ?_
  refine N.iconst C (pc' := 5) (z := 0) d9_4 rfl rfl ?_
  obtain ⟨y1, my1, ey1, ry1⟩ := own_rng_get R_a (i := 0) (by decide)
  refine N.iaload C (pc' := 6) (i := 0) (v := (.int y1)) d9_5 A_a rfl my1 rfl ?_
  refine N.istoreN C (pc' := 7) (ls' := #[.val (.ref x), .val (.int y1)]) d9_6 rfl rfl ?_
  refine N.aloadN C (pc' := 8) d9_7 rfl rfl rfl ?_
  refine N.getF C (pc' := 11) d9_8 (C.w (i := 20) rfl) F_x_place rfl ?_
  refine N.iloadN C (pc' := 12) d9_11 rfl rfl ?_
  refine N.iconst C (pc' := 13) (z := -1) d9_12 rfl rfl ?_
  refine N.iastore C (pc' := 14) (i := y1.toInt.toNat) d9_13 A_p (by omega) (by rw [List.length_map, L_p]; omega) g_p rfl (fun h13_1 W13 A_p => ?_)
  have Z0 : G.n0 ≤ _ := (Wr.size W13).symm ▸ Z0
  have F_x_estimate := F_x_estimate.other W13 (Or.inl ne_x_p)
  have F_x_cost := F_x_cost.other W13 (Or.inl ne_x_p)
  have F_x_guided := F_x_guided.other W13 (Or.inl ne_x_p)
  have F_x_heap := F_x_heap.other W13 (Or.inl ne_x_p)
  have F_x_place := F_x_place.other W13 (Or.inl ne_x_p)
  have F_x_given := F_x_given.other W13 (Or.inl ne_x_p)
  have F_x_offers := F_x_offers.other W13 (Or.inl ne_x_p)
  have F_x_size := F_x_size.other W13 (Or.inl ne_x_p)
  have E_x := E_x.wr W13
  have A_e := A_e.other W13 ne_e_p
  have A_c := A_c.other W13 ne_c_p
  have A_a := A_a.other W13 ne_a_p
  have A_g := A_g.other W13 ne_g_p
  have A_p : Av G.Z h13_1 p .int ((ps.set y1.toInt.toNat (-1)).map .int) := by rw [List.map_set]; exact A_p
  have L_p : (ps.set y1.toInt.toNat (-1)).length = 3 := by simp [L_p]
  refine N.aloadN C (pc' := 15) d9_14 rfl rfl rfl ?_
  refine N.dup C (pc' := 16) d9_15 rfl rfl ?_
  refine N.getF C (pc' := 19) d9_16 (C.w (i := 34) rfl) F_x_size rfl ?_
  refine N.iconst C (pc' := 20) (z := 1) d9_19 rfl rfl ?_
  refine N.isub C (pc' := 21) d9_20 rfl ?_
  show N G K rm9 Q h13_1 0 0 21 #[.val (.ref x), .val (.int y1)] [(.int (1 : Int32)), (.ref x)]
  refine N.putF C (pc' := 24) d9_21 (C.w (i := 34) rfl) F_x_size E_x (Or.inl (C.w (i := 35) rfl)) (C.w (i := 3) rfl) (ty := .int) (by decide) rfl rfl g_x rfl (fun h21_2 W21 => ?_)
  have Z0 : G.n0 ≤ _ := (Wr.size W21).symm ▸ Z0
  have F_x_estimate := F_x_estimate.other W21 (Or.inr (slot_ne (Or.inr (C.w (i := 12) rfl)) (Or.inl (C.w (i := 35) rfl)) (by decide) (t := (.array .double)) (t' := .int) (by decide) (by decide)))
  have F_x_cost := F_x_cost.other W21 (Or.inr (slot_ne (Or.inr (C.w (i := 14) rfl)) (Or.inl (C.w (i := 35) rfl)) (by decide) (t := (.array .double)) (t' := .int) (by decide) (by decide)))
  have F_x_guided := F_x_guided.other W21 (Or.inr (slot_ne (Or.inr (C.w (i := 16) rfl)) (Or.inl (C.w (i := 35) rfl)) (by decide) (t := .boolean) (t' := .int) (by decide) (by decide)))
  have F_x_heap := F_x_heap.other W21 (Or.inr (slot_ne (Or.inr (C.w (i := 19) rfl)) (Or.inl (C.w (i := 35) rfl)) (by decide) (t := (.array .int)) (t' := .int) (by decide) (by decide)))
  have F_x_place := F_x_place.other W21 (Or.inr (slot_ne (Or.inr (C.w (i := 21) rfl)) (Or.inl (C.w (i := 35) rfl)) (by decide) (t := (.array .int)) (t' := .int) (by decide) (by decide)))
  have F_x_given := F_x_given.other W21 (Or.inr (slot_ne (Or.inr (C.w (i := 28) rfl)) (Or.inl (C.w (i := 35) rfl)) (by decide) (t := (.array .long)) (t' := .int) (by decide) (by decide)))
  have F_x_offers := F_x_offers.other W21 (Or.inr (slot_ne (Or.inl (C.w (i := 42) rfl)) (Or.inl (C.w (i := 35) rfl)) (by decide) (t := .long) (t' := .int) (by decide) (by decide)))
  have F_x_size := F_x_size.same W21
  have E_x := E_x.wr W21
  have A_e := A_e.other W21 ne_e_x
  have A_c := A_c.other W21 ne_c_x
  have A_a := A_a.other W21 ne_a_x
  have A_p := A_p.other W21 ne_p_x
  have A_g := A_g.other W21 ne_g_x
  refine N.aloadN C (pc' := 25) d9_24 rfl rfl rfl ?_
  refine N.getF C (pc' := 28) d9_25 (C.w (i := 34) rfl) F_x_size rfl ?_
  refine N.ifc C (pt := 50) (pf := 31) d9_28 rfl rfl (fun (q : 1 ≤ 0) => absurd q (by decide)) (fun _ => ?_)
  refine N.aloadN C (pc' := 32) d9_31 rfl rfl rfl ?_
  refine N.aloadN C (pc' := 33) d9_32 rfl rfl rfl ?_
  refine N.getF C (pc' := 36) d9_33 (C.w (i := 18) rfl) F_x_heap rfl ?_
  refine N.aloadN C (pc' := 37) d9_36 rfl rfl rfl ?_
  refine N.getF C (pc' := 40) d9_37 (C.w (i := 34) rfl) F_x_size rfl ?_
  obtain ⟨y2, my2, ey2, ry2⟩ := own_rng_get R_a (i := 1) (by decide)
  refine N.iaload C (pc' := 41) (i := 1) (v := (.int y2)) d9_40 A_a rfl my2 rfl ?_
  refine N.iconst C (pc' := 42) (z := 0) d9_41 rfl rfl ?_
  refine N.callP C (pc' := 45) x [(.int y2), (.int (0 : Int32))] d9_42 (C.w (i := 47) rfl) (C.w (i := 49) rfl) (Jvm.Kit.selects_private (by decide) (C.w (i := 3) rfl) (C.w (i := 49) rfl) (C.w (i := 48) rfl)) (C.w (i := 48) rfl) (C.w (i := 4) rfl) (C.w (i := 50) rfl) (by decide) E_x (con7 G hw x e c a p g y2 (0 : Int32) (1 : Int32) hs (ps.set y1.toInt.toNat (-1)) h21_2 ry2.1 ry2.2 (by decide) (by decide) Z0 ⟨gd, of, ds, cs, gs, ne_x_a, ne_x_p, ne_x_g, ne_a_p, ne_a_g, ne_p_g, ne_e_x, ne_e_a, ne_e_p, ne_e_g, ne_c_x, ne_c_a, ne_c_p, ne_c_g, g_x, g_a, g_p, g_g, E_x, F_x_estimate, F_x_cost, F_x_guided, F_x_heap, F_x_place, F_x_given, F_x_offers, F_x_size, A_e, D_e, A_c, D_c, A_a, R_a, A_p, L_p, A_g, L_g⟩) (lenOf pd__II_V rfl) rfl (by decide) (show 0 + (3 + 11) + _ ≤ _ from by decide) (by decide) (by decide) (rest := []) rfl rfl ?_
  rintro _ h42_3 ⟨rfl, Zp3, Hp3⟩
  have Z0 := Zp3
  obtain ⟨gd, of, ds, cs, gs, ne_x_a, ne_x_p, ne_x_g, ne_a_p, ne_a_g, ne_p_g, ne_e_x, ne_e_a, ne_e_p, ne_e_g, ne_c_x, ne_c_a, ne_c_p, ne_c_g, g_x, g_a, g_p, g_g, E_x, F_x_estimate, F_x_cost, F_x_guided, F_x_heap, F_x_place, F_x_given, F_x_offers, F_x_size, A_e, D_e, A_c, D_c, A_a, R_a, A_p, L_p, A_g, L_g⟩ := Hp3
  have ne_a_x := Ne.symm ne_x_a
  have ne_p_x := Ne.symm ne_x_p
  have ne_g_x := Ne.symm ne_x_g
  have ne_p_a := Ne.symm ne_a_p
  have ne_g_a := Ne.symm ne_a_g
  have ne_g_p := Ne.symm ne_p_g
  have ne_x_e := Ne.symm ne_e_x
  have ne_a_e := Ne.symm ne_e_a
  have ne_p_e := Ne.symm ne_e_p
  have ne_g_e := Ne.symm ne_e_g
  have ne_x_c := Ne.symm ne_c_x
  have ne_a_c := Ne.symm ne_c_a
  have ne_p_c := Ne.symm ne_c_p
  have ne_g_c := Ne.symm ne_c_g
  show N G K rm9 Q h42_3 0 0 45 #[.val (.ref x), .val (.int y1)] []
  refine N.aloadN C (pc' := 46) d9_45 rfl rfl rfl ?_
  refine N.iconst C (pc' := 47) (z := 0) d9_46 rfl rfl ?_
  refine N.callP C (pc' := 50) x [(.int (0 : Int32))] d9_47 (C.w (i := 60) rfl) (C.w (i := 62) rfl) (Jvm.Kit.selects_private (by decide) (C.w (i := 3) rfl) (C.w (i := 62) rfl) (C.w (i := 61) rfl)) (C.w (i := 61) rfl) (C.w (i := 4) rfl) (C.w (i := 63) rfl) (by decide) E_x (con10 G hw x e c a p g (hs.set ((0 : Int32)).toInt.toNat y2) ((ps.set y1.toInt.toNat (-1)).set (y2).toInt.toNat (0 : Int32)) h42_3 Z0 ⟨gd, of, ds, cs, gs, ne_x_a, ne_x_p, ne_x_g, ne_a_p, ne_a_g, ne_p_g, ne_e_x, ne_e_a, ne_e_p, ne_e_g, ne_c_x, ne_c_a, ne_c_p, ne_c_g, g_x, g_a, g_p, g_g, E_x, F_x_estimate, F_x_cost, F_x_guided, F_x_heap, F_x_place, F_x_given, F_x_offers, F_x_size, A_e, D_e, A_c, D_c, A_a, R_a, A_p, L_p, A_g, L_g⟩) (lenOf pd__I_V rfl) rfl (by decide) (show 0 + (7 + 11) + _ ≤ _ from by decide) (by decide) (by decide) (rest := []) rfl rfl ?_
  rintro _ h47_4 ⟨rfl, Zp4, hs', ps', HU⟩
  have Z0 := Zp4
  show N G K rm9 Q h47_4 0 0 50 #[.val (.ref x), .val (.int y1)] []
  refine N.iloadN C (pc' := 51) d9_50 rfl rfl ?_
  exact N.retI C d9_51 (by decide) (by decide) (by subst hQ; exact ⟨_, rfl, Z0, _, _, HU⟩)
set_option maxRecDepth 65536 in
set_option maxHeartbeats 40000000 in
theorem con3 (G : Gx) (hw : ∀ d ∈ tables_1, d.before G.a0 G.Z = true) (p : Addr) (h : Heap) (Z0 : G.n0 ≤ h.size) (g_p : G.n0 ≤ p) (A_p : Av G.Z h p .int [.int (0 : Int32), .int (0 : Int32), .int (0 : Int32)]) :
    Con G (⟨"java/util/Arrays", "fill", "([II)V"⟩ : MethodName) jdk_65_method_103_code 4 none rm3 #[(.ref p), (.int (-1 : Int32))] h (fun v h' => v = none ∧ Keep h h' [p] ∧ Av G.Z h' p .int [.int (-1 : Int32), .int (-1 : Int32), .int (-1 : Int32)]) := by
  refine Con.of (W := tables_1) (plainFor_of_name pn3) hw (fun mm => ef3 mm p (-1 : Int32)) (fun K C => ?_)
  have C : Cx G K "java/util/Arrays" "fill" jdk_65_method_103_code 4 none tables_1 := C
  generalize hQ : (fun v h' => v = none ∧ Keep h h' [p] ∧ Av G.Z h' p .int [.int (-1 : Int32), .int (-1 : Int32), .int (-1 : Int32)] : Option Value → Heap → Prop) = Q
  have K0 : Keep h h [p] := Keep.refl _ _
  refine N.iconst C (pc' := 1) (z := 0) d3_0 rfl rfl ?_
  refine N.istoreN C (pc' := 2) (ls' := #[.val (.ref p), .val (.int (-1 : Int32)), .val (.int (0 : Int32)), .unset]) d3_1 rfl rfl ?_
  refine N.aloadN C (pc' := 3) d3_2 rfl rfl rfl ?_
  refine N.alen C (pc' := 4) (n := (3 : Int32)) d3_3 A_p rfl rfl ?_
  refine N.istoreN C (pc' := 5) (ls' := #[.val (.ref p), .val (.int (-1 : Int32)), .val (.int (0 : Int32)), .val (.int (3 : Int32))]) d3_4 rfl rfl ?_
  refine N.iloadN C (pc' := 6) d3_5 rfl rfl ?_
  refine N.iloadN C (pc' := 7) d3_6 rfl rfl ?_
  refine N.icmp C (pt := 20) (pf := 10) d3_7 rfl rfl (fun (q : 3 ≤ 0) => absurd q (by decide)) (fun _ => ?_)
  refine N.aloadN C (pc' := 11) d3_10 rfl rfl rfl ?_
  refine N.iloadN C (pc' := 12) d3_11 rfl rfl ?_
  refine N.iloadN C (pc' := 13) d3_12 rfl rfl ?_
  refine N.iastore C (pc' := 14) (i := 0) d3_13 A_p rfl (show 0 < 3 from by decide) g_p rfl (fun h13_1 W13 A_p => ?_)
  have Z0 : G.n0 ≤ _ := (Wr.size W13).symm ▸ Z0
  have K0 := K0.wr W13 (Or.inl (List.mem_of_getElem? (i := 0) rfl))
  have A_p : Av G.Z h13_1 p .int [(.int (-1 : Int32)), (.int (0 : Int32)), (.int (0 : Int32))] := A_p
  refine N.iinc C (pc' := 17) (z := 1) (ls' := #[.val (.ref p), .val (.int (-1 : Int32)), .val (.int (1 : Int32)), .val (.int (3 : Int32))]) d3_14 rfl rfl rfl rfl ?_
  refine N.goto C (pc' := 5) d3_17 rfl ?_
  refine N.iloadN C (pc' := 6) d3_5 rfl rfl ?_
  refine N.iloadN C (pc' := 7) d3_6 rfl rfl ?_
  refine N.icmp C (pt := 20) (pf := 10) d3_7 rfl rfl (fun (q : 3 ≤ 1) => absurd q (by decide)) (fun _ => ?_)
  refine N.aloadN C (pc' := 11) d3_10 rfl rfl rfl ?_
  refine N.iloadN C (pc' := 12) d3_11 rfl rfl ?_
  refine N.iloadN C (pc' := 13) d3_12 rfl rfl ?_
  refine N.iastore C (pc' := 14) (i := 1) d3_13 A_p rfl (show 1 < 3 from by decide) g_p rfl (fun h13_2 W13 A_p => ?_)
  have Z0 : G.n0 ≤ _ := (Wr.size W13).symm ▸ Z0
  have K0 := K0.wr W13 (Or.inl (List.mem_of_getElem? (i := 0) rfl))
  have A_p : Av G.Z h13_2 p .int [(.int (-1 : Int32)), (.int (-1 : Int32)), (.int (0 : Int32))] := A_p
  refine N.iinc C (pc' := 17) (z := 1) (ls' := #[.val (.ref p), .val (.int (-1 : Int32)), .val (.int (2 : Int32)), .val (.int (3 : Int32))]) d3_14 rfl rfl rfl rfl ?_
  refine N.goto C (pc' := 5) d3_17 rfl ?_
  refine N.iloadN C (pc' := 6) d3_5 rfl rfl ?_
  refine N.iloadN C (pc' := 7) d3_6 rfl rfl ?_
  refine N.icmp C (pt := 20) (pf := 10) d3_7 rfl rfl (fun (q : 3 ≤ 2) => absurd q (by decide)) (fun _ => ?_)
  refine N.aloadN C (pc' := 11) d3_10 rfl rfl rfl ?_
  refine N.iloadN C (pc' := 12) d3_11 rfl rfl ?_
  refine N.iloadN C (pc' := 13) d3_12 rfl rfl ?_
  refine N.iastore C (pc' := 14) (i := 2) d3_13 A_p rfl (show 2 < 3 from by decide) g_p rfl (fun h13_3 W13 A_p => ?_)
  have Z0 : G.n0 ≤ _ := (Wr.size W13).symm ▸ Z0
  have K0 := K0.wr W13 (Or.inl (List.mem_of_getElem? (i := 0) rfl))
  have A_p : Av G.Z h13_3 p .int [(.int (-1 : Int32)), (.int (-1 : Int32)), (.int (-1 : Int32))] := A_p
  refine N.iinc C (pc' := 17) (z := 1) (ls' := #[.val (.ref p), .val (.int (-1 : Int32)), .val (.int (3 : Int32)), .val (.int (3 : Int32))]) d3_14 rfl rfl rfl rfl ?_
  refine N.goto C (pc' := 5) d3_17 rfl ?_
  refine N.iloadN C (pc' := 6) d3_5 rfl rfl ?_
  refine N.iloadN C (pc' := 7) d3_6 rfl rfl ?_
  refine N.icmp C (pt := 20) (pf := 10) d3_7 rfl rfl (fun _ => ?_) (fun (q : 3 < 3) => absurd q (by decide))
  exact N.ret0 C rfl d3_20 (by decide) (by decide) (by subst hQ; exact ⟨rfl, K0, A_p⟩)
set_option maxRecDepth 65536 in
set_option maxHeartbeats 40000000 in
theorem con_i1 (G : Gx) (hw : ∀ d ∈ tables_1, d.before G.a0 G.Z = true) (x e : Addr) (ds : List Value) (h : Heap) (D_e : own_dbl ds) (A_e : Av G.Z h e .double ds) (ne_e_x : e ≠ x) (Z0 : G.n0 ≤ h.size) (g_x : G.n0 ≤ x) (E_x : Exa G.Z h x "com/example/ravel/ravel/search/NodeHeap") (F_x_estimate : Fld G.Z h x "com/example/ravel/ravel/search/NodeHeap" "estimate" "[D" .null) (F_x_cost : Fld G.Z h x "com/example/ravel/ravel/search/NodeHeap" "cost" "[D" .null) (F_x_guided : Fld G.Z h x "com/example/ravel/ravel/search/NodeHeap" "guided" "Z" (.int (0 : Int32))) (F_x_heap : Fld G.Z h x "com/example/ravel/ravel/search/NodeHeap" "heap" "[I" .null) (F_x_place : Fld G.Z h x "com/example/ravel/ravel/search/NodeHeap" "place" "[I" .null) (F_x_given : Fld G.Z h x "com/example/ravel/ravel/search/NodeHeap" "given" "[J" .null) (F_x_offers : Fld G.Z h x "com/example/ravel/ravel/search/NodeHeap" "offers" "J" (.long (0 : Int64))) (F_x_size : Fld G.Z h x "com/example/ravel/ravel/search/NodeHeap" "size" "I" (.int (0 : Int32))) :
    Con G (⟨"com/example/ravel/ravel/search/NodeHeap", "<init>", "([D[D)V"⟩ : MethodName) prog_50_method_1_code 3 none rm1 #[(.ref x), (.ref e), (.ref e)] h (fun v h' => v = none ∧ G.n0 ≤ h'.size ∧ ∃ (a p g : Addr) (hs ps : List Int32), (∀ m : Nat, m < 3 → ps[m]? = some (-1)) ∧ Hq G h' x e e a p g 0 hs ps) := by
  refine Con.of (W := tables_1) (plainFor_of_name pn1) hw (fun mm => ef1 mm x e e) (fun K C => ?_)
  have C : Cx G K "com/example/ravel/ravel/search/NodeHeap" "<init>" prog_50_method_1_code 3 none tables_1 := C
  generalize hQ : (fun v h' => v = none ∧ G.n0 ≤ h'.size ∧ ∃ (a p g : Addr) (hs ps : List Int32), (∀ m : Nat, m < 3 → ps[m]? = some (-1)) ∧ Hq G h' x e e a p g 0 hs ps : Option Value → Heap → Prop) = Q
  have len_e : (3 : Int32).toInt = ((ds.length : Nat) : Int) := by rw [D_e.1]; decide
  have ne_x_e := Ne.symm ne_e_x
  refine N.aloadN C (pc' := 1) d1_0 rfl rfl rfl ?_
  refine N.initO C (pc' := 4) d1_1 (C.w (i := 8) rfl) (C.w (i := 9) rfl) (C.w (i := 10) rfl) rfl (by decide) (show 0 + 12 ≤ _ from by decide) rfl ?_
  refine N.aloadN C (pc' := 5) d1_4 rfl rfl rfl ?_
  refine N.aloadN C (pc' := 6) d1_5 rfl rfl rfl ?_
  refine N.putF C (pc' := 9) d1_6 (C.w (i := 11) rfl) F_x_estimate E_x (Or.inr ⟨(C.w (i := 12) rfl), rfl, rfl⟩) (C.w (i := 3) rfl) (ty := (.array .double)) (by decide) rfl rfl g_x rfl (fun h6_1 W6 => ?_)
  have Z0 : G.n0 ≤ _ := (Wr.size W6).symm ▸ Z0
  have F_x_estimate := F_x_estimate.same W6
  have F_x_cost := F_x_cost.other W6 (Or.inr (slot_ne (Or.inr (C.w (i := 14) rfl)) (Or.inr (C.w (i := 12) rfl)) (by decide) (t := (.array .double)) (t' := (.array .double)) (by decide) (by decide)))
  have F_x_guided := F_x_guided.other W6 (Or.inr (slot_ne (Or.inr (C.w (i := 16) rfl)) (Or.inr (C.w (i := 12) rfl)) (by decide) (t := .boolean) (t' := (.array .double)) (by decide) (by decide)))
  have F_x_heap := F_x_heap.other W6 (Or.inr (slot_ne (Or.inr (C.w (i := 19) rfl)) (Or.inr (C.w (i := 12) rfl)) (by decide) (t := (.array .int)) (t' := (.array .double)) (by decide) (by decide)))
  have F_x_place := F_x_place.other W6 (Or.inr (slot_ne (Or.inr (C.w (i := 21) rfl)) (Or.inr (C.w (i := 12) rfl)) (by decide) (t := (.array .int)) (t' := (.array .double)) (by decide) (by decide)))
  have F_x_given := F_x_given.other W6 (Or.inr (slot_ne (Or.inr (C.w (i := 28) rfl)) (Or.inr (C.w (i := 12) rfl)) (by decide) (t := (.array .long)) (t' := (.array .double)) (by decide) (by decide)))
  have F_x_offers := F_x_offers.other W6 (Or.inr (slot_ne (Or.inl (C.w (i := 42) rfl)) (Or.inr (C.w (i := 12) rfl)) (by decide) (t := .long) (t' := (.array .double)) (by decide) (by decide)))
  have F_x_size := F_x_size.other W6 (Or.inr (slot_ne (Or.inl (C.w (i := 35) rfl)) (Or.inr (C.w (i := 12) rfl)) (by decide) (t := .int) (t' := (.array .double)) (by decide) (by decide)))
  have E_x := E_x.wr W6
  have A_e := A_e.other W6 ne_e_x
  refine N.aloadN C (pc' := 10) d1_9 rfl rfl rfl ?_
  refine N.aloadN C (pc' := 11) d1_10 rfl rfl rfl ?_
  refine N.putF C (pc' := 14) d1_11 (C.w (i := 13) rfl) F_x_cost E_x (Or.inr ⟨(C.w (i := 14) rfl), rfl, rfl⟩) (C.w (i := 3) rfl) (ty := (.array .double)) (by decide) rfl rfl g_x rfl (fun h11_2 W11 => ?_)
  have Z0 : G.n0 ≤ _ := (Wr.size W11).symm ▸ Z0
  have F_x_estimate := F_x_estimate.other W11 (Or.inr (slot_ne (Or.inr (C.w (i := 12) rfl)) (Or.inr (C.w (i := 14) rfl)) (by decide) (t := (.array .double)) (t' := (.array .double)) (by decide) (by decide)))
  have F_x_cost := F_x_cost.same W11
  have F_x_guided := F_x_guided.other W11 (Or.inr (slot_ne (Or.inr (C.w (i := 16) rfl)) (Or.inr (C.w (i := 14) rfl)) (by decide) (t := .boolean) (t' := (.array .double)) (by decide) (by decide)))
  have F_x_heap := F_x_heap.other W11 (Or.inr (slot_ne (Or.inr (C.w (i := 19) rfl)) (Or.inr (C.w (i := 14) rfl)) (by decide) (t := (.array .int)) (t' := (.array .double)) (by decide) (by decide)))
  have F_x_place := F_x_place.other W11 (Or.inr (slot_ne (Or.inr (C.w (i := 21) rfl)) (Or.inr (C.w (i := 14) rfl)) (by decide) (t := (.array .int)) (t' := (.array .double)) (by decide) (by decide)))
  have F_x_given := F_x_given.other W11 (Or.inr (slot_ne (Or.inr (C.w (i := 28) rfl)) (Or.inr (C.w (i := 14) rfl)) (by decide) (t := (.array .long)) (t' := (.array .double)) (by decide) (by decide)))
  have F_x_offers := F_x_offers.other W11 (Or.inr (slot_ne (Or.inl (C.w (i := 42) rfl)) (Or.inr (C.w (i := 14) rfl)) (by decide) (t := .long) (t' := (.array .double)) (by decide) (by decide)))
  have F_x_size := F_x_size.other W11 (Or.inr (slot_ne (Or.inl (C.w (i := 35) rfl)) (Or.inr (C.w (i := 14) rfl)) (by decide) (t := .int) (t' := (.array .double)) (by decide) (by decide)))
  have E_x := E_x.wr W11
  have A_e := A_e.other W11 ne_e_x
  refine N.aloadN C (pc' := 15) d1_14 rfl rfl rfl ?_
  refine N.aloadN C (pc' := 16) d1_15 rfl rfl rfl ?_
  refine N.aloadN C (pc' := 17) d1_16 rfl rfl rfl ?_
  refine N.acmp C (pc' := 24) true d1_17 rfl rfl (decide_eq_true rfl) (by decide) (by decide) ?_
  refine N.iconst C (pc' := 25) (z := 0) d1_24 rfl rfl ?_
  refine N.putFN C (pc' := 28) (v' := (.int (0 : Int32))) d1_25 (C.w (i := 15) rfl) F_x_guided E_x (Or.inr ⟨(C.w (i := 16) rfl), rfl, rfl⟩) (C.w (i := 3) rfl) (ty := .boolean) (by decide) rfl (by decide) g_x rfl (fun h25_3 W25 => ?_)
  have Z0 : G.n0 ≤ _ := (Wr.size W25).symm ▸ Z0
  have F_x_estimate := F_x_estimate.other W25 (Or.inr (slot_ne (Or.inr (C.w (i := 12) rfl)) (Or.inr (C.w (i := 16) rfl)) (by decide) (t := (.array .double)) (t' := .boolean) (by decide) (by decide)))
  have F_x_cost := F_x_cost.other W25 (Or.inr (slot_ne (Or.inr (C.w (i := 14) rfl)) (Or.inr (C.w (i := 16) rfl)) (by decide) (t := (.array .double)) (t' := .boolean) (by decide) (by decide)))
  have F_x_guided := F_x_guided.same W25
  have F_x_heap := F_x_heap.other W25 (Or.inr (slot_ne (Or.inr (C.w (i := 19) rfl)) (Or.inr (C.w (i := 16) rfl)) (by decide) (t := (.array .int)) (t' := .boolean) (by decide) (by decide)))
  have F_x_place := F_x_place.other W25 (Or.inr (slot_ne (Or.inr (C.w (i := 21) rfl)) (Or.inr (C.w (i := 16) rfl)) (by decide) (t := (.array .int)) (t' := .boolean) (by decide) (by decide)))
  have F_x_given := F_x_given.other W25 (Or.inr (slot_ne (Or.inr (C.w (i := 28) rfl)) (Or.inr (C.w (i := 16) rfl)) (by decide) (t := (.array .long)) (t' := .boolean) (by decide) (by decide)))
  have F_x_offers := F_x_offers.other W25 (Or.inr (slot_ne (Or.inl (C.w (i := 42) rfl)) (Or.inr (C.w (i := 16) rfl)) (by decide) (t := .long) (t' := .boolean) (by decide) (by decide)))
  have F_x_size := F_x_size.other W25 (Or.inr (slot_ne (Or.inl (C.w (i := 35) rfl)) (Or.inr (C.w (i := 16) rfl)) (by decide) (t := .int) (t' := .boolean) (by decide) (by decide)))
  have E_x := E_x.wr W25
  have A_e := A_e.other W25 ne_e_x
  refine N.aloadN C (pc' := 29) d1_28 rfl rfl rfl ?_
  refine N.aloadN C (pc' := 30) d1_29 rfl rfl rfl ?_
  refine N.alen C (pc' := 31) (n := (3 : Int32)) d1_30 A_e len_e rfl ?_
  refine N.newP C (pc' := 33) (n := (3 : Int32)) 3 d1_31 (C.w (i := 17) rfl) (by decide) (by decide) (by decide) (by decide) (by decide) rfl (fun h31_4 a hx_a Ex31 A'_a => ?_)
  have ne_x_a : x ≠ a := by rw [hx_a]; exact Nat.ne_of_lt F_x_estimate.lt
  have ne_a_x := Ne.symm ne_x_a
  have ne_e_a : e ≠ a := by rw [hx_a]; exact Nat.ne_of_lt A_e.lt
  have ne_a_e := Ne.symm ne_e_a
  have g_a : G.n0 ≤ a := by rw [hx_a]; exact Z0
  have Z0 := Nat.le_trans Z0 Ex31.1
  have F_x_estimate := F_x_estimate.ext Ex31
  have F_x_cost := F_x_cost.ext Ex31
  have F_x_guided := F_x_guided.ext Ex31
  have F_x_heap := F_x_heap.ext Ex31
  have F_x_place := F_x_place.ext Ex31
  have F_x_given := F_x_given.ext Ex31
  have F_x_offers := F_x_offers.ext Ex31
  have F_x_size := F_x_size.ext Ex31
  have E_x := E_x.ext Ex31
  have A_e := A_e.ext Ex31
  have A_a : Av G.Z h31_4 a .int [(.int (0 : Int32)), (.int (0 : Int32)), (.int (0 : Int32))] := A'_a
  refine N.putF C (pc' := 36) d1_33 (C.w (i := 18) rfl) F_x_heap E_x (Or.inr ⟨(C.w (i := 19) rfl), rfl, rfl⟩) (C.w (i := 3) rfl) (ty := (.array .int)) (by decide) rfl rfl g_x rfl (fun h33_5 W33 => ?_)
  have Z0 : G.n0 ≤ _ := (Wr.size W33).symm ▸ Z0
  have F_x_estimate := F_x_estimate.other W33 (Or.inr (slot_ne (Or.inr (C.w (i := 12) rfl)) (Or.inr (C.w (i := 19) rfl)) (by decide) (t := (.array .double)) (t' := (.array .int)) (by decide) (by decide)))
  have F_x_cost := F_x_cost.other W33 (Or.inr (slot_ne (Or.inr (C.w (i := 14) rfl)) (Or.inr (C.w (i := 19) rfl)) (by decide) (t := (.array .double)) (t' := (.array .int)) (by decide) (by decide)))
  have F_x_guided := F_x_guided.other W33 (Or.inr (slot_ne (Or.inr (C.w (i := 16) rfl)) (Or.inr (C.w (i := 19) rfl)) (by decide) (t := .boolean) (t' := (.array .int)) (by decide) (by decide)))
  have F_x_heap := F_x_heap.same W33
  have F_x_place := F_x_place.other W33 (Or.inr (slot_ne (Or.inr (C.w (i := 21) rfl)) (Or.inr (C.w (i := 19) rfl)) (by decide) (t := (.array .int)) (t' := (.array .int)) (by decide) (by decide)))
  have F_x_given := F_x_given.other W33 (Or.inr (slot_ne (Or.inr (C.w (i := 28) rfl)) (Or.inr (C.w (i := 19) rfl)) (by decide) (t := (.array .long)) (t' := (.array .int)) (by decide) (by decide)))
  have F_x_offers := F_x_offers.other W33 (Or.inr (slot_ne (Or.inl (C.w (i := 42) rfl)) (Or.inr (C.w (i := 19) rfl)) (by decide) (t := .long) (t' := (.array .int)) (by decide) (by decide)))
  have F_x_size := F_x_size.other W33 (Or.inr (slot_ne (Or.inl (C.w (i := 35) rfl)) (Or.inr (C.w (i := 19) rfl)) (by decide) (t := .int) (t' := (.array .int)) (by decide) (by decide)))
  have E_x := E_x.wr W33
  have A_e := A_e.other W33 ne_e_x
  have A_a := A_a.other W33 ne_a_x
  refine N.aloadN C (pc' := 37) d1_36 rfl rfl rfl ?_
  refine N.aloadN C (pc' := 38) d1_37 rfl rfl rfl ?_
  refine N.alen C (pc' := 39) (n := (3 : Int32)) d1_38 A_e len_e rfl ?_
  refine N.newP C (pc' := 41) (n := (3 : Int32)) 3 d1_39 (C.w (i := 17) rfl) (by decide) (by decide) (by decide) (by decide) (by decide) rfl (fun h39_6 p hx_p Ex39 A'_p => ?_)
  have ne_x_p : x ≠ p := by rw [hx_p]; exact Nat.ne_of_lt F_x_estimate.lt
  have ne_p_x := Ne.symm ne_x_p
  have ne_e_p : e ≠ p := by rw [hx_p]; exact Nat.ne_of_lt A_e.lt
  have ne_p_e := Ne.symm ne_e_p
  have ne_a_p : a ≠ p := by rw [hx_p]; exact Nat.ne_of_lt A_a.lt
  have ne_p_a := Ne.symm ne_a_p
  have g_p : G.n0 ≤ p := by rw [hx_p]; exact Z0
  have Z0 := Nat.le_trans Z0 Ex39.1
  have F_x_estimate := F_x_estimate.ext Ex39
  have F_x_cost := F_x_cost.ext Ex39
  have F_x_guided := F_x_guided.ext Ex39
  have F_x_heap := F_x_heap.ext Ex39
  have F_x_place := F_x_place.ext Ex39
  have F_x_given := F_x_given.ext Ex39
  have F_x_offers := F_x_offers.ext Ex39
  have F_x_size := F_x_size.ext Ex39
  have E_x := E_x.ext Ex39
  have A_e := A_e.ext Ex39
  have A_a := A_a.ext Ex39
  have A_p : Av G.Z h39_6 p .int [(.int (0 : Int32)), (.int (0 : Int32)), (.int (0 : Int32))] := A'_p
  refine N.putF C (pc' := 44) d1_41 (C.w (i := 20) rfl) F_x_place E_x (Or.inr ⟨(C.w (i := 21) rfl), rfl, rfl⟩) (C.w (i := 3) rfl) (ty := (.array .int)) (by decide) rfl rfl g_x rfl (fun h41_7 W41 => ?_)
  have Z0 : G.n0 ≤ _ := (Wr.size W41).symm ▸ Z0
  have F_x_estimate := F_x_estimate.other W41 (Or.inr (slot_ne (Or.inr (C.w (i := 12) rfl)) (Or.inr (C.w (i := 21) rfl)) (by decide) (t := (.array .double)) (t' := (.array .int)) (by decide) (by decide)))
  have F_x_cost := F_x_cost.other W41 (Or.inr (slot_ne (Or.inr (C.w (i := 14) rfl)) (Or.inr (C.w (i := 21) rfl)) (by decide) (t := (.array .double)) (t' := (.array .int)) (by decide) (by decide)))
  have F_x_guided := F_x_guided.other W41 (Or.inr (slot_ne (Or.inr (C.w (i := 16) rfl)) (Or.inr (C.w (i := 21) rfl)) (by decide) (t := .boolean) (t' := (.array .int)) (by decide) (by decide)))
  have F_x_heap := F_x_heap.other W41 (Or.inr (slot_ne (Or.inr (C.w (i := 19) rfl)) (Or.inr (C.w (i := 21) rfl)) (by decide) (t := (.array .int)) (t' := (.array .int)) (by decide) (by decide)))
  have F_x_place := F_x_place.same W41
  have F_x_given := F_x_given.other W41 (Or.inr (slot_ne (Or.inr (C.w (i := 28) rfl)) (Or.inr (C.w (i := 21) rfl)) (by decide) (t := (.array .long)) (t' := (.array .int)) (by decide) (by decide)))
  have F_x_offers := F_x_offers.other W41 (Or.inr (slot_ne (Or.inl (C.w (i := 42) rfl)) (Or.inr (C.w (i := 21) rfl)) (by decide) (t := .long) (t' := (.array .int)) (by decide) (by decide)))
  have F_x_size := F_x_size.other W41 (Or.inr (slot_ne (Or.inl (C.w (i := 35) rfl)) (Or.inr (C.w (i := 21) rfl)) (by decide) (t := .int) (t' := (.array .int)) (by decide) (by decide)))
  have E_x := E_x.wr W41
  have A_e := A_e.other W41 ne_e_x
  have A_a := A_a.other W41 ne_a_x
  have A_p := A_p.other W41 ne_p_x
  refine N.aloadN C (pc' := 45) d1_44 rfl rfl rfl ?_
  refine N.getF C (pc' := 48) d1_45 (C.w (i := 20) rfl) F_x_place rfl ?_
  refine N.iconst C (pc' := 49) (z := -1) d1_48 rfl rfl ?_
  refine N.callS C (pc' := 52) [(.ref p), (.int (-1 : Int32))] d1_49 (C.w (i := 22) rfl) (C.w (i := 23) rfl) (C.w (i := 24) rfl) (C.w (i := 25) rfl) (by decide) (con3 G hw p h41_7 Z0 g_p A_p) (lenOf pd___II_V rfl) rfl (by decide) (show 0 + (4 + 11) + _ ≤ _ from by decide) (by decide) (by decide) (rest := []) rfl rfl ?_
  rintro _ h49_8 ⟨rfl, KpF, A_pF⟩
  have Z0 := Nat.le_trans Z0 KpF.1
  have F_x_estimate := F_x_estimate.keep KpF (ninS ne_x_p nin0)
  have F_x_cost := F_x_cost.keep KpF (ninS ne_x_p nin0)
  have F_x_guided := F_x_guided.keep KpF (ninS ne_x_p nin0)
  have F_x_heap := F_x_heap.keep KpF (ninS ne_x_p nin0)
  have F_x_place := F_x_place.keep KpF (ninS ne_x_p nin0)
  have F_x_given := F_x_given.keep KpF (ninS ne_x_p nin0)
  have F_x_offers := F_x_offers.keep KpF (ninS ne_x_p nin0)
  have F_x_size := F_x_size.keep KpF (ninS ne_x_p nin0)
  have E_x := E_x.keep KpF
  have A_e := A_e.keep KpF (ninS ne_e_p nin0)
  have A_a := A_a.keep KpF (ninS ne_a_p nin0)
  have A_p := A_pF
  show N G K rm1 Q h49_8 ((0 + 1) + 1) ((0 + 3) + 3) 52 #[.val (.ref x), .val (.ref e), .val (.ref e)] []
  refine N.aloadN C (pc' := 53) d1_52 rfl rfl rfl ?_
  refine N.aloadN C (pc' := 54) d1_53 rfl rfl rfl ?_
  refine N.alen C (pc' := 55) (n := (3 : Int32)) d1_54 A_e len_e rfl ?_
  refine N.newP C (pc' := 57) (n := (3 : Int32)) 3 d1_55 (C.w (i := 26) rfl) (by decide) (by decide) (by decide) (by decide) (by decide) rfl (fun h55_9 g hx_g Ex55 A'_g => ?_)
  have ne_x_g : x ≠ g := by rw [hx_g]; exact Nat.ne_of_lt F_x_estimate.lt
  have ne_g_x := Ne.symm ne_x_g
  have ne_e_g : e ≠ g := by rw [hx_g]; exact Nat.ne_of_lt A_e.lt
  have ne_g_e := Ne.symm ne_e_g
  have ne_a_g : a ≠ g := by rw [hx_g]; exact Nat.ne_of_lt A_a.lt
  have ne_g_a := Ne.symm ne_a_g
  have ne_p_g : p ≠ g := by rw [hx_g]; exact Nat.ne_of_lt A_p.lt
  have ne_g_p := Ne.symm ne_p_g
  have g_g : G.n0 ≤ g := by rw [hx_g]; exact Z0
  have Z0 := Nat.le_trans Z0 Ex55.1
  have F_x_estimate := F_x_estimate.ext Ex55
  have F_x_cost := F_x_cost.ext Ex55
  have F_x_guided := F_x_guided.ext Ex55
  have F_x_heap := F_x_heap.ext Ex55
  have F_x_place := F_x_place.ext Ex55
  have F_x_given := F_x_given.ext Ex55
  have F_x_offers := F_x_offers.ext Ex55
  have F_x_size := F_x_size.ext Ex55
  have E_x := E_x.ext Ex55
  have A_e := A_e.ext Ex55
  have A_a := A_a.ext Ex55
  have A_p := A_p.ext Ex55
  have A_g : Av G.Z h55_9 g .long [(.long (0 : Int64)), (.long (0 : Int64)), (.long (0 : Int64))] := A'_g
  refine N.putF C (pc' := 60) d1_57 (C.w (i := 27) rfl) F_x_given E_x (Or.inr ⟨(C.w (i := 28) rfl), rfl, rfl⟩) (C.w (i := 3) rfl) (ty := (.array .long)) (by decide) rfl rfl g_x rfl (fun h57_10 W57 => ?_)
  have Z0 : G.n0 ≤ _ := (Wr.size W57).symm ▸ Z0
  have F_x_estimate := F_x_estimate.other W57 (Or.inr (slot_ne (Or.inr (C.w (i := 12) rfl)) (Or.inr (C.w (i := 28) rfl)) (by decide) (t := (.array .double)) (t' := (.array .long)) (by decide) (by decide)))
  have F_x_cost := F_x_cost.other W57 (Or.inr (slot_ne (Or.inr (C.w (i := 14) rfl)) (Or.inr (C.w (i := 28) rfl)) (by decide) (t := (.array .double)) (t' := (.array .long)) (by decide) (by decide)))
  have F_x_guided := F_x_guided.other W57 (Or.inr (slot_ne (Or.inr (C.w (i := 16) rfl)) (Or.inr (C.w (i := 28) rfl)) (by decide) (t := .boolean) (t' := (.array .long)) (by decide) (by decide)))
  have F_x_heap := F_x_heap.other W57 (Or.inr (slot_ne (Or.inr (C.w (i := 19) rfl)) (Or.inr (C.w (i := 28) rfl)) (by decide) (t := (.array .int)) (t' := (.array .long)) (by decide) (by decide)))
  have F_x_place := F_x_place.other W57 (Or.inr (slot_ne (Or.inr (C.w (i := 21) rfl)) (Or.inr (C.w (i := 28) rfl)) (by decide) (t := (.array .int)) (t' := (.array .long)) (by decide) (by decide)))
  have F_x_given := F_x_given.same W57
  have F_x_offers := F_x_offers.other W57 (Or.inr (slot_ne (Or.inl (C.w (i := 42) rfl)) (Or.inr (C.w (i := 28) rfl)) (by decide) (t := .long) (t' := (.array .long)) (by decide) (by decide)))
  have F_x_size := F_x_size.other W57 (Or.inr (slot_ne (Or.inl (C.w (i := 35) rfl)) (Or.inr (C.w (i := 28) rfl)) (by decide) (t := .int) (t' := (.array .long)) (by decide) (by decide)))
  have E_x := E_x.wr W57
  have A_e := A_e.other W57 ne_e_x
  have A_a := A_a.other W57 ne_a_x
  have A_p := A_p.other W57 ne_p_x
  have A_g := A_g.other W57 ne_g_x
  exact N.ret0 C rfl d1_60 (by decide) (by decide) (by subst hQ; exact ⟨rfl, Z0, a, p, g, [0, 0, 0], [-1, -1, -1], own_m1, ⟨0, 0, ds, ds, _, ne_x_a, ne_x_p, ne_x_g, ne_a_p, ne_a_g, ne_p_g, ne_e_x, ne_e_a, ne_e_p, ne_e_g, ne_e_x, ne_e_a, ne_e_p, ne_e_g, g_x, g_a, g_p, g_g, E_x, F_x_estimate, F_x_cost, F_x_guided, F_x_heap, F_x_place, F_x_given, F_x_offers, F_x_size, A_e, D_e, A_e, D_e, A_a, own_r0, A_p, rfl, A_g, own_g0⟩⟩)
set_option maxRecDepth 65536 in
set_option maxHeartbeats 40000000 in
theorem con_i2 (G : Gx) (hw : ∀ d ∈ tables_1, d.before G.a0 G.Z = true) (x e c : Addr) (ds cs : List Value) (h : Heap) (D_e : own_dbl ds) (A_e : Av G.Z h e .double ds) (ne_e_x : e ≠ x) (D_c : own_dbl cs) (A_c : Av G.Z h c .double cs) (ne_c_x : c ≠ x) (ne_e_c : e ≠ c) (Z0 : G.n0 ≤ h.size) (g_x : G.n0 ≤ x) (E_x : Exa G.Z h x "com/example/ravel/ravel/search/NodeHeap") (F_x_estimate : Fld G.Z h x "com/example/ravel/ravel/search/NodeHeap" "estimate" "[D" .null) (F_x_cost : Fld G.Z h x "com/example/ravel/ravel/search/NodeHeap" "cost" "[D" .null) (F_x_guided : Fld G.Z h x "com/example/ravel/ravel/search/NodeHeap" "guided" "Z" (.int (0 : Int32))) (F_x_heap : Fld G.Z h x "com/example/ravel/ravel/search/NodeHeap" "heap" "[I" .null) (F_x_place : Fld G.Z h x "com/example/ravel/ravel/search/NodeHeap" "place" "[I" .null) (F_x_given : Fld G.Z h x "com/example/ravel/ravel/search/NodeHeap" "given" "[J" .null) (F_x_offers : Fld G.Z h x "com/example/ravel/ravel/search/NodeHeap" "offers" "J" (.long (0 : Int64))) (F_x_size : Fld G.Z h x "com/example/ravel/ravel/search/NodeHeap" "size" "I" (.int (0 : Int32))) :
    Con G (⟨"com/example/ravel/ravel/search/NodeHeap", "<init>", "([D[D)V"⟩ : MethodName) prog_50_method_1_code 3 none rm1 #[(.ref x), (.ref e), (.ref c)] h (fun v h' => v = none ∧ G.n0 ≤ h'.size ∧ ∃ (a p g : Addr) (hs ps : List Int32), (∀ m : Nat, m < 3 → ps[m]? = some (-1)) ∧ Hq G h' x e c a p g 0 hs ps) := by
  refine Con.of (W := tables_1) (plainFor_of_name pn1) hw (fun mm => ef1 mm x e c) (fun K C => ?_)
  have C : Cx G K "com/example/ravel/ravel/search/NodeHeap" "<init>" prog_50_method_1_code 3 none tables_1 := C
  generalize hQ : (fun v h' => v = none ∧ G.n0 ≤ h'.size ∧ ∃ (a p g : Addr) (hs ps : List Int32), (∀ m : Nat, m < 3 → ps[m]? = some (-1)) ∧ Hq G h' x e c a p g 0 hs ps : Option Value → Heap → Prop) = Q
  have len_e : (3 : Int32).toInt = ((ds.length : Nat) : Int) := by rw [D_e.1]; decide
  have len_c : (3 : Int32).toInt = ((cs.length : Nat) : Int) := by rw [D_c.1]; decide
  have ne_x_e := Ne.symm ne_e_x
  have ne_x_c := Ne.symm ne_c_x
  refine N.aloadN C (pc' := 1) d1_0 rfl rfl rfl ?_
  refine N.initO C (pc' := 4) d1_1 (C.w (i := 8) rfl) (C.w (i := 9) rfl) (C.w (i := 10) rfl) rfl (by decide) (show 0 + 12 ≤ _ from by decide) rfl ?_
  refine N.aloadN C (pc' := 5) d1_4 rfl rfl rfl ?_
  refine N.aloadN C (pc' := 6) d1_5 rfl rfl rfl ?_
  refine N.putF C (pc' := 9) d1_6 (C.w (i := 11) rfl) F_x_estimate E_x (Or.inr ⟨(C.w (i := 12) rfl), rfl, rfl⟩) (C.w (i := 3) rfl) (ty := (.array .double)) (by decide) rfl rfl g_x rfl (fun h6_1 W6 => ?_)
  have Z0 : G.n0 ≤ _ := (Wr.size W6).symm ▸ Z0
  have F_x_estimate := F_x_estimate.same W6
  have F_x_cost := F_x_cost.other W6 (Or.inr (slot_ne (Or.inr (C.w (i := 14) rfl)) (Or.inr (C.w (i := 12) rfl)) (by decide) (t := (.array .double)) (t' := (.array .double)) (by decide) (by decide)))
  have F_x_guided := F_x_guided.other W6 (Or.inr (slot_ne (Or.inr (C.w (i := 16) rfl)) (Or.inr (C.w (i := 12) rfl)) (by decide) (t := .boolean) (t' := (.array .double)) (by decide) (by decide)))
  have F_x_heap := F_x_heap.other W6 (Or.inr (slot_ne (Or.inr (C.w (i := 19) rfl)) (Or.inr (C.w (i := 12) rfl)) (by decide) (t := (.array .int)) (t' := (.array .double)) (by decide) (by decide)))
  have F_x_place := F_x_place.other W6 (Or.inr (slot_ne (Or.inr (C.w (i := 21) rfl)) (Or.inr (C.w (i := 12) rfl)) (by decide) (t := (.array .int)) (t' := (.array .double)) (by decide) (by decide)))
  have F_x_given := F_x_given.other W6 (Or.inr (slot_ne (Or.inr (C.w (i := 28) rfl)) (Or.inr (C.w (i := 12) rfl)) (by decide) (t := (.array .long)) (t' := (.array .double)) (by decide) (by decide)))
  have F_x_offers := F_x_offers.other W6 (Or.inr (slot_ne (Or.inl (C.w (i := 42) rfl)) (Or.inr (C.w (i := 12) rfl)) (by decide) (t := .long) (t' := (.array .double)) (by decide) (by decide)))
  have F_x_size := F_x_size.other W6 (Or.inr (slot_ne (Or.inl (C.w (i := 35) rfl)) (Or.inr (C.w (i := 12) rfl)) (by decide) (t := .int) (t' := (.array .double)) (by decide) (by decide)))
  have E_x := E_x.wr W6
  have A_e := A_e.other W6 ne_e_x
  have A_c := A_c.other W6 ne_c_x
  refine N.aloadN C (pc' := 10) d1_9 rfl rfl rfl ?_
  refine N.aloadN C (pc' := 11) d1_10 rfl rfl rfl ?_
  refine N.putF C (pc' := 14) d1_11 (C.w (i := 13) rfl) F_x_cost E_x (Or.inr ⟨(C.w (i := 14) rfl), rfl, rfl⟩) (C.w (i := 3) rfl) (ty := (.array .double)) (by decide) rfl rfl g_x rfl (fun h11_2 W11 => ?_)
  have Z0 : G.n0 ≤ _ := (Wr.size W11).symm ▸ Z0
  have F_x_estimate := F_x_estimate.other W11 (Or.inr (slot_ne (Or.inr (C.w (i := 12) rfl)) (Or.inr (C.w (i := 14) rfl)) (by decide) (t := (.array .double)) (t' := (.array .double)) (by decide) (by decide)))
  have F_x_cost := F_x_cost.same W11
  have F_x_guided := F_x_guided.other W11 (Or.inr (slot_ne (Or.inr (C.w (i := 16) rfl)) (Or.inr (C.w (i := 14) rfl)) (by decide) (t := .boolean) (t' := (.array .double)) (by decide) (by decide)))
  have F_x_heap := F_x_heap.other W11 (Or.inr (slot_ne (Or.inr (C.w (i := 19) rfl)) (Or.inr (C.w (i := 14) rfl)) (by decide) (t := (.array .int)) (t' := (.array .double)) (by decide) (by decide)))
  have F_x_place := F_x_place.other W11 (Or.inr (slot_ne (Or.inr (C.w (i := 21) rfl)) (Or.inr (C.w (i := 14) rfl)) (by decide) (t := (.array .int)) (t' := (.array .double)) (by decide) (by decide)))
  have F_x_given := F_x_given.other W11 (Or.inr (slot_ne (Or.inr (C.w (i := 28) rfl)) (Or.inr (C.w (i := 14) rfl)) (by decide) (t := (.array .long)) (t' := (.array .double)) (by decide) (by decide)))
  have F_x_offers := F_x_offers.other W11 (Or.inr (slot_ne (Or.inl (C.w (i := 42) rfl)) (Or.inr (C.w (i := 14) rfl)) (by decide) (t := .long) (t' := (.array .double)) (by decide) (by decide)))
  have F_x_size := F_x_size.other W11 (Or.inr (slot_ne (Or.inl (C.w (i := 35) rfl)) (Or.inr (C.w (i := 14) rfl)) (by decide) (t := .int) (t' := (.array .double)) (by decide) (by decide)))
  have E_x := E_x.wr W11
  have A_e := A_e.other W11 ne_e_x
  have A_c := A_c.other W11 ne_c_x
  refine N.aloadN C (pc' := 15) d1_14 rfl rfl rfl ?_
  refine N.aloadN C (pc' := 16) d1_15 rfl rfl rfl ?_
  refine N.aloadN C (pc' := 17) d1_16 rfl rfl rfl ?_
  refine N.acmp C (pc' := 20) false d1_17 rfl rfl (decide_eq_false fun q => ne_e_c (Value.ref.inj q)) (by decide) (by decide) ?_
  refine N.iconst C (pc' := 21) (z := 1) d1_20 rfl rfl ?_
  refine N.goto C (pc' := 25) d1_21 rfl ?_
  refine N.putFN C (pc' := 28) (v' := (.int (1 : Int32))) d1_25 (C.w (i := 15) rfl) F_x_guided E_x (Or.inr ⟨(C.w (i := 16) rfl), rfl, rfl⟩) (C.w (i := 3) rfl) (ty := .boolean) (by decide) rfl (by decide) g_x rfl (fun h25_3 W25 => ?_)
  have Z0 : G.n0 ≤ _ := (Wr.size W25).symm ▸ Z0
  have F_x_estimate := F_x_estimate.other W25 (Or.inr (slot_ne (Or.inr (C.w (i := 12) rfl)) (Or.inr (C.w (i := 16) rfl)) (by decide) (t := (.array .double)) (t' := .boolean) (by decide) (by decide)))
  have F_x_cost := F_x_cost.other W25 (Or.inr (slot_ne (Or.inr (C.w (i := 14) rfl)) (Or.inr (C.w (i := 16) rfl)) (by decide) (t := (.array .double)) (t' := .boolean) (by decide) (by decide)))
  have F_x_guided := F_x_guided.same W25
  have F_x_heap := F_x_heap.other W25 (Or.inr (slot_ne (Or.inr (C.w (i := 19) rfl)) (Or.inr (C.w (i := 16) rfl)) (by decide) (t := (.array .int)) (t' := .boolean) (by decide) (by decide)))
  have F_x_place := F_x_place.other W25 (Or.inr (slot_ne (Or.inr (C.w (i := 21) rfl)) (Or.inr (C.w (i := 16) rfl)) (by decide) (t := (.array .int)) (t' := .boolean) (by decide) (by decide)))
  have F_x_given := F_x_given.other W25 (Or.inr (slot_ne (Or.inr (C.w (i := 28) rfl)) (Or.inr (C.w (i := 16) rfl)) (by decide) (t := (.array .long)) (t' := .boolean) (by decide) (by decide)))
  have F_x_offers := F_x_offers.other W25 (Or.inr (slot_ne (Or.inl (C.w (i := 42) rfl)) (Or.inr (C.w (i := 16) rfl)) (by decide) (t := .long) (t' := .boolean) (by decide) (by decide)))
  have F_x_size := F_x_size.other W25 (Or.inr (slot_ne (Or.inl (C.w (i := 35) rfl)) (Or.inr (C.w (i := 16) rfl)) (by decide) (t := .int) (t' := .boolean) (by decide) (by decide)))
  have E_x := E_x.wr W25
  have A_e := A_e.other W25 ne_e_x
  have A_c := A_c.other W25 ne_c_x
  refine N.aloadN C (pc' := 29) d1_28 rfl rfl rfl ?_
  refine N.aloadN C (pc' := 30) d1_29 rfl rfl rfl ?_
  refine N.alen C (pc' := 31) (n := (3 : Int32)) d1_30 A_c len_c rfl ?_
  refine N.newP C (pc' := 33) (n := (3 : Int32)) 3 d1_31 (C.w (i := 17) rfl) (by decide) (by decide) (by decide) (by decide) (by decide) rfl (fun h31_4 a hx_a Ex31 A'_a => ?_)
  have ne_x_a : x ≠ a := by rw [hx_a]; exact Nat.ne_of_lt F_x_estimate.lt
  have ne_a_x := Ne.symm ne_x_a
  have ne_e_a : e ≠ a := by rw [hx_a]; exact Nat.ne_of_lt A_e.lt
  have ne_a_e := Ne.symm ne_e_a
  have ne_c_a : c ≠ a := by rw [hx_a]; exact Nat.ne_of_lt A_c.lt
  have ne_a_c := Ne.symm ne_c_a
  have g_a : G.n0 ≤ a := by rw [hx_a]; exact Z0
  have Z0 := Nat.le_trans Z0 Ex31.1
  have F_x_estimate := F_x_estimate.ext Ex31
  have F_x_cost := F_x_cost.ext Ex31
  have F_x_guided := F_x_guided.ext Ex31
  have F_x_heap := F_x_heap.ext Ex31
  have F_x_place := F_x_place.ext Ex31
  have F_x_given := F_x_given.ext Ex31
  have F_x_offers := F_x_offers.ext Ex31
  have F_x_size := F_x_size.ext Ex31
  have E_x := E_x.ext Ex31
  have A_e := A_e.ext Ex31
  have A_c := A_c.ext Ex31
  have A_a : Av G.Z h31_4 a .int [(.int (0 : Int32)), (.int (0 : Int32)), (.int (0 : Int32))] := A'_a
  refine N.putF C (pc' := 36) d1_33 (C.w (i := 18) rfl) F_x_heap E_x (Or.inr ⟨(C.w (i := 19) rfl), rfl, rfl⟩) (C.w (i := 3) rfl) (ty := (.array .int)) (by decide) rfl rfl g_x rfl (fun h33_5 W33 => ?_)
  have Z0 : G.n0 ≤ _ := (Wr.size W33).symm ▸ Z0
  have F_x_estimate := F_x_estimate.other W33 (Or.inr (slot_ne (Or.inr (C.w (i := 12) rfl)) (Or.inr (C.w (i := 19) rfl)) (by decide) (t := (.array .double)) (t' := (.array .int)) (by decide) (by decide)))
  have F_x_cost := F_x_cost.other W33 (Or.inr (slot_ne (Or.inr (C.w (i := 14) rfl)) (Or.inr (C.w (i := 19) rfl)) (by decide) (t := (.array .double)) (t' := (.array .int)) (by decide) (by decide)))
  have F_x_guided := F_x_guided.other W33 (Or.inr (slot_ne (Or.inr (C.w (i := 16) rfl)) (Or.inr (C.w (i := 19) rfl)) (by decide) (t := .boolean) (t' := (.array .int)) (by decide) (by decide)))
  have F_x_heap := F_x_heap.same W33
  have F_x_place := F_x_place.other W33 (Or.inr (slot_ne (Or.inr (C.w (i := 21) rfl)) (Or.inr (C.w (i := 19) rfl)) (by decide) (t := (.array .int)) (t' := (.array .int)) (by decide) (by decide)))
  have F_x_given := F_x_given.other W33 (Or.inr (slot_ne (Or.inr (C.w (i := 28) rfl)) (Or.inr (C.w (i := 19) rfl)) (by decide) (t := (.array .long)) (t' := (.array .int)) (by decide) (by decide)))
  have F_x_offers := F_x_offers.other W33 (Or.inr (slot_ne (Or.inl (C.w (i := 42) rfl)) (Or.inr (C.w (i := 19) rfl)) (by decide) (t := .long) (t' := (.array .int)) (by decide) (by decide)))
  have F_x_size := F_x_size.other W33 (Or.inr (slot_ne (Or.inl (C.w (i := 35) rfl)) (Or.inr (C.w (i := 19) rfl)) (by decide) (t := .int) (t' := (.array .int)) (by decide) (by decide)))
  have E_x := E_x.wr W33
  have A_e := A_e.other W33 ne_e_x
  have A_c := A_c.other W33 ne_c_x
  have A_a := A_a.other W33 ne_a_x
  refine N.aloadN C (pc' := 37) d1_36 rfl rfl rfl ?_
  refine N.aloadN C (pc' := 38) d1_37 rfl rfl rfl ?_
  refine N.alen C (pc' := 39) (n := (3 : Int32)) d1_38 A_c len_c rfl ?_
  refine N.newP C (pc' := 41) (n := (3 : Int32)) 3 d1_39 (C.w (i := 17) rfl) (by decide) (by decide) (by decide) (by decide) (by decide) rfl (fun h39_6 p hx_p Ex39 A'_p => ?_)
  have ne_x_p : x ≠ p := by rw [hx_p]; exact Nat.ne_of_lt F_x_estimate.lt
  have ne_p_x := Ne.symm ne_x_p
  have ne_e_p : e ≠ p := by rw [hx_p]; exact Nat.ne_of_lt A_e.lt
  have ne_p_e := Ne.symm ne_e_p
  have ne_c_p : c ≠ p := by rw [hx_p]; exact Nat.ne_of_lt A_c.lt
  have ne_p_c := Ne.symm ne_c_p
  have ne_a_p : a ≠ p := by rw [hx_p]; exact Nat.ne_of_lt A_a.lt
  have ne_p_a := Ne.symm ne_a_p
  have g_p : G.n0 ≤ p := by rw [hx_p]; exact Z0
  have Z0 := Nat.le_trans Z0 Ex39.1
  have F_x_estimate := F_x_estimate.ext Ex39
  have F_x_cost := F_x_cost.ext Ex39
  have F_x_guided := F_x_guided.ext Ex39
  have F_x_heap := F_x_heap.ext Ex39
  have F_x_place := F_x_place.ext Ex39
  have F_x_given := F_x_given.ext Ex39
  have F_x_offers := F_x_offers.ext Ex39
  have F_x_size := F_x_size.ext Ex39
  have E_x := E_x.ext Ex39
  have A_e := A_e.ext Ex39
  have A_c := A_c.ext Ex39
  have A_a := A_a.ext Ex39
  have A_p : Av G.Z h39_6 p .int [(.int (0 : Int32)), (.int (0 : Int32)), (.int (0 : Int32))] := A'_p
  refine N.putF C (pc' := 44) d1_41 (C.w (i := 20) rfl) F_x_place E_x (Or.inr ⟨(C.w (i := 21) rfl), rfl, rfl⟩) (C.w (i := 3) rfl) (ty := (.array .int)) (by decide) rfl rfl g_x rfl (fun h41_7 W41 => ?_)
  have Z0 : G.n0 ≤ _ := (Wr.size W41).symm ▸ Z0
  have F_x_estimate := F_x_estimate.other W41 (Or.inr (slot_ne (Or.inr (C.w (i := 12) rfl)) (Or.inr (C.w (i := 21) rfl)) (by decide) (t := (.array .double)) (t' := (.array .int)) (by decide) (by decide)))
  have F_x_cost := F_x_cost.other W41 (Or.inr (slot_ne (Or.inr (C.w (i := 14) rfl)) (Or.inr (C.w (i := 21) rfl)) (by decide) (t := (.array .double)) (t' := (.array .int)) (by decide) (by decide)))
  have F_x_guided := F_x_guided.other W41 (Or.inr (slot_ne (Or.inr (C.w (i := 16) rfl)) (Or.inr (C.w (i := 21) rfl)) (by decide) (t := .boolean) (t' := (.array .int)) (by decide) (by decide)))
  have F_x_heap := F_x_heap.other W41 (Or.inr (slot_ne (Or.inr (C.w (i := 19) rfl)) (Or.inr (C.w (i := 21) rfl)) (by decide) (t := (.array .int)) (t' := (.array .int)) (by decide) (by decide)))
  have F_x_place := F_x_place.same W41
  have F_x_given := F_x_given.other W41 (Or.inr (slot_ne (Or.inr (C.w (i := 28) rfl)) (Or.inr (C.w (i := 21) rfl)) (by decide) (t := (.array .long)) (t' := (.array .int)) (by decide) (by decide)))
  have F_x_offers := F_x_offers.other W41 (Or.inr (slot_ne (Or.inl (C.w (i := 42) rfl)) (Or.inr (C.w (i := 21) rfl)) (by decide) (t := .long) (t' := (.array .int)) (by decide) (by decide)))
  have F_x_size := F_x_size.other W41 (Or.inr (slot_ne (Or.inl (C.w (i := 35) rfl)) (Or.inr (C.w (i := 21) rfl)) (by decide) (t := .int) (t' := (.array .int)) (by decide) (by decide)))
  have E_x := E_x.wr W41
  have A_e := A_e.other W41 ne_e_x
  have A_c := A_c.other W41 ne_c_x
  have A_a := A_a.other W41 ne_a_x
  have A_p := A_p.other W41 ne_p_x
  refine N.aloadN C (pc' := 45) d1_44 rfl rfl rfl ?_
  refine N.getF C (pc' := 48) d1_45 (C.w (i := 20) rfl) F_x_place rfl ?_
  refine N.iconst C (pc' := 49) (z := -1) d1_48 rfl rfl ?_
  refine N.callS C (pc' := 52) [(.ref p), (.int (-1 : Int32))] d1_49 (C.w (i := 22) rfl) (C.w (i := 23) rfl) (C.w (i := 24) rfl) (C.w (i := 25) rfl) (by decide) (con3 G hw p h41_7 Z0 g_p A_p) (lenOf pd___II_V rfl) rfl (by decide) (show 0 + (4 + 11) + _ ≤ _ from by decide) (by decide) (by decide) (rest := []) rfl rfl ?_
  rintro _ h49_8 ⟨rfl, KpF, A_pF⟩
  have Z0 := Nat.le_trans Z0 KpF.1
  have F_x_estimate := F_x_estimate.keep KpF (ninS ne_x_p nin0)
  have F_x_cost := F_x_cost.keep KpF (ninS ne_x_p nin0)
  have F_x_guided := F_x_guided.keep KpF (ninS ne_x_p nin0)
  have F_x_heap := F_x_heap.keep KpF (ninS ne_x_p nin0)
  have F_x_place := F_x_place.keep KpF (ninS ne_x_p nin0)
  have F_x_given := F_x_given.keep KpF (ninS ne_x_p nin0)
  have F_x_offers := F_x_offers.keep KpF (ninS ne_x_p nin0)
  have F_x_size := F_x_size.keep KpF (ninS ne_x_p nin0)
  have E_x := E_x.keep KpF
  have A_e := A_e.keep KpF (ninS ne_e_p nin0)
  have A_c := A_c.keep KpF (ninS ne_c_p nin0)
  have A_a := A_a.keep KpF (ninS ne_a_p nin0)
  have A_p := A_pF
  show N G K rm1 Q h49_8 ((0 + 1) + 1) ((0 + 3) + 3) 52 #[.val (.ref x), .val (.ref e), .val (.ref c)] []
  refine N.aloadN C (pc' := 53) d1_52 rfl rfl rfl ?_
  refine N.aloadN C (pc' := 54) d1_53 rfl rfl rfl ?_
  refine N.alen C (pc' := 55) (n := (3 : Int32)) d1_54 A_c len_c rfl ?_
  refine N.newP C (pc' := 57) (n := (3 : Int32)) 3 d1_55 (C.w (i := 26) rfl) (by decide) (by decide) (by decide) (by decide) (by decide) rfl (fun h55_9 g hx_g Ex55 A'_g => ?_)
  have ne_x_g : x ≠ g := by rw [hx_g]; exact Nat.ne_of_lt F_x_estimate.lt
  have ne_g_x := Ne.symm ne_x_g
  have ne_e_g : e ≠ g := by rw [hx_g]; exact Nat.ne_of_lt A_e.lt
  have ne_g_e := Ne.symm ne_e_g
  have ne_c_g : c ≠ g := by rw [hx_g]; exact Nat.ne_of_lt A_c.lt
  have ne_g_c := Ne.symm ne_c_g
  have ne_a_g : a ≠ g := by rw [hx_g]; exact Nat.ne_of_lt A_a.lt
  have ne_g_a := Ne.symm ne_a_g
  have ne_p_g : p ≠ g := by rw [hx_g]; exact Nat.ne_of_lt A_p.lt
  have ne_g_p := Ne.symm ne_p_g
  have g_g : G.n0 ≤ g := by rw [hx_g]; exact Z0
  have Z0 := Nat.le_trans Z0 Ex55.1
  have F_x_estimate := F_x_estimate.ext Ex55
  have F_x_cost := F_x_cost.ext Ex55
  have F_x_guided := F_x_guided.ext Ex55
  have F_x_heap := F_x_heap.ext Ex55
  have F_x_place := F_x_place.ext Ex55
  have F_x_given := F_x_given.ext Ex55
  have F_x_offers := F_x_offers.ext Ex55
  have F_x_size := F_x_size.ext Ex55
  have E_x := E_x.ext Ex55
  have A_e := A_e.ext Ex55
  have A_c := A_c.ext Ex55
  have A_a := A_a.ext Ex55
  have A_p := A_p.ext Ex55
  have A_g : Av G.Z h55_9 g .long [(.long (0 : Int64)), (.long (0 : Int64)), (.long (0 : Int64))] := A'_g
  refine N.putF C (pc' := 60) d1_57 (C.w (i := 27) rfl) F_x_given E_x (Or.inr ⟨(C.w (i := 28) rfl), rfl, rfl⟩) (C.w (i := 3) rfl) (ty := (.array .long)) (by decide) rfl rfl g_x rfl (fun h57_10 W57 => ?_)
  have Z0 : G.n0 ≤ _ := (Wr.size W57).symm ▸ Z0
  have F_x_estimate := F_x_estimate.other W57 (Or.inr (slot_ne (Or.inr (C.w (i := 12) rfl)) (Or.inr (C.w (i := 28) rfl)) (by decide) (t := (.array .double)) (t' := (.array .long)) (by decide) (by decide)))
  have F_x_cost := F_x_cost.other W57 (Or.inr (slot_ne (Or.inr (C.w (i := 14) rfl)) (Or.inr (C.w (i := 28) rfl)) (by decide) (t := (.array .double)) (t' := (.array .long)) (by decide) (by decide)))
  have F_x_guided := F_x_guided.other W57 (Or.inr (slot_ne (Or.inr (C.w (i := 16) rfl)) (Or.inr (C.w (i := 28) rfl)) (by decide) (t := .boolean) (t' := (.array .long)) (by decide) (by decide)))
  have F_x_heap := F_x_heap.other W57 (Or.inr (slot_ne (Or.inr (C.w (i := 19) rfl)) (Or.inr (C.w (i := 28) rfl)) (by decide) (t := (.array .int)) (t' := (.array .long)) (by decide) (by decide)))
  have F_x_place := F_x_place.other W57 (Or.inr (slot_ne (Or.inr (C.w (i := 21) rfl)) (Or.inr (C.w (i := 28) rfl)) (by decide) (t := (.array .int)) (t' := (.array .long)) (by decide) (by decide)))
  have F_x_given := F_x_given.same W57
  have F_x_offers := F_x_offers.other W57 (Or.inr (slot_ne (Or.inl (C.w (i := 42) rfl)) (Or.inr (C.w (i := 28) rfl)) (by decide) (t := .long) (t' := (.array .long)) (by decide) (by decide)))
  have F_x_size := F_x_size.other W57 (Or.inr (slot_ne (Or.inl (C.w (i := 35) rfl)) (Or.inr (C.w (i := 28) rfl)) (by decide) (t := .int) (t' := (.array .long)) (by decide) (by decide)))
  have E_x := E_x.wr W57
  have A_e := A_e.other W57 ne_e_x
  have A_c := A_c.other W57 ne_c_x
  have A_a := A_a.other W57 ne_a_x
  have A_p := A_p.other W57 ne_p_x
  have A_g := A_g.other W57 ne_g_x
  exact N.ret0 C rfl d1_60 (by decide) (by decide) (by subst hQ; exact ⟨rfl, Z0, a, p, g, [0, 0, 0], [-1, -1, -1], own_m1, ⟨1, 0, ds, cs, _, ne_x_a, ne_x_p, ne_x_g, ne_a_p, ne_a_g, ne_p_g, ne_e_x, ne_e_a, ne_e_p, ne_e_g, ne_c_x, ne_c_a, ne_c_p, ne_c_g, g_x, g_a, g_p, g_g, E_x, F_x_estimate, F_x_cost, F_x_guided, F_x_heap, F_x_place, F_x_given, F_x_offers, F_x_size, A_e, D_e, A_c, D_c, A_a, own_r0, A_p, rfl, A_g, own_g0⟩⟩)
set_option maxRecDepth 65536 in
set_option maxHeartbeats 40000000 in
theorem con0 (G : Gx) (hw : ∀ d ∈ tables_1, d.before G.a0 G.Z = true) (i0 i1 i2 pick fl : Int32) (h : Heap) (Z0 : G.n0 ≤ h.size) :
    Con G x code maxLocals ret room_1 #[(.int i0), (.int i1), (.int i2), (.int pick), (.int fl)] h (fun v _ => v = some (.int 1)) := by
  refine Con.of (W := tables_1) (plainFor_of_name pn0) hw (fun mm => ef0 mm i0 i1 i2 pick fl) (fun K C => ?_)
  have C : Cx G K "com/example/ravel/ravel/search/NodeHeapIsEmptyPinLaw" "law" code maxLocals ret tables_1 := C
  generalize hQ : (fun v _ => v = some (.int 1) : Option Value → Heap → Prop) = Q
  refine N.iconst C (pc' := 1) (z := 3) at_0 rfl rfl ?_
  refine N.newP C (pc' := 3) (n := (3 : Int32)) 3 at_1 (C.w (i := 0) rfl) (by decide) (by decide) (by decide) (by decide) (by decide) rfl (fun h1_1 e hx_e Ex1 A'_e => ?_)
  have g_e : G.n0 ≤ e := by rw [hx_e]; exact Z0
  have Z0 := Nat.le_trans Z0 Ex1.1
  have A_e : Av G.Z h1_1 e .double [(.double (0 : UInt64)), (.double (0 : UInt64)), (.double (0 : UInt64))] := A'_e
  refine N.dup C (pc' := 4) at_3 rfl rfl ?_
  refine N.iconst C (pc' := 5) (z := 0) at_4 rfl rfl ?_
  refine N.iloadN C (pc' := 6) at_5 rfl rfl ?_
  refine N.bipush C (pc' := 8) (z := 7) at_6 rfl rfl ?_
  refine N.iand C (pc' := 9) at_8 rfl ?_
  refine N.i2d C (pc' := 10) at_9 rfl ?_
  generalize FP.i2d (i0 &&& (7 : Int32)) = dv1
  refine N.dastore C (pc' := 11) (i := 0) at_10 A_e rfl (show 0 < 3 from by decide) g_e rfl (fun h10_2 W10 A_e => ?_)
  have Z0 : G.n0 ≤ _ := (Wr.size W10).symm ▸ Z0
  have A_e : Av G.Z h10_2 e .double [(.double dv1), (.double (0 : UInt64)), (.double (0 : UInt64))] := A_e
  refine N.dup C (pc' := 12) at_11 rfl rfl ?_
  refine N.iconst C (pc' := 13) (z := 1) at_12 rfl rfl ?_
  refine N.iloadN C (pc' := 14) at_13 rfl rfl ?_
  refine N.bipush C (pc' := 16) (z := 7) at_14 rfl rfl ?_
  refine N.iand C (pc' := 17) at_16 rfl ?_
  refine N.i2d C (pc' := 18) at_17 rfl ?_
  generalize FP.i2d (i1 &&& (7 : Int32)) = dv2
  refine N.dastore C (pc' := 19) (i := 1) at_18 A_e rfl (show 1 < 3 from by decide) g_e rfl (fun h18_3 W18 A_e => ?_)
  have Z0 : G.n0 ≤ _ := (Wr.size W18).symm ▸ Z0
  have A_e : Av G.Z h18_3 e .double [(.double dv1), (.double dv2), (.double (0 : UInt64))] := A_e
  refine N.dup C (pc' := 20) at_19 rfl rfl ?_
  refine N.iconst C (pc' := 21) (z := 2) at_20 rfl rfl ?_
  refine N.iloadN C (pc' := 22) at_21 rfl rfl ?_
  refine N.bipush C (pc' := 24) (z := 7) at_22 rfl rfl ?_
  refine N.iand C (pc' := 25) at_24 rfl ?_
  refine N.i2d C (pc' := 26) at_25 rfl ?_
  generalize FP.i2d (i2 &&& (7 : Int32)) = dv3
  refine N.dastore C (pc' := 27) (i := 2) at_26 A_e rfl (show 2 < 3 from by decide) g_e rfl (fun h26_4 W26 A_e => ?_)
  have Z0 : G.n0 ≤ _ := (Wr.size W26).symm ▸ Z0
  have A_e : Av G.Z h26_4 e .double [(.double dv1), (.double dv2), (.double dv3)] := A_e
  refine N.astore C (pc' := 29) (ls' := #[.val (.int i0), .val (.int i1), .val (.int i2), .val (.int pick), .val (.int fl), .val (.ref e), .unset, .unset, .unset, .unset, .unset, .unset, .unset, .unset, .unset, .unset]) at_27 rfl rfl rfl ?_
  refine N.iload C (pc' := 31) at_29 rfl rfl ?_
  refine N.iconst C (pc' := 32) (z := 1) at_31 rfl rfl ?_
  refine N.iand C (pc' := 33) at_32 rfl ?_
  refine N.ifc C (pt := 74) (pf := 36) at_33 rfl rfl (fun (hc33 : (fl &&& (1 : Int32)) = (0 : Int32)) => ?_) (fun (hc33 : ¬ (fl &&& (1 : Int32)) = (0 : Int32)) => ?_)
  · have hi33 : (fl &&& (1 : Int32)).toInt = 0 := eqI hc33
    refine N.aload C (pc' := 76) at_74 rfl rfl rfl ?_
    refine N.astore C (pc' := 78) (ls' := #[.val (.int i0), .val (.int i1), .val (.int i2), .val (.int pick), .val (.int fl), .val (.ref e), .val (.ref e), .unset, .unset, .unset, .unset, .unset, .unset, .unset, .unset, .unset]) at_76 rfl rfl rfl ?_
    refine N.iloadN C (pc' := 79) at_78 rfl rfl ?_
    refine N.ldcI C (pc' := 81) (v := 2147483647) at_79 (C.w (i := 1) rfl) rfl ?_
    refine N.iand C (pc' := 82) at_81 rfl ?_
    refine N.iconst C (pc' := 83) (z := 3) at_82 rfl rfl ?_
    refine N.irem C (pc' := 84) at_83 (by decide) rfl ?_
    have hi := own_rem3 pick
    generalize hd_i : ((pick &&& (2147483647 : Int32)) % (3 : Int32)) = i at *
    refine N.istore C (pc' := 86) (ls' := #[.val (.int i0), .val (.int i1), .val (.int i2), .val (.int pick), .val (.int fl), .val (.ref e), .val (.ref e), .val (.int i), .unset, .unset, .unset, .unset, .unset, .unset, .unset, .unset]) at_84 rfl rfl ?_
    refine N.iloadN C (pc' := 87) at_86 rfl rfl ?_
    refine N.bipush C (pc' := 89) (z := 8) at_87 rfl rfl ?_
    refine N.iushr C (pc' := 90) at_89 rfl ?_
    refine N.ldcI C (pc' := 92) (v := 2147483647) at_90 (C.w (i := 1) rfl) rfl ?_
    refine N.iand C (pc' := 93) at_92 rfl ?_
    refine N.iconst C (pc' := 94) (z := 3) at_93 rfl rfl ?_
    refine N.irem C (pc' := 95) at_94 (by decide) rfl ?_
    have hj := own_rem3 ((pick.toUInt32 >>> ((8 : Int32) &&& 31).toUInt32).toInt32)
    generalize hd_j : ((((pick.toUInt32 >>> ((8 : Int32) &&& 31).toUInt32).toInt32) &&& (2147483647 : Int32)) % (3 : Int32)) = j at *
    refine N.istore C (pc' := 97) (ls' := #[.val (.int i0), .val (.int i1), .val (.int i2), .val (.int pick), .val (.int fl), .val (.ref e), .val (.ref e), .val (.int i), .val (.int j), .unset, .unset, .unset, .unset, .unset, .unset, .unset]) at_95 rfl rfl ?_
    refine N.newO C (pc' := 100) at_97 (C.w (i := 2) rfl) (C.w (i := 3) rfl) (C.w (i := 4) rfl) (by decide) (by decide) rfl (fun h97_5 x hx_x Ex97 E_x D_x => ?_)
    have ne_e_x : e ≠ x := by rw [hx_x]; exact Nat.ne_of_lt A_e.lt
    have ne_x_e := Ne.symm ne_e_x
    have g_x : G.n0 ≤ x := by rw [hx_x]; exact Z0
    have Z0 := Nat.le_trans Z0 Ex97.1
    have A_e := A_e.ext Ex97
    have F_x_estimate : Fld G.Z h97_5 x "com/example/ravel/ravel/search/NodeHeap" "estimate" "[D" .null := D_x (Or.inr (C.w (i := 12) rfl)) (ty := (.array .double)) (by decide)
    have F_x_cost : Fld G.Z h97_5 x "com/example/ravel/ravel/search/NodeHeap" "cost" "[D" .null := D_x (Or.inr (C.w (i := 14) rfl)) (ty := (.array .double)) (by decide)
    have F_x_guided : Fld G.Z h97_5 x "com/example/ravel/ravel/search/NodeHeap" "guided" "Z" (.int (0 : Int32)) := D_x (Or.inr (C.w (i := 16) rfl)) (ty := .boolean) (by decide)
    have F_x_heap : Fld G.Z h97_5 x "com/example/ravel/ravel/search/NodeHeap" "heap" "[I" .null := D_x (Or.inr (C.w (i := 19) rfl)) (ty := (.array .int)) (by decide)
    have F_x_place : Fld G.Z h97_5 x "com/example/ravel/ravel/search/NodeHeap" "place" "[I" .null := D_x (Or.inr (C.w (i := 21) rfl)) (ty := (.array .int)) (by decide)
    have F_x_given : Fld G.Z h97_5 x "com/example/ravel/ravel/search/NodeHeap" "given" "[J" .null := D_x (Or.inr (C.w (i := 28) rfl)) (ty := (.array .long)) (by decide)
    have F_x_size : Fld G.Z h97_5 x "com/example/ravel/ravel/search/NodeHeap" "size" "I" (.int (0 : Int32)) := D_x (Or.inl (C.w (i := 35) rfl)) (ty := .int) (by decide)
    have F_x_offers : Fld G.Z h97_5 x "com/example/ravel/ravel/search/NodeHeap" "offers" "J" (.long (0 : Int64)) := D_x (Or.inl (C.w (i := 42) rfl)) (ty := .long) (by decide)
    refine N.dup C (pc' := 101) at_100 rfl rfl ?_
    refine N.aload C (pc' := 103) at_101 rfl rfl rfl ?_
    refine N.aload C (pc' := 105) at_103 rfl rfl rfl ?_
    refine N.callI C (pc' := 108) x [(.ref e), (.ref e)] at_105 rfl (C.w (i := 5) rfl) (C.w (i := 6) rfl) (C.w (i := 4) rfl) (C.w (i := 7) rfl) (by decide) (con_i1 G hw x e _ h97_5 (own_d3 _ _ _) A_e ne_e_x Z0 g_x E_x F_x_estimate F_x_cost F_x_guided F_x_heap F_x_place F_x_given F_x_offers F_x_size) (lenOf pd___D_D_V rfl) rfl (by decide) (show 1 + (3 + 11) + _ ≤ _ from by decide) (by decide) (by decide) (rest := [(.ref x)]) rfl rfl ?_
    rintro _ h105_6 ⟨rfl, ZI, a, p, g, hs, ps, hps, HQ⟩
    have Z0 := ZI
    have E_x := HQ.exa
    show N G K room_1 Q h105_6 (((0 + 1) + 1) + 3) (((0 + 3) + 8) + 9) 108 #[.val (.int i0), .val (.int i1), .val (.int i2), .val (.int pick), .val (.int fl), .val (.ref e), .val (.ref e), .val (.int i), .val (.int j), .unset, .unset, .unset, .unset, .unset, .unset, .unset] [(.ref x)]
    refine N.astore C (pc' := 110) (ls' := #[.val (.int i0), .val (.int i1), .val (.int i2), .val (.int pick), .val (.int fl), .val (.ref e), .val (.ref e), .val (.int i), .val (.int j), .val (.ref x), .unset, .unset, .unset, .unset, .unset, .unset]) at_108 rfl rfl rfl ?_
    refine N.aload C (pc' := 112) at_110 rfl rfl rfl ?_
    refine N.callV C (pc' := 115) x [] at_112 (C.w (i := 29) rfl) (C.w (i := 30) rfl) (C.w (i := 32) rfl) (C.w (i := 31) rfl) (C.w (i := 4) rfl) (C.w (i := 33) rfl) (by decide) E_x (con4 G hw x e e a p g 0 _ _ h105_6 HQ) (lenOf pd___Z rfl) rfl (by decide) (show 0 + (1 + 11) + _ ≤ _ from by decide) (by decide) (by decide) (rest := []) rfl rfl ?_
    rintro _ h112_7 ⟨ze4, rfl, rfl, hze4⟩
    have vze4 := own_z1 hze4 (by decide)
    subst vze4
    show N G K room_1 Q h105_6 (((0 + 1) + 1) + 3) (((0 + 3) + 8) + 9) 115 #[.val (.int i0), .val (.int i1), .val (.int i2), .val (.int pick), .val (.int fl), .val (.ref e), .val (.ref e), .val (.int i), .val (.int j), .val (.ref x), .unset, .unset, .unset, .unset, .unset, .unset] [(.int (1 : Int32))]
    refine N.istore C (pc' := 117) (ls' := #[.val (.int i0), .val (.int i1), .val (.int i2), .val (.int pick), .val (.int fl), .val (.ref e), .val (.ref e), .val (.int i), .val (.int j), .val (.ref x), .val (.int (1 : Int32)), .unset, .unset, .unset, .unset, .unset]) at_115 rfl rfl ?_
    refine N.aload C (pc' := 119) at_117 rfl rfl rfl ?_
    refine N.iload C (pc' := 121) at_119 rfl rfl ?_
    refine N.callV C (pc' := 124) x [(.int i)] at_121 (C.w (i := 36) rfl) (C.w (i := 37) rfl) (C.w (i := 39) rfl) (C.w (i := 38) rfl) (C.w (i := 4) rfl) (C.w (i := 40) rfl) (by decide) E_x (con_offA0 G hw x e e a p g i _ _ h105_6 hi (hps _ (by omega)) Z0 HQ) (lenOf pd__I_V rfl) rfl (by decide) (show 0 + (2 + 11) + _ ≤ _ from by decide) (by decide) (by decide) (rest := []) rfl rfl ?_
    rintro _ h121_8 ⟨rfl, ZO, hs1, ps1, hpi, hpo, HQ⟩
    have Z0 := ZO
    have E_x := HQ.exa
    show N G K room_1 Q h121_8 (((0 + 1) + 1) + 3) (((0 + 3) + 8) + 9) 124 #[.val (.int i0), .val (.int i1), .val (.int i2), .val (.int pick), .val (.int fl), .val (.ref e), .val (.ref e), .val (.int i), .val (.int j), .val (.ref x), .val (.int (1 : Int32)), .unset, .unset, .unset, .unset, .unset] []
    refine N.aload C (pc' := 126) at_124 rfl rfl rfl ?_
    refine N.callV C (pc' := 129) x [] at_126 (C.w (i := 29) rfl) (C.w (i := 30) rfl) (C.w (i := 32) rfl) (C.w (i := 31) rfl) (C.w (i := 4) rfl) (C.w (i := 33) rfl) (by decide) E_x (con4 G hw x e e a p g 1 _ _ h121_8 HQ) (lenOf pd___Z rfl) rfl (by decide) (show 0 + (1 + 11) + _ ≤ _ from by decide) (by decide) (by decide) (rest := []) rfl rfl ?_
    rintro _ h126_9 ⟨ze5, rfl, rfl, hze5⟩
    have vze5 := own_z0 hze5 (by decide)
    subst vze5
    show N G K room_1 Q h121_8 (((0 + 1) + 1) + 3) (((0 + 3) + 8) + 9) 129 #[.val (.int i0), .val (.int i1), .val (.int i2), .val (.int pick), .val (.int fl), .val (.ref e), .val (.ref e), .val (.int i), .val (.int j), .val (.ref x), .val (.int (1 : Int32)), .unset, .unset, .unset, .unset, .unset] [(.int (0 : Int32))]
    refine N.istore C (pc' := 131) (ls' := #[.val (.int i0), .val (.int i1), .val (.int i2), .val (.int pick), .val (.int fl), .val (.ref e), .val (.ref e), .val (.int i), .val (.int j), .val (.ref x), .val (.int (1 : Int32)), .val (.int (0 : Int32)), .unset, .unset, .unset, .unset]) at_129 rfl rfl ?_
    refine N.aload C (pc' := 133) at_131 rfl rfl rfl ?_
    refine N.iload C (pc' := 135) at_133 rfl rfl ?_
    by_cases hij : j = i
    · refine N.callV C (pc' := 138) x [(.int j)] at_135 (C.w (i := 36) rfl) (C.w (i := 37) rfl) (C.w (i := 39) rfl) (C.w (i := 38) rfl) (C.w (i := 4) rfl) (C.w (i := 40) rfl) (by decide) E_x (con_offB G hw x e e a p g j _ _ h121_8 hj (by rw [hij]; exact hpi) Z0 HQ) (lenOf pd__I_V rfl) rfl (by decide) (show 0 + (2 + 11) + _ ≤ _ from by decide) (by decide) (by decide) (rest := []) rfl rfl ?_
      rintro _ h135_10 ⟨rfl, ZO, hs2, ps2, HQ⟩
      have Z0 := ZO
      have E_x := HQ.exa
      show N G K room_1 Q h135_10 (((0 + 1) + 1) + 3) (((0 + 3) + 8) + 9) 138 #[.val (.int i0), .val (.int i1), .val (.int i2), .val (.int pick), .val (.int fl), .val (.ref e), .val (.ref e), .val (.int i), .val (.int j), .val (.ref x), .val (.int (1 : Int32)), .val (.int (0 : Int32)), .unset, .unset, .unset, .unset] []
      refine N.aload C (pc' := 140) at_138 rfl rfl rfl ?_
      refine N.callV C (pc' := 143) x [] at_140 (C.w (i := 29) rfl) (C.w (i := 30) rfl) (C.w (i := 32) rfl) (C.w (i := 31) rfl) (C.w (i := 4) rfl) (C.w (i := 33) rfl) (by decide) E_x (con4 G hw x e e a p g 1 _ _ h135_10 HQ) (lenOf pd___Z rfl) rfl (by decide) (show 0 + (1 + 11) + _ ≤ _ from by decide) (by decide) (by decide) (rest := []) rfl rfl ?_
      rintro _ h140_11 ⟨ze6, rfl, rfl, hze6⟩
      have vze6 := own_z0 hze6 (by decide)
      subst vze6
      show N G K room_1 Q h135_10 (((0 + 1) + 1) + 3) (((0 + 3) + 8) + 9) 143 #[.val (.int i0), .val (.int i1), .val (.int i2), .val (.int pick), .val (.int fl), .val (.ref e), .val (.ref e), .val (.int i), .val (.int j), .val (.ref x), .val (.int (1 : Int32)), .val (.int (0 : Int32)), .unset, .unset, .unset, .unset] [(.int (0 : Int32))]
      refine N.istore C (pc' := 145) (ls' := #[.val (.int i0), .val (.int i1), .val (.int i2), .val (.int pick), .val (.int fl), .val (.ref e), .val (.ref e), .val (.int i), .val (.int j), .val (.ref x), .val (.int (1 : Int32)), .val (.int (0 : Int32)), .val (.int (0 : Int32)), .unset, .unset, .unset]) at_143 rfl rfl ?_
      refine N.iload C (pc' := 147) at_145 rfl rfl ?_
      refine N.ifc C (pt := 164) (pf := 150) at_147 rfl rfl (fun (q : (1 : Int32) = (0 : Int32)) => absurd q (by decide)) (fun _ => ?_)
      refine N.iload C (pc' := 152) at_150 rfl rfl ?_
      refine N.ifc C (pt := 164) (pf := 155) at_152 rfl rfl (fun (q : ¬ (0 : Int32) = (0 : Int32)) => absurd q (by decide)) (fun _ => ?_)
      refine N.iload C (pc' := 157) at_155 rfl rfl ?_
      refine N.ifc C (pt := 164) (pf := 160) at_157 rfl rfl (fun (q : ¬ (0 : Int32) = (0 : Int32)) => absurd q (by decide)) (fun _ => ?_)
      refine N.iconst C (pc' := 161) (z := 1) at_160 rfl rfl ?_
      refine N.goto C (pc' := 165) at_161 rfl ?_
      refine N.istore C (pc' := 167) (ls' := #[.val (.int i0), .val (.int i1), .val (.int i2), .val (.int pick), .val (.int fl), .val (.ref e), .val (.ref e), .val (.int i), .val (.int j), .val (.ref x), .val (.int (1 : Int32)), .val (.int (0 : Int32)), .val (.int (0 : Int32)), .val (.int (1 : Int32)), .unset, .unset]) at_165 rfl rfl ?_
      refine N.aload C (pc' := 169) at_167 rfl rfl rfl ?_
      refine N.callV C (pc' := 172) x [] at_169 (C.w (i := 55) rfl) (C.w (i := 56) rfl) (C.w (i := 58) rfl) (C.w (i := 57) rfl) (C.w (i := 4) rfl) (C.w (i := 59) rfl) (by decide) E_x (con_poll1 G hw x e e a p g _ _ h135_10 Z0 HQ) (lenOf pd___I rfl) rfl (by decide) (show 0 + (2 + 11) + _ ≤ _ from by decide) (by decide) (by decide) (rest := []) rfl rfl ?_
      rintro _ h169_12 ⟨rp7, rfl, ZP7, hsp7, psp7, HQ⟩
      have Z0 := ZP7
      have E_x := HQ.exa
      show N G K room_1 Q h169_12 (((0 + 1) + 1) + 3) (((0 + 3) + 8) + 9) 172 #[.val (.int i0), .val (.int i1), .val (.int i2), .val (.int pick), .val (.int fl), .val (.ref e), .val (.ref e), .val (.int i), .val (.int j), .val (.ref x), .val (.int (1 : Int32)), .val (.int (0 : Int32)), .val (.int (0 : Int32)), .val (.int (1 : Int32)), .unset, .unset] [(.int rp7)]
      refine N.pop C (pc' := 173) at_172 rfl rfl ?_
      refine N.aload C (pc' := 175) at_173 rfl rfl rfl ?_
      refine N.callV C (pc' := 178) x [] at_175 (C.w (i := 29) rfl) (C.w (i := 30) rfl) (C.w (i := 32) rfl) (C.w (i := 31) rfl) (C.w (i := 4) rfl) (C.w (i := 33) rfl) (by decide) E_x (con4 G hw x e e a p g 0 _ _ h169_12 HQ) (lenOf pd___Z rfl) rfl (by decide) (show 0 + (1 + 11) + _ ≤ _ from by decide) (by decide) (by decide) (rest := []) rfl rfl ?_
      rintro _ h175_13 ⟨ze8, rfl, rfl, hze8⟩
      have vze8 := own_z1 hze8 (by decide)
      subst vze8
      show N G K room_1 Q h169_12 (((0 + 1) + 1) + 3) (((0 + 3) + 8) + 9) 178 #[.val (.int i0), .val (.int i1), .val (.int i2), .val (.int pick), .val (.int fl), .val (.ref e), .val (.ref e), .val (.int i), .val (.int j), .val (.ref x), .val (.int (1 : Int32)), .val (.int (0 : Int32)), .val (.int (0 : Int32)), .val (.int (1 : Int32)), .unset, .unset] [(.int (1 : Int32))]
      refine N.istore C (pc' := 180) (ls' := #[.val (.int i0), .val (.int i1), .val (.int i2), .val (.int pick), .val (.int fl), .val (.ref e), .val (.ref e), .val (.int i), .val (.int j), .val (.ref x), .val (.int (1 : Int32)), .val (.int (0 : Int32)), .val (.int (0 : Int32)), .val (.int (1 : Int32)), .val (.int (1 : Int32)), .unset]) at_178 rfl rfl ?_
      refine N.iload C (pc' := 182) at_180 rfl rfl ?_
      refine N.iload C (pc' := 184) at_182 rfl rfl ?_
      refine N.icmp C (pt := 203) (pf := 187) at_184 rfl rfl (fun (hc184 : ¬ i = j) => absurd (show False from by exact hc184 hij.symm) id) (fun (hc184 : i = j) => ?_)
      refine N.iload C (pc' := 189) at_187 rfl rfl ?_
      refine N.ifc C (pt := 201) (pf := 192) at_189 rfl rfl (fun (q : (1 : Int32) = (0 : Int32)) => absurd q (by decide)) (fun _ => ?_)
      refine N.iload C (pc' := 194) at_192 rfl rfl ?_
      refine N.ifc C (pt := 201) (pf := 197) at_194 rfl rfl (fun (q : (1 : Int32) = (0 : Int32)) => absurd q (by decide)) (fun _ => ?_)
      refine N.iconst C (pc' := 198) (z := 1) at_197 rfl rfl ?_
      refine N.goto C (pc' := 202) at_198 rfl ?_
      exact N.retN C (by simp) (z' := (1 : Int32)) rfl at_202 (by decide) (by decide) (by subst hQ; exact rfl)
    · refine N.callV C (pc' := 138) x [(.int j)] at_135 (C.w (i := 36) rfl) (C.w (i := 37) rfl) (C.w (i := 39) rfl) (C.w (i := 38) rfl) (C.w (i := 4) rfl) (C.w (i := 40) rfl) (by decide) E_x (con_offA1 G hw x e e a p g j _ _ h121_8 hj ((hpo _ (fun q => hij (Int32.toInt_inj.mp (by omega)))).trans (hps _ (by omega))) Z0 HQ) (lenOf pd__I_V rfl) rfl (by decide) (show 0 + (2 + 11) + _ ≤ _ from by decide) (by decide) (by decide) (rest := []) rfl rfl ?_
      rintro _ h135_14 ⟨rfl, ZO, hs2, ps2, HQ⟩
      have Z0 := ZO
      have E_x := HQ.exa
      show N G K room_1 Q h135_14 (((0 + 1) + 1) + 3) (((0 + 3) + 8) + 9) 138 #[.val (.int i0), .val (.int i1), .val (.int i2), .val (.int pick), .val (.int fl), .val (.ref e), .val (.ref e), .val (.int i), .val (.int j), .val (.ref x), .val (.int (1 : Int32)), .val (.int (0 : Int32)), .unset, .unset, .unset, .unset] []
      refine N.aload C (pc' := 140) at_138 rfl rfl rfl ?_
      refine N.callV C (pc' := 143) x [] at_140 (C.w (i := 29) rfl) (C.w (i := 30) rfl) (C.w (i := 32) rfl) (C.w (i := 31) rfl) (C.w (i := 4) rfl) (C.w (i := 33) rfl) (by decide) E_x (con4 G hw x e e a p g 2 _ _ h135_14 HQ) (lenOf pd___Z rfl) rfl (by decide) (show 0 + (1 + 11) + _ ≤ _ from by decide) (by decide) (by decide) (rest := []) rfl rfl ?_
      rintro _ h140_15 ⟨ze9, rfl, rfl, hze9⟩
      have vze9 := own_z0 hze9 (by decide)
      subst vze9
      show N G K room_1 Q h135_14 (((0 + 1) + 1) + 3) (((0 + 3) + 8) + 9) 143 #[.val (.int i0), .val (.int i1), .val (.int i2), .val (.int pick), .val (.int fl), .val (.ref e), .val (.ref e), .val (.int i), .val (.int j), .val (.ref x), .val (.int (1 : Int32)), .val (.int (0 : Int32)), .unset, .unset, .unset, .unset] [(.int (0 : Int32))]
      refine N.istore C (pc' := 145) (ls' := #[.val (.int i0), .val (.int i1), .val (.int i2), .val (.int pick), .val (.int fl), .val (.ref e), .val (.ref e), .val (.int i), .val (.int j), .val (.ref x), .val (.int (1 : Int32)), .val (.int (0 : Int32)), .val (.int (0 : Int32)), .unset, .unset, .unset]) at_143 rfl rfl ?_
      refine N.iload C (pc' := 147) at_145 rfl rfl ?_
      refine N.ifc C (pt := 164) (pf := 150) at_147 rfl rfl (fun (q : (1 : Int32) = (0 : Int32)) => absurd q (by decide)) (fun _ => ?_)
      refine N.iload C (pc' := 152) at_150 rfl rfl ?_
      refine N.ifc C (pt := 164) (pf := 155) at_152 rfl rfl (fun (q : ¬ (0 : Int32) = (0 : Int32)) => absurd q (by decide)) (fun _ => ?_)
      refine N.iload C (pc' := 157) at_155 rfl rfl ?_
      refine N.ifc C (pt := 164) (pf := 160) at_157 rfl rfl (fun (q : ¬ (0 : Int32) = (0 : Int32)) => absurd q (by decide)) (fun _ => ?_)
      refine N.iconst C (pc' := 161) (z := 1) at_160 rfl rfl ?_
      refine N.goto C (pc' := 165) at_161 rfl ?_
      refine N.istore C (pc' := 167) (ls' := #[.val (.int i0), .val (.int i1), .val (.int i2), .val (.int pick), .val (.int fl), .val (.ref e), .val (.ref e), .val (.int i), .val (.int j), .val (.ref x), .val (.int (1 : Int32)), .val (.int (0 : Int32)), .val (.int (0 : Int32)), .val (.int (1 : Int32)), .unset, .unset]) at_165 rfl rfl ?_
      refine N.aload C (pc' := 169) at_167 rfl rfl rfl ?_
      refine N.callV C (pc' := 172) x [] at_169 (C.w (i := 55) rfl) (C.w (i := 56) rfl) (C.w (i := 58) rfl) (C.w (i := 57) rfl) (C.w (i := 4) rfl) (C.w (i := 59) rfl) (by decide) E_x (con_poll2 G hw x e e a p g _ _ h135_14 Z0 HQ) (lenOf pd___I rfl) rfl (by decide) (show 0 + (2 + 11) + _ ≤ _ from by decide) (by decide) (by decide) (rest := []) rfl rfl ?_
      rintro _ h169_16 ⟨rp10, rfl, ZP10, hsp10, psp10, HQ⟩
      have Z0 := ZP10
      have E_x := HQ.exa
      show N G K room_1 Q h169_16 (((0 + 1) + 1) + 3) (((0 + 3) + 8) + 9) 172 #[.val (.int i0), .val (.int i1), .val (.int i2), .val (.int pick), .val (.int fl), .val (.ref e), .val (.ref e), .val (.int i), .val (.int j), .val (.ref x), .val (.int (1 : Int32)), .val (.int (0 : Int32)), .val (.int (0 : Int32)), .val (.int (1 : Int32)), .unset, .unset] [(.int rp10)]
      refine N.pop C (pc' := 173) at_172 rfl rfl ?_
      refine N.aload C (pc' := 175) at_173 rfl rfl rfl ?_
      refine N.callV C (pc' := 178) x [] at_175 (C.w (i := 29) rfl) (C.w (i := 30) rfl) (C.w (i := 32) rfl) (C.w (i := 31) rfl) (C.w (i := 4) rfl) (C.w (i := 33) rfl) (by decide) E_x (con4 G hw x e e a p g 1 _ _ h169_16 HQ) (lenOf pd___Z rfl) rfl (by decide) (show 0 + (1 + 11) + _ ≤ _ from by decide) (by decide) (by decide) (rest := []) rfl rfl ?_
      rintro _ h175_17 ⟨ze11, rfl, rfl, hze11⟩
      have vze11 := own_z0 hze11 (by decide)
      subst vze11
      show N G K room_1 Q h169_16 (((0 + 1) + 1) + 3) (((0 + 3) + 8) + 9) 178 #[.val (.int i0), .val (.int i1), .val (.int i2), .val (.int pick), .val (.int fl), .val (.ref e), .val (.ref e), .val (.int i), .val (.int j), .val (.ref x), .val (.int (1 : Int32)), .val (.int (0 : Int32)), .val (.int (0 : Int32)), .val (.int (1 : Int32)), .unset, .unset] [(.int (0 : Int32))]
      refine N.istore C (pc' := 180) (ls' := #[.val (.int i0), .val (.int i1), .val (.int i2), .val (.int pick), .val (.int fl), .val (.ref e), .val (.ref e), .val (.int i), .val (.int j), .val (.ref x), .val (.int (1 : Int32)), .val (.int (0 : Int32)), .val (.int (0 : Int32)), .val (.int (1 : Int32)), .val (.int (0 : Int32)), .unset]) at_178 rfl rfl ?_
      refine N.iload C (pc' := 182) at_180 rfl rfl ?_
      refine N.iload C (pc' := 184) at_182 rfl rfl ?_
      refine N.icmp C (pt := 203) (pf := 187) at_184 rfl rfl (fun (hc184 : ¬ i = j) => ?_) (fun (hc184 : i = j) => absurd (show False from by exact hij hc184.symm) id)
      refine N.iload C (pc' := 205) at_203 rfl rfl ?_
      refine N.ifc C (pt := 217) (pf := 208) at_205 rfl rfl (fun (q : (1 : Int32) = (0 : Int32)) => absurd q (by decide)) (fun _ => ?_)
      refine N.iload C (pc' := 210) at_208 rfl rfl ?_
      refine N.ifc C (pt := 217) (pf := 213) at_210 rfl rfl (fun (q : ¬ (0 : Int32) = (0 : Int32)) => absurd q (by decide)) (fun _ => ?_)
      refine N.iconst C (pc' := 214) (z := 1) at_213 rfl rfl ?_
      refine N.goto C (pc' := 218) at_214 rfl ?_
      refine N.istore C (pc' := 220) (ls' := #[.val (.int i0), .val (.int i1), .val (.int i2), .val (.int pick), .val (.int fl), .val (.ref e), .val (.ref e), .val (.int i), .val (.int j), .val (.ref x), .val (.int (1 : Int32)), .val (.int (0 : Int32)), .val (.int (0 : Int32)), .val (.int (1 : Int32)), .val (.int (0 : Int32)), .unset]) at_218 rfl rfl ?_
      refine N.aload C (pc' := 222) at_220 rfl rfl rfl ?_
      refine N.callV C (pc' := 225) x [] at_222 (C.w (i := 55) rfl) (C.w (i := 56) rfl) (C.w (i := 58) rfl) (C.w (i := 57) rfl) (C.w (i := 4) rfl) (C.w (i := 59) rfl) (by decide) E_x (con_poll1 G hw x e e a p g _ _ h169_16 Z0 HQ) (lenOf pd___I rfl) rfl (by decide) (show 0 + (2 + 11) + _ ≤ _ from by decide) (by decide) (by decide) (rest := []) rfl rfl ?_
      rintro _ h222_18 ⟨rp12, rfl, ZP12, hsp12, psp12, HQ⟩
      have Z0 := ZP12
      have E_x := HQ.exa
      show N G K room_1 Q h222_18 (((0 + 1) + 1) + 3) (((0 + 3) + 8) + 9) 225 #[.val (.int i0), .val (.int i1), .val (.int i2), .val (.int pick), .val (.int fl), .val (.ref e), .val (.ref e), .val (.int i), .val (.int j), .val (.ref x), .val (.int (1 : Int32)), .val (.int (0 : Int32)), .val (.int (0 : Int32)), .val (.int (1 : Int32)), .val (.int (0 : Int32)), .unset] [(.int rp12)]
      refine N.pop C (pc' := 226) at_225 rfl rfl ?_
      refine N.aload C (pc' := 228) at_226 rfl rfl rfl ?_
      refine N.callV C (pc' := 231) x [] at_228 (C.w (i := 29) rfl) (C.w (i := 30) rfl) (C.w (i := 32) rfl) (C.w (i := 31) rfl) (C.w (i := 4) rfl) (C.w (i := 33) rfl) (by decide) E_x (con4 G hw x e e a p g 0 _ _ h222_18 HQ) (lenOf pd___Z rfl) rfl (by decide) (show 0 + (1 + 11) + _ ≤ _ from by decide) (by decide) (by decide) (rest := []) rfl rfl ?_
      rintro _ h228_19 ⟨ze13, rfl, rfl, hze13⟩
      have vze13 := own_z1 hze13 (by decide)
      subst vze13
      show N G K room_1 Q h222_18 (((0 + 1) + 1) + 3) (((0 + 3) + 8) + 9) 231 #[.val (.int i0), .val (.int i1), .val (.int i2), .val (.int pick), .val (.int fl), .val (.ref e), .val (.ref e), .val (.int i), .val (.int j), .val (.ref x), .val (.int (1 : Int32)), .val (.int (0 : Int32)), .val (.int (0 : Int32)), .val (.int (1 : Int32)), .val (.int (0 : Int32)), .unset] [(.int (1 : Int32))]
      refine N.istore C (pc' := 233) (ls' := #[.val (.int i0), .val (.int i1), .val (.int i2), .val (.int pick), .val (.int fl), .val (.ref e), .val (.ref e), .val (.int i), .val (.int j), .val (.ref x), .val (.int (1 : Int32)), .val (.int (0 : Int32)), .val (.int (0 : Int32)), .val (.int (1 : Int32)), .val (.int (0 : Int32)), .val (.int (1 : Int32))]) at_231 rfl rfl ?_
      refine N.iload C (pc' := 235) at_233 rfl rfl ?_
      refine N.ifc C (pt := 247) (pf := 238) at_235 rfl rfl (fun (q : (1 : Int32) = (0 : Int32)) => absurd q (by decide)) (fun _ => ?_)
      refine N.iload C (pc' := 240) at_238 rfl rfl ?_
      refine N.ifc C (pt := 247) (pf := 243) at_240 rfl rfl (fun (q : (1 : Int32) = (0 : Int32)) => absurd q (by decide)) (fun _ => ?_)
      refine N.iconst C (pc' := 244) (z := 1) at_243 rfl rfl ?_
      refine N.goto C (pc' := 248) at_244 rfl ?_
      exact N.retN C (by simp) (z' := (1 : Int32)) rfl at_248 (by decide) (by decide) (by subst hQ; exact rfl)
  · have hi33 : ¬ (fl &&& (1 : Int32)).toInt = 0 := neI hc33
    refine N.iconst C (pc' := 37) (z := 3) at_36 rfl rfl ?_
    refine N.newP C (pc' := 39) (n := (3 : Int32)) 3 at_37 (C.w (i := 0) rfl) (by decide) (by decide) (by decide) (by decide) (by decide) rfl (fun h37_5 c hx_c Ex37 A'_c => ?_)
    have ne_e_c : e ≠ c := by rw [hx_c]; exact Nat.ne_of_lt A_e.lt
    have ne_c_e := Ne.symm ne_e_c
    have g_c : G.n0 ≤ c := by rw [hx_c]; exact Z0
    have Z0 := Nat.le_trans Z0 Ex37.1
    have A_e := A_e.ext Ex37
    have A_c : Av G.Z h37_5 c .double [(.double (0 : UInt64)), (.double (0 : UInt64)), (.double (0 : UInt64))] := A'_c
    refine N.dup C (pc' := 40) at_39 rfl rfl ?_
    refine N.iconst C (pc' := 41) (z := 0) at_40 rfl rfl ?_
    refine N.iloadN C (pc' := 42) at_41 rfl rfl ?_
    refine N.iconst C (pc' := 43) (z := 3) at_42 rfl rfl ?_
    refine N.iushr C (pc' := 44) at_43 rfl ?_
    refine N.bipush C (pc' := 46) (z := 7) at_44 rfl rfl ?_
    refine N.iand C (pc' := 47) at_46 rfl ?_
    refine N.i2d C (pc' := 48) at_47 rfl ?_
    generalize FP.i2d (((i0.toUInt32 >>> ((3 : Int32) &&& 31).toUInt32).toInt32) &&& (7 : Int32)) = dv4
    refine N.dastore C (pc' := 49) (i := 0) at_48 A_c rfl (show 0 < 3 from by decide) g_c rfl (fun h48_6 W48 A_c => ?_)
    have Z0 : G.n0 ≤ _ := (Wr.size W48).symm ▸ Z0
    have A_e := A_e.other W48 ne_e_c
    have A_c : Av G.Z h48_6 c .double [(.double dv4), (.double (0 : UInt64)), (.double (0 : UInt64))] := A_c
    refine N.dup C (pc' := 50) at_49 rfl rfl ?_
    refine N.iconst C (pc' := 51) (z := 1) at_50 rfl rfl ?_
    refine N.iloadN C (pc' := 52) at_51 rfl rfl ?_
    refine N.iconst C (pc' := 53) (z := 3) at_52 rfl rfl ?_
    refine N.iushr C (pc' := 54) at_53 rfl ?_
    refine N.bipush C (pc' := 56) (z := 7) at_54 rfl rfl ?_
    refine N.iand C (pc' := 57) at_56 rfl ?_
    refine N.i2d C (pc' := 58) at_57 rfl ?_
    generalize FP.i2d (((i1.toUInt32 >>> ((3 : Int32) &&& 31).toUInt32).toInt32) &&& (7 : Int32)) = dv5
    refine N.dastore C (pc' := 59) (i := 1) at_58 A_c rfl (show 1 < 3 from by decide) g_c rfl (fun h58_7 W58 A_c => ?_)
    have Z0 : G.n0 ≤ _ := (Wr.size W58).symm ▸ Z0
    have A_e := A_e.other W58 ne_e_c
    have A_c : Av G.Z h58_7 c .double [(.double dv4), (.double dv5), (.double (0 : UInt64))] := A_c
    refine N.dup C (pc' := 60) at_59 rfl rfl ?_
    refine N.iconst C (pc' := 61) (z := 2) at_60 rfl rfl ?_
    refine N.iloadN C (pc' := 62) at_61 rfl rfl ?_
    refine N.iconst C (pc' := 63) (z := 3) at_62 rfl rfl ?_
    refine N.iushr C (pc' := 64) at_63 rfl ?_
    refine N.bipush C (pc' := 66) (z := 7) at_64 rfl rfl ?_
    refine N.iand C (pc' := 67) at_66 rfl ?_
    refine N.i2d C (pc' := 68) at_67 rfl ?_
    generalize FP.i2d (((i2.toUInt32 >>> ((3 : Int32) &&& 31).toUInt32).toInt32) &&& (7 : Int32)) = dv6
    refine N.dastore C (pc' := 69) (i := 2) at_68 A_c rfl (show 2 < 3 from by decide) g_c rfl (fun h68_8 W68 A_c => ?_)
    have Z0 : G.n0 ≤ _ := (Wr.size W68).symm ▸ Z0
    have A_e := A_e.other W68 ne_e_c
    have A_c : Av G.Z h68_8 c .double [(.double dv4), (.double dv5), (.double dv6)] := A_c
    refine N.astore C (pc' := 71) (ls' := #[.val (.int i0), .val (.int i1), .val (.int i2), .val (.int pick), .val (.int fl), .val (.ref e), .val (.ref c), .unset, .unset, .unset, .unset, .unset, .unset, .unset, .unset, .unset]) at_69 rfl rfl rfl ?_
    refine N.goto C (pc' := 78) at_71 rfl ?_
    refine N.iloadN C (pc' := 79) at_78 rfl rfl ?_
    refine N.ldcI C (pc' := 81) (v := 2147483647) at_79 (C.w (i := 1) rfl) rfl ?_
    refine N.iand C (pc' := 82) at_81 rfl ?_
    refine N.iconst C (pc' := 83) (z := 3) at_82 rfl rfl ?_
    refine N.irem C (pc' := 84) at_83 (by decide) rfl ?_
    have hi := own_rem3 pick
    generalize hd_i : ((pick &&& (2147483647 : Int32)) % (3 : Int32)) = i at *
    refine N.istore C (pc' := 86) (ls' := #[.val (.int i0), .val (.int i1), .val (.int i2), .val (.int pick), .val (.int fl), .val (.ref e), .val (.ref c), .val (.int i), .unset, .unset, .unset, .unset, .unset, .unset, .unset, .unset]) at_84 rfl rfl ?_
    refine N.iloadN C (pc' := 87) at_86 rfl rfl ?_
    refine N.bipush C (pc' := 89) (z := 8) at_87 rfl rfl ?_
    refine N.iushr C (pc' := 90) at_89 rfl ?_
    refine N.ldcI C (pc' := 92) (v := 2147483647) at_90 (C.w (i := 1) rfl) rfl ?_
    refine N.iand C (pc' := 93) at_92 rfl ?_
    refine N.iconst C (pc' := 94) (z := 3) at_93 rfl rfl ?_
    refine N.irem C (pc' := 95) at_94 (by decide) rfl ?_
    have hj := own_rem3 ((pick.toUInt32 >>> ((8 : Int32) &&& 31).toUInt32).toInt32)
    generalize hd_j : ((((pick.toUInt32 >>> ((8 : Int32) &&& 31).toUInt32).toInt32) &&& (2147483647 : Int32)) % (3 : Int32)) = j at *
    refine N.istore C (pc' := 97) (ls' := #[.val (.int i0), .val (.int i1), .val (.int i2), .val (.int pick), .val (.int fl), .val (.ref e), .val (.ref c), .val (.int i), .val (.int j), .unset, .unset, .unset, .unset, .unset, .unset, .unset]) at_95 rfl rfl ?_
    refine N.newO C (pc' := 100) at_97 (C.w (i := 2) rfl) (C.w (i := 3) rfl) (C.w (i := 4) rfl) (by decide) (by decide) rfl (fun h97_9 x hx_x Ex97 E_x D_x => ?_)
    have ne_e_x : e ≠ x := by rw [hx_x]; exact Nat.ne_of_lt A_e.lt
    have ne_x_e := Ne.symm ne_e_x
    have ne_c_x : c ≠ x := by rw [hx_x]; exact Nat.ne_of_lt A_c.lt
    have ne_x_c := Ne.symm ne_c_x
    have g_x : G.n0 ≤ x := by rw [hx_x]; exact Z0
    have Z0 := Nat.le_trans Z0 Ex97.1
    have A_e := A_e.ext Ex97
    have A_c := A_c.ext Ex97
    have F_x_estimate : Fld G.Z h97_9 x "com/example/ravel/ravel/search/NodeHeap" "estimate" "[D" .null := D_x (Or.inr (C.w (i := 12) rfl)) (ty := (.array .double)) (by decide)
    have F_x_cost : Fld G.Z h97_9 x "com/example/ravel/ravel/search/NodeHeap" "cost" "[D" .null := D_x (Or.inr (C.w (i := 14) rfl)) (ty := (.array .double)) (by decide)
    have F_x_guided : Fld G.Z h97_9 x "com/example/ravel/ravel/search/NodeHeap" "guided" "Z" (.int (0 : Int32)) := D_x (Or.inr (C.w (i := 16) rfl)) (ty := .boolean) (by decide)
    have F_x_heap : Fld G.Z h97_9 x "com/example/ravel/ravel/search/NodeHeap" "heap" "[I" .null := D_x (Or.inr (C.w (i := 19) rfl)) (ty := (.array .int)) (by decide)
    have F_x_place : Fld G.Z h97_9 x "com/example/ravel/ravel/search/NodeHeap" "place" "[I" .null := D_x (Or.inr (C.w (i := 21) rfl)) (ty := (.array .int)) (by decide)
    have F_x_given : Fld G.Z h97_9 x "com/example/ravel/ravel/search/NodeHeap" "given" "[J" .null := D_x (Or.inr (C.w (i := 28) rfl)) (ty := (.array .long)) (by decide)
    have F_x_size : Fld G.Z h97_9 x "com/example/ravel/ravel/search/NodeHeap" "size" "I" (.int (0 : Int32)) := D_x (Or.inl (C.w (i := 35) rfl)) (ty := .int) (by decide)
    have F_x_offers : Fld G.Z h97_9 x "com/example/ravel/ravel/search/NodeHeap" "offers" "J" (.long (0 : Int64)) := D_x (Or.inl (C.w (i := 42) rfl)) (ty := .long) (by decide)
    refine N.dup C (pc' := 101) at_100 rfl rfl ?_
    refine N.aload C (pc' := 103) at_101 rfl rfl rfl ?_
    refine N.aload C (pc' := 105) at_103 rfl rfl rfl ?_
    refine N.callI C (pc' := 108) x [(.ref e), (.ref c)] at_105 rfl (C.w (i := 5) rfl) (C.w (i := 6) rfl) (C.w (i := 4) rfl) (C.w (i := 7) rfl) (by decide) (con_i2 G hw x e c _ _ h97_9 (own_d3 _ _ _) A_e ne_e_x (own_d3 _ _ _) A_c ne_c_x ne_e_c Z0 g_x E_x F_x_estimate F_x_cost F_x_guided F_x_heap F_x_place F_x_given F_x_offers F_x_size) (lenOf pd___D_D_V rfl) rfl (by decide) (show 1 + (3 + 11) + _ ≤ _ from by decide) (by decide) (by decide) (rest := [(.ref x)]) rfl rfl ?_
    rintro _ h105_10 ⟨rfl, ZI, a, p, g, hs, ps, hps, HQ⟩
    have Z0 := ZI
    have E_x := HQ.exa
    show N G K room_1 Q h105_10 ((((0 + 1) + 1) + 1) + 3) ((((0 + 3) + 3) + 8) + 9) 108 #[.val (.int i0), .val (.int i1), .val (.int i2), .val (.int pick), .val (.int fl), .val (.ref e), .val (.ref c), .val (.int i), .val (.int j), .unset, .unset, .unset, .unset, .unset, .unset, .unset] [(.ref x)]
    refine N.astore C (pc' := 110) (ls' := #[.val (.int i0), .val (.int i1), .val (.int i2), .val (.int pick), .val (.int fl), .val (.ref e), .val (.ref c), .val (.int i), .val (.int j), .val (.ref x), .unset, .unset, .unset, .unset, .unset, .unset]) at_108 rfl rfl rfl ?_
    refine N.aload C (pc' := 112) at_110 rfl rfl rfl ?_
    refine N.callV C (pc' := 115) x [] at_112 (C.w (i := 29) rfl) (C.w (i := 30) rfl) (C.w (i := 32) rfl) (C.w (i := 31) rfl) (C.w (i := 4) rfl) (C.w (i := 33) rfl) (by decide) E_x (con4 G hw x e c a p g 0 _ _ h105_10 HQ) (lenOf pd___Z rfl) rfl (by decide) (show 0 + (1 + 11) + _ ≤ _ from by decide) (by decide) (by decide) (rest := []) rfl rfl ?_
    rintro _ h112_11 ⟨ze7, rfl, rfl, hze7⟩
    have vze7 := own_z1 hze7 (by decide)
    subst vze7
    show N G K room_1 Q h105_10 ((((0 + 1) + 1) + 1) + 3) ((((0 + 3) + 3) + 8) + 9) 115 #[.val (.int i0), .val (.int i1), .val (.int i2), .val (.int pick), .val (.int fl), .val (.ref e), .val (.ref c), .val (.int i), .val (.int j), .val (.ref x), .unset, .unset, .unset, .unset, .unset, .unset] [(.int (1 : Int32))]
    refine N.istore C (pc' := 117) (ls' := #[.val (.int i0), .val (.int i1), .val (.int i2), .val (.int pick), .val (.int fl), .val (.ref e), .val (.ref c), .val (.int i), .val (.int j), .val (.ref x), .val (.int (1 : Int32)), .unset, .unset, .unset, .unset, .unset]) at_115 rfl rfl ?_
    refine N.aload C (pc' := 119) at_117 rfl rfl rfl ?_
    refine N.iload C (pc' := 121) at_119 rfl rfl ?_
    refine N.callV C (pc' := 124) x [(.int i)] at_121 (C.w (i := 36) rfl) (C.w (i := 37) rfl) (C.w (i := 39) rfl) (C.w (i := 38) rfl) (C.w (i := 4) rfl) (C.w (i := 40) rfl) (by decide) E_x (con_offA0 G hw x e c a p g i _ _ h105_10 hi (hps _ (by omega)) Z0 HQ) (lenOf pd__I_V rfl) rfl (by decide) (show 0 + (2 + 11) + _ ≤ _ from by decide) (by decide) (by decide) (rest := []) rfl rfl ?_
    rintro _ h121_12 ⟨rfl, ZO, hs1, ps1, hpi, hpo, HQ⟩
    have Z0 := ZO
    have E_x := HQ.exa
    show N G K room_1 Q h121_12 ((((0 + 1) + 1) + 1) + 3) ((((0 + 3) + 3) + 8) + 9) 124 #[.val (.int i0), .val (.int i1), .val (.int i2), .val (.int pick), .val (.int fl), .val (.ref e), .val (.ref c), .val (.int i), .val (.int j), .val (.ref x), .val (.int (1 : Int32)), .unset, .unset, .unset, .unset, .unset] []
    refine N.aload C (pc' := 126) at_124 rfl rfl rfl ?_
    refine N.callV C (pc' := 129) x [] at_126 (C.w (i := 29) rfl) (C.w (i := 30) rfl) (C.w (i := 32) rfl) (C.w (i := 31) rfl) (C.w (i := 4) rfl) (C.w (i := 33) rfl) (by decide) E_x (con4 G hw x e c a p g 1 _ _ h121_12 HQ) (lenOf pd___Z rfl) rfl (by decide) (show 0 + (1 + 11) + _ ≤ _ from by decide) (by decide) (by decide) (rest := []) rfl rfl ?_
    rintro _ h126_13 ⟨ze8, rfl, rfl, hze8⟩
    have vze8 := own_z0 hze8 (by decide)
    subst vze8
    show N G K room_1 Q h121_12 ((((0 + 1) + 1) + 1) + 3) ((((0 + 3) + 3) + 8) + 9) 129 #[.val (.int i0), .val (.int i1), .val (.int i2), .val (.int pick), .val (.int fl), .val (.ref e), .val (.ref c), .val (.int i), .val (.int j), .val (.ref x), .val (.int (1 : Int32)), .unset, .unset, .unset, .unset, .unset] [(.int (0 : Int32))]
    refine N.istore C (pc' := 131) (ls' := #[.val (.int i0), .val (.int i1), .val (.int i2), .val (.int pick), .val (.int fl), .val (.ref e), .val (.ref c), .val (.int i), .val (.int j), .val (.ref x), .val (.int (1 : Int32)), .val (.int (0 : Int32)), .unset, .unset, .unset, .unset]) at_129 rfl rfl ?_
    refine N.aload C (pc' := 133) at_131 rfl rfl rfl ?_
    refine N.iload C (pc' := 135) at_133 rfl rfl ?_
    by_cases hij : j = i
    · refine N.callV C (pc' := 138) x [(.int j)] at_135 (C.w (i := 36) rfl) (C.w (i := 37) rfl) (C.w (i := 39) rfl) (C.w (i := 38) rfl) (C.w (i := 4) rfl) (C.w (i := 40) rfl) (by decide) E_x (con_offB G hw x e c a p g j _ _ h121_12 hj (by rw [hij]; exact hpi) Z0 HQ) (lenOf pd__I_V rfl) rfl (by decide) (show 0 + (2 + 11) + _ ≤ _ from by decide) (by decide) (by decide) (rest := []) rfl rfl ?_
      rintro _ h135_14 ⟨rfl, ZO, hs2, ps2, HQ⟩
      have Z0 := ZO
      have E_x := HQ.exa
      show N G K room_1 Q h135_14 ((((0 + 1) + 1) + 1) + 3) ((((0 + 3) + 3) + 8) + 9) 138 #[.val (.int i0), .val (.int i1), .val (.int i2), .val (.int pick), .val (.int fl), .val (.ref e), .val (.ref c), .val (.int i), .val (.int j), .val (.ref x), .val (.int (1 : Int32)), .val (.int (0 : Int32)), .unset, .unset, .unset, .unset] []
      refine N.aload C (pc' := 140) at_138 rfl rfl rfl ?_
      refine N.callV C (pc' := 143) x [] at_140 (C.w (i := 29) rfl) (C.w (i := 30) rfl) (C.w (i := 32) rfl) (C.w (i := 31) rfl) (C.w (i := 4) rfl) (C.w (i := 33) rfl) (by decide) E_x (con4 G hw x e c a p g 1 _ _ h135_14 HQ) (lenOf pd___Z rfl) rfl (by decide) (show 0 + (1 + 11) + _ ≤ _ from by decide) (by decide) (by decide) (rest := []) rfl rfl ?_
      rintro _ h140_15 ⟨ze9, rfl, rfl, hze9⟩
      have vze9 := own_z0 hze9 (by decide)
      subst vze9
      show N G K room_1 Q h135_14 ((((0 + 1) + 1) + 1) + 3) ((((0 + 3) + 3) + 8) + 9) 143 #[.val (.int i0), .val (.int i1), .val (.int i2), .val (.int pick), .val (.int fl), .val (.ref e), .val (.ref c), .val (.int i), .val (.int j), .val (.ref x), .val (.int (1 : Int32)), .val (.int (0 : Int32)), .unset, .unset, .unset, .unset] [(.int (0 : Int32))]
      refine N.istore C (pc' := 145) (ls' := #[.val (.int i0), .val (.int i1), .val (.int i2), .val (.int pick), .val (.int fl), .val (.ref e), .val (.ref c), .val (.int i), .val (.int j), .val (.ref x), .val (.int (1 : Int32)), .val (.int (0 : Int32)), .val (.int (0 : Int32)), .unset, .unset, .unset]) at_143 rfl rfl ?_
      refine N.iload C (pc' := 147) at_145 rfl rfl ?_
      refine N.ifc C (pt := 164) (pf := 150) at_147 rfl rfl (fun (q : (1 : Int32) = (0 : Int32)) => absurd q (by decide)) (fun _ => ?_)
      refine N.iload C (pc' := 152) at_150 rfl rfl ?_
      refine N.ifc C (pt := 164) (pf := 155) at_152 rfl rfl (fun (q : ¬ (0 : Int32) = (0 : Int32)) => absurd q (by decide)) (fun _ => ?_)
      refine N.iload C (pc' := 157) at_155 rfl rfl ?_
      refine N.ifc C (pt := 164) (pf := 160) at_157 rfl rfl (fun (q : ¬ (0 : Int32) = (0 : Int32)) => absurd q (by decide)) (fun _ => ?_)
      refine N.iconst C (pc' := 161) (z := 1) at_160 rfl rfl ?_
      refine N.goto C (pc' := 165) at_161 rfl ?_
      refine N.istore C (pc' := 167) (ls' := #[.val (.int i0), .val (.int i1), .val (.int i2), .val (.int pick), .val (.int fl), .val (.ref e), .val (.ref c), .val (.int i), .val (.int j), .val (.ref x), .val (.int (1 : Int32)), .val (.int (0 : Int32)), .val (.int (0 : Int32)), .val (.int (1 : Int32)), .unset, .unset]) at_165 rfl rfl ?_
      refine N.aload C (pc' := 169) at_167 rfl rfl rfl ?_
      refine N.callV C (pc' := 172) x [] at_169 (C.w (i := 55) rfl) (C.w (i := 56) rfl) (C.w (i := 58) rfl) (C.w (i := 57) rfl) (C.w (i := 4) rfl) (C.w (i := 59) rfl) (by decide) E_x (con_poll1 G hw x e c a p g _ _ h135_14 Z0 HQ) (lenOf pd___I rfl) rfl (by decide) (show 0 + (2 + 11) + _ ≤ _ from by decide) (by decide) (by decide) (rest := []) rfl rfl ?_
      rintro _ h169_16 ⟨rp10, rfl, ZP10, hsp10, psp10, HQ⟩
      have Z0 := ZP10
      have E_x := HQ.exa
      show N G K room_1 Q h169_16 ((((0 + 1) + 1) + 1) + 3) ((((0 + 3) + 3) + 8) + 9) 172 #[.val (.int i0), .val (.int i1), .val (.int i2), .val (.int pick), .val (.int fl), .val (.ref e), .val (.ref c), .val (.int i), .val (.int j), .val (.ref x), .val (.int (1 : Int32)), .val (.int (0 : Int32)), .val (.int (0 : Int32)), .val (.int (1 : Int32)), .unset, .unset] [(.int rp10)]
      refine N.pop C (pc' := 173) at_172 rfl rfl ?_
      refine N.aload C (pc' := 175) at_173 rfl rfl rfl ?_
      refine N.callV C (pc' := 178) x [] at_175 (C.w (i := 29) rfl) (C.w (i := 30) rfl) (C.w (i := 32) rfl) (C.w (i := 31) rfl) (C.w (i := 4) rfl) (C.w (i := 33) rfl) (by decide) E_x (con4 G hw x e c a p g 0 _ _ h169_16 HQ) (lenOf pd___Z rfl) rfl (by decide) (show 0 + (1 + 11) + _ ≤ _ from by decide) (by decide) (by decide) (rest := []) rfl rfl ?_
      rintro _ h175_17 ⟨ze11, rfl, rfl, hze11⟩
      have vze11 := own_z1 hze11 (by decide)
      subst vze11
      show N G K room_1 Q h169_16 ((((0 + 1) + 1) + 1) + 3) ((((0 + 3) + 3) + 8) + 9) 178 #[.val (.int i0), .val (.int i1), .val (.int i2), .val (.int pick), .val (.int fl), .val (.ref e), .val (.ref c), .val (.int i), .val (.int j), .val (.ref x), .val (.int (1 : Int32)), .val (.int (0 : Int32)), .val (.int (0 : Int32)), .val (.int (1 : Int32)), .unset, .unset] [(.int (1 : Int32))]
      refine N.istore C (pc' := 180) (ls' := #[.val (.int i0), .val (.int i1), .val (.int i2), .val (.int pick), .val (.int fl), .val (.ref e), .val (.ref c), .val (.int i), .val (.int j), .val (.ref x), .val (.int (1 : Int32)), .val (.int (0 : Int32)), .val (.int (0 : Int32)), .val (.int (1 : Int32)), .val (.int (1 : Int32)), .unset]) at_178 rfl rfl ?_
      refine N.iload C (pc' := 182) at_180 rfl rfl ?_
      refine N.iload C (pc' := 184) at_182 rfl rfl ?_
      refine N.icmp C (pt := 203) (pf := 187) at_184 rfl rfl (fun (hc184 : ¬ i = j) => absurd (show False from by exact hc184 hij.symm) id) (fun (hc184 : i = j) => ?_)
      refine N.iload C (pc' := 189) at_187 rfl rfl ?_
      refine N.ifc C (pt := 201) (pf := 192) at_189 rfl rfl (fun (q : (1 : Int32) = (0 : Int32)) => absurd q (by decide)) (fun _ => ?_)
      refine N.iload C (pc' := 194) at_192 rfl rfl ?_
      refine N.ifc C (pt := 201) (pf := 197) at_194 rfl rfl (fun (q : (1 : Int32) = (0 : Int32)) => absurd q (by decide)) (fun _ => ?_)
      refine N.iconst C (pc' := 198) (z := 1) at_197 rfl rfl ?_
      refine N.goto C (pc' := 202) at_198 rfl ?_
      exact N.retN C (by simp) (z' := (1 : Int32)) rfl at_202 (by decide) (by decide) (by subst hQ; exact rfl)
    · refine N.callV C (pc' := 138) x [(.int j)] at_135 (C.w (i := 36) rfl) (C.w (i := 37) rfl) (C.w (i := 39) rfl) (C.w (i := 38) rfl) (C.w (i := 4) rfl) (C.w (i := 40) rfl) (by decide) E_x (con_offA1 G hw x e c a p g j _ _ h121_12 hj ((hpo _ (fun q => hij (Int32.toInt_inj.mp (by omega)))).trans (hps _ (by omega))) Z0 HQ) (lenOf pd__I_V rfl) rfl (by decide) (show 0 + (2 + 11) + _ ≤ _ from by decide) (by decide) (by decide) (rest := []) rfl rfl ?_
      rintro _ h135_18 ⟨rfl, ZO, hs2, ps2, HQ⟩
      have Z0 := ZO
      have E_x := HQ.exa
      show N G K room_1 Q h135_18 ((((0 + 1) + 1) + 1) + 3) ((((0 + 3) + 3) + 8) + 9) 138 #[.val (.int i0), .val (.int i1), .val (.int i2), .val (.int pick), .val (.int fl), .val (.ref e), .val (.ref c), .val (.int i), .val (.int j), .val (.ref x), .val (.int (1 : Int32)), .val (.int (0 : Int32)), .unset, .unset, .unset, .unset] []
      refine N.aload C (pc' := 140) at_138 rfl rfl rfl ?_
      refine N.callV C (pc' := 143) x [] at_140 (C.w (i := 29) rfl) (C.w (i := 30) rfl) (C.w (i := 32) rfl) (C.w (i := 31) rfl) (C.w (i := 4) rfl) (C.w (i := 33) rfl) (by decide) E_x (con4 G hw x e c a p g 2 _ _ h135_18 HQ) (lenOf pd___Z rfl) rfl (by decide) (show 0 + (1 + 11) + _ ≤ _ from by decide) (by decide) (by decide) (rest := []) rfl rfl ?_
      rintro _ h140_19 ⟨ze12, rfl, rfl, hze12⟩
      have vze12 := own_z0 hze12 (by decide)
      subst vze12
      show N G K room_1 Q h135_18 ((((0 + 1) + 1) + 1) + 3) ((((0 + 3) + 3) + 8) + 9) 143 #[.val (.int i0), .val (.int i1), .val (.int i2), .val (.int pick), .val (.int fl), .val (.ref e), .val (.ref c), .val (.int i), .val (.int j), .val (.ref x), .val (.int (1 : Int32)), .val (.int (0 : Int32)), .unset, .unset, .unset, .unset] [(.int (0 : Int32))]
      refine N.istore C (pc' := 145) (ls' := #[.val (.int i0), .val (.int i1), .val (.int i2), .val (.int pick), .val (.int fl), .val (.ref e), .val (.ref c), .val (.int i), .val (.int j), .val (.ref x), .val (.int (1 : Int32)), .val (.int (0 : Int32)), .val (.int (0 : Int32)), .unset, .unset, .unset]) at_143 rfl rfl ?_
      refine N.iload C (pc' := 147) at_145 rfl rfl ?_
      refine N.ifc C (pt := 164) (pf := 150) at_147 rfl rfl (fun (q : (1 : Int32) = (0 : Int32)) => absurd q (by decide)) (fun _ => ?_)
      refine N.iload C (pc' := 152) at_150 rfl rfl ?_
      refine N.ifc C (pt := 164) (pf := 155) at_152 rfl rfl (fun (q : ¬ (0 : Int32) = (0 : Int32)) => absurd q (by decide)) (fun _ => ?_)
      refine N.iload C (pc' := 157) at_155 rfl rfl ?_
      refine N.ifc C (pt := 164) (pf := 160) at_157 rfl rfl (fun (q : ¬ (0 : Int32) = (0 : Int32)) => absurd q (by decide)) (fun _ => ?_)
      refine N.iconst C (pc' := 161) (z := 1) at_160 rfl rfl ?_
      refine N.goto C (pc' := 165) at_161 rfl ?_
      refine N.istore C (pc' := 167) (ls' := #[.val (.int i0), .val (.int i1), .val (.int i2), .val (.int pick), .val (.int fl), .val (.ref e), .val (.ref c), .val (.int i), .val (.int j), .val (.ref x), .val (.int (1 : Int32)), .val (.int (0 : Int32)), .val (.int (0 : Int32)), .val (.int (1 : Int32)), .unset, .unset]) at_165 rfl rfl ?_
      refine N.aload C (pc' := 169) at_167 rfl rfl rfl ?_
      refine N.callV C (pc' := 172) x [] at_169 (C.w (i := 55) rfl) (C.w (i := 56) rfl) (C.w (i := 58) rfl) (C.w (i := 57) rfl) (C.w (i := 4) rfl) (C.w (i := 59) rfl) (by decide) E_x (con_poll2 G hw x e c a p g _ _ h135_18 Z0 HQ) (lenOf pd___I rfl) rfl (by decide) (show 0 + (2 + 11) + _ ≤ _ from by decide) (by decide) (by decide) (rest := []) rfl rfl ?_
      rintro _ h169_20 ⟨rp13, rfl, ZP13, hsp13, psp13, HQ⟩
      have Z0 := ZP13
      have E_x := HQ.exa
      show N G K room_1 Q h169_20 ((((0 + 1) + 1) + 1) + 3) ((((0 + 3) + 3) + 8) + 9) 172 #[.val (.int i0), .val (.int i1), .val (.int i2), .val (.int pick), .val (.int fl), .val (.ref e), .val (.ref c), .val (.int i), .val (.int j), .val (.ref x), .val (.int (1 : Int32)), .val (.int (0 : Int32)), .val (.int (0 : Int32)), .val (.int (1 : Int32)), .unset, .unset] [(.int rp13)]
      refine N.pop C (pc' := 173) at_172 rfl rfl ?_
      refine N.aload C (pc' := 175) at_173 rfl rfl rfl ?_
      refine N.callV C (pc' := 178) x [] at_175 (C.w (i := 29) rfl) (C.w (i := 30) rfl) (C.w (i := 32) rfl) (C.w (i := 31) rfl) (C.w (i := 4) rfl) (C.w (i := 33) rfl) (by decide) E_x (con4 G hw x e c a p g 1 _ _ h169_20 HQ) (lenOf pd___Z rfl) rfl (by decide) (show 0 + (1 + 11) + _ ≤ _ from by decide) (by decide) (by decide) (rest := []) rfl rfl ?_
      rintro _ h175_21 ⟨ze14, rfl, rfl, hze14⟩
      have vze14 := own_z0 hze14 (by decide)
      subst vze14
      show N G K room_1 Q h169_20 ((((0 + 1) + 1) + 1) + 3) ((((0 + 3) + 3) + 8) + 9) 178 #[.val (.int i0), .val (.int i1), .val (.int i2), .val (.int pick), .val (.int fl), .val (.ref e), .val (.ref c), .val (.int i), .val (.int j), .val (.ref x), .val (.int (1 : Int32)), .val (.int (0 : Int32)), .val (.int (0 : Int32)), .val (.int (1 : Int32)), .unset, .unset] [(.int (0 : Int32))]
      refine N.istore C (pc' := 180) (ls' := #[.val (.int i0), .val (.int i1), .val (.int i2), .val (.int pick), .val (.int fl), .val (.ref e), .val (.ref c), .val (.int i), .val (.int j), .val (.ref x), .val (.int (1 : Int32)), .val (.int (0 : Int32)), .val (.int (0 : Int32)), .val (.int (1 : Int32)), .val (.int (0 : Int32)), .unset]) at_178 rfl rfl ?_
      refine N.iload C (pc' := 182) at_180 rfl rfl ?_
      refine N.iload C (pc' := 184) at_182 rfl rfl ?_
      refine N.icmp C (pt := 203) (pf := 187) at_184 rfl rfl (fun (hc184 : ¬ i = j) => ?_) (fun (hc184 : i = j) => absurd (show False from by exact hij hc184.symm) id)
      refine N.iload C (pc' := 205) at_203 rfl rfl ?_
      refine N.ifc C (pt := 217) (pf := 208) at_205 rfl rfl (fun (q : (1 : Int32) = (0 : Int32)) => absurd q (by decide)) (fun _ => ?_)
      refine N.iload C (pc' := 210) at_208 rfl rfl ?_
      refine N.ifc C (pt := 217) (pf := 213) at_210 rfl rfl (fun (q : ¬ (0 : Int32) = (0 : Int32)) => absurd q (by decide)) (fun _ => ?_)
      refine N.iconst C (pc' := 214) (z := 1) at_213 rfl rfl ?_
      refine N.goto C (pc' := 218) at_214 rfl ?_
      refine N.istore C (pc' := 220) (ls' := #[.val (.int i0), .val (.int i1), .val (.int i2), .val (.int pick), .val (.int fl), .val (.ref e), .val (.ref c), .val (.int i), .val (.int j), .val (.ref x), .val (.int (1 : Int32)), .val (.int (0 : Int32)), .val (.int (0 : Int32)), .val (.int (1 : Int32)), .val (.int (0 : Int32)), .unset]) at_218 rfl rfl ?_
      refine N.aload C (pc' := 222) at_220 rfl rfl rfl ?_
      refine N.callV C (pc' := 225) x [] at_222 (C.w (i := 55) rfl) (C.w (i := 56) rfl) (C.w (i := 58) rfl) (C.w (i := 57) rfl) (C.w (i := 4) rfl) (C.w (i := 59) rfl) (by decide) E_x (con_poll1 G hw x e c a p g _ _ h169_20 Z0 HQ) (lenOf pd___I rfl) rfl (by decide) (show 0 + (2 + 11) + _ ≤ _ from by decide) (by decide) (by decide) (rest := []) rfl rfl ?_
      rintro _ h222_22 ⟨rp15, rfl, ZP15, hsp15, psp15, HQ⟩
      have Z0 := ZP15
      have E_x := HQ.exa
      show N G K room_1 Q h222_22 ((((0 + 1) + 1) + 1) + 3) ((((0 + 3) + 3) + 8) + 9) 225 #[.val (.int i0), .val (.int i1), .val (.int i2), .val (.int pick), .val (.int fl), .val (.ref e), .val (.ref c), .val (.int i), .val (.int j), .val (.ref x), .val (.int (1 : Int32)), .val (.int (0 : Int32)), .val (.int (0 : Int32)), .val (.int (1 : Int32)), .val (.int (0 : Int32)), .unset] [(.int rp15)]
      refine N.pop C (pc' := 226) at_225 rfl rfl ?_
      refine N.aload C (pc' := 228) at_226 rfl rfl rfl ?_
      refine N.callV C (pc' := 231) x [] at_228 (C.w (i := 29) rfl) (C.w (i := 30) rfl) (C.w (i := 32) rfl) (C.w (i := 31) rfl) (C.w (i := 4) rfl) (C.w (i := 33) rfl) (by decide) E_x (con4 G hw x e c a p g 0 _ _ h222_22 HQ) (lenOf pd___Z rfl) rfl (by decide) (show 0 + (1 + 11) + _ ≤ _ from by decide) (by decide) (by decide) (rest := []) rfl rfl ?_
      rintro _ h228_23 ⟨ze16, rfl, rfl, hze16⟩
      have vze16 := own_z1 hze16 (by decide)
      subst vze16
      show N G K room_1 Q h222_22 ((((0 + 1) + 1) + 1) + 3) ((((0 + 3) + 3) + 8) + 9) 231 #[.val (.int i0), .val (.int i1), .val (.int i2), .val (.int pick), .val (.int fl), .val (.ref e), .val (.ref c), .val (.int i), .val (.int j), .val (.ref x), .val (.int (1 : Int32)), .val (.int (0 : Int32)), .val (.int (0 : Int32)), .val (.int (1 : Int32)), .val (.int (0 : Int32)), .unset] [(.int (1 : Int32))]
      refine N.istore C (pc' := 233) (ls' := #[.val (.int i0), .val (.int i1), .val (.int i2), .val (.int pick), .val (.int fl), .val (.ref e), .val (.ref c), .val (.int i), .val (.int j), .val (.ref x), .val (.int (1 : Int32)), .val (.int (0 : Int32)), .val (.int (0 : Int32)), .val (.int (1 : Int32)), .val (.int (0 : Int32)), .val (.int (1 : Int32))]) at_231 rfl rfl ?_
      refine N.iload C (pc' := 235) at_233 rfl rfl ?_
      refine N.ifc C (pt := 247) (pf := 238) at_235 rfl rfl (fun (q : (1 : Int32) = (0 : Int32)) => absurd q (by decide)) (fun _ => ?_)
      refine N.iload C (pc' := 240) at_238 rfl rfl ?_
      refine N.ifc C (pt := 247) (pf := 243) at_240 rfl rfl (fun (q : (1 : Int32) = (0 : Int32)) => absurd q (by decide)) (fun _ => ?_)
      refine N.iconst C (pc' := 244) (z := 1) at_243 rfl rfl ?_
      refine N.goto C (pc' := 248) at_244 rfl ?_
      exact N.retN C (by simp) (z' := (1 : Int32)) rfl at_248 (by decide) (by decide) (by subst hQ; exact rfl)
set_option maxRecDepth 65536 in
set_option maxHeartbeats 40000000 in
theorem comes_1 {Post : Tables → Env → Array Value → State → Outcome → State → Prop} (hpost : ∀ tb e args s v u, (limb_1_1.after args s (.returned v) u = true ∧ limb_1_2.after args s (.returned v) u = true ∧ True) → FrameEnd s (.returned v) u (Jvm.fieldLocs frame_1_writes args s ++ Jvm.arrayLocs frame_1_arrays args s ++ Jvm.staticLocs frame_1_statics s) 24 128 → Post tb e args s (.returned v) u) :
    ArmFor flags0 classFile x code maxLocals ret World_1 tables_1 room_1 Calls_1 rest_1 Pre_1 Post := by
  intro l hfl _ _ p e ha hc hk s m args below hf hA hF happ hP
  obtain ⟨hcalls, hrest, hpre⟩ := hP
  obtain ⟨-, -, -, hnamed, -, -, -, hat⟩ := (Spec.applies_iff hf).mp happ
  obtain ⟨hg, hn⟩ := and_e (Cond.before_iff.mp (show (Jvm.Cond.and given_1 narrow_1).before args s = true from hpre))
  obtain ⟨hcount, hrow⟩ := and_e hg
  obtain ⟨ha0, hrow⟩ := and_e hrow
  obtain ⟨ha1, hrow⟩ := and_e hrow
  obtain ⟨ha2, hrow⟩ := and_e hrow
  obtain ⟨ha3, hrow⟩ := and_e hrow
  have ha4 := hrow
  obtain ⟨w0, w1, w2, w3, w4, rfl⟩ : ∃ w0 w1 w2 w3 w4 : Value, args = #[w0, w1, w2, w3, w4] := by
    have hs : args.size = 5 := by simpa [Cond.value, given_1] using hcount
    obtain ⟨L⟩ := args
    match L, hs with
    | [w0, w1, w2, w3, w4], _ => exact ⟨w0, w1, w2, w3, w4, rfl⟩
  have hw := fun d (hd : d ∈ tables_1) => atoms_spec (ws := Jvm.Cond.code x code maxLocals ret :: tables_1) hat d (List.mem_cons_of_mem _ hd)
  have hfit : Fit s := fun {y c} hc i hi => by
    obtain ⟨ha, rfl⟩ := Array.getElem?_eq_some_iff.mp hc
    have q := List.all_eq_true.mp ((Array.all_eq_true_iff_forall_mem.mp hF) _ (Array.getElem_mem ha)) i (List.mem_range.mpr hi)
    simpa [Array.getElem?_eq_getElem hi] using q
  obtain ⟨i0, ei0⟩ := is_v ha0
  obtain rfl : w0 = (.int i0) := Option.some.inj ei0
  obtain ⟨i1, ei1⟩ := is_v ha1
  obtain rfl : w1 = (.int i1) := Option.some.inj ei1
  obtain ⟨i2, ei2⟩ := is_v ha2
  obtain rfl : w2 = (.int i2) := Option.some.inj ei2
  obtain ⟨i3, ei3⟩ := is_v ha3
  obtain rfl : w3 = (.int i3) := Option.some.inj ei3
  obtain ⟨i4, ei4⟩ := is_v ha4
  obtain rfl : w4 = (.int i4) := Option.some.inj ei4
  obtain ⟨n, o, h1, h2, h3, _, L, rfl, ⟨rfl, N⟩, hq⟩ := con0 (l, s, _, s.heap.size) hw i0 i1 i2 i3 i4 s.heap (Nat.le_refl _) tables_1 p e ha hc hk s m _ below hf ((Spec.applies_iff_loose hf).mp happ).1 ⟨rfl, State.Warmed39.refl s, rfl⟩ trivial
  refine ⟨n, _, h1, h2, h3, hpost _ _ _ _ _ _ ⟨Cond.after_iff.mpr rfl, Cond.after_iff.mpr (eq_i res_at (Term.int_eval (1)) rfl), trivial⟩ ⟨hq.1, hq.2.1, (hq.2.2.sift fun y hy => Or.inr (N y hy)).mono (by decide) (by decide)⟩⟩
theorem main_1_1 : Claimed_1_1 := comes_1 fun _ _ _ _ _ _ h hF => ⟨h.1, hF⟩
theorem main_1_2 : Claimed_1_2 := comes_1 fun _ _ _ _ _ _ h hF => ⟨h.2.1, hF⟩
end Jvm.Pilot.@@N@@
namespace Jvm.Pilot.@@N@@
open Jvm Jvm.ClassFile Sem Op Lib Jvm.Free Jvm.Stand Jvm.Pilot.@@N@@.Jvm.D
/-! MADE BY PROGRAM (witnessworld.py) out of the Statement's table words and the real class files: 12 classes; the members and pool entries that the words name. The judged class is class 1, her method 1. -/
namespace start1
open Jvm.ClassFile
def u (s : String) : CpInfo := .utf8 (stringToUtf16 s)
/-- a pool by its gaps: so many unusable entries, then the entry; so many at the end -/
def gap : Nat → List CpInfo → List CpInfo
  | 0, r => r
  | n + 1, r => .unusable :: gap n r
def poolList (es : List (Nat × CpInfo)) (last : Nat) : List CpInfo := es.foldr (fun e r => gap e.1 (e.2 :: r)) (gap last [])
def pool (es : List (Nat × CpInfo)) (last : Nat) : Array CpInfo := ⟨poolList es last⟩
def fileOf (pool : Array CpInfo) (this : Nat) (attrs : Array Attribute := #[]) (ms : Array MethodInfo := #[]) (fl : Nat := 33) (sup : Nat := 0) (ifs : Array Nat := #[]) (fds : Array FieldInfo := #[]) : ClassFile where
  minorVersion := 0
  majorVersion := 65
  constantPool := pool
  accessFlags := fl
  thisClass := this
  superClass := sup
  interfaces := ifs
  fields := fds
  methods := ms
  attributes := attrs
def plain (name : String) (sup : Option ClassId) : Class where
  name := name
  kind := .ordinary
  loader := none
  accessFlags := 33
  super := sup
  interfaces := #[]
  cf := none
  fields := #[]
  methods := #[]
  instanceTypes := #[]
  staticTypes := #[]
  resolved := #[]
  callSites := []
  init := .initialized
  statics := none
  mirror := none

def pool0 : Array CpInfo := pool [(5, u "<init>"), (0, u "()V"), (1, .class_ 10), (1, u "java/lang/Object")] 113

def k0c0 : Code := { maxStack := 0, maxLocals := 1, code := object_method_1_code, exceptionTable := #[], attributes := #[] }
def k0m0 : Method := { name := "<init>", desc := "()V", sig := { parameters := [], returnType := none }, accessFlags := 1, code := some k0c0 }
/-- java/lang/Object -/
def k0 : Class := { plain "java/lang/Object" none with
  accessFlags := 33
  interfaces := #[]
  cf := some (fileOf pool0 8 #[] #[{ accessFlags := 1, nameIndex := 5, descriptorIndex := 6, attributes := #[] }] 33 0 #[] #[])
  fields := #[]
  methods := #[k0m0]
  instanceTypes := #[]
  staticTypes := #[]
  resolved := Array.replicate 124 none
  statics := none }

def pool1 : Array CpInfo := pool [(2, .class_ 4), (1, u "java/lang/Object"), (0, u "<init>"), (0, u "()V"), (0, .integer 2147483647), (0, .class_ 9), (0, u "com/example/ravel/ravel/search/NodeHeap"), (0, .methodref 8 11), (0, .nameAndType 5 12), (0, u "([D[D)V"), (0, .methodref 8 14), (0, .nameAndType 15 16), (0, u "isEmpty"), (0, u "()Z"), (0, .methodref 8 18), (0, .nameAndType 19 20), (0, u "offer"), (0, u "(I)V"), (0, .methodref 8 22), (0, .nameAndType 23 24), (0, u "poll"), (0, u "()I"), (0, .class_ 26), (0, u "com/example/ravel/ravel/search/NodeHeapIsEmptyPinLaw"), (2, u "law"), (0, u "(IIIII)Z")] 5

def k1m0 : Method := { name := "<init>", desc := "()V", sig := { parameters := [], returnType := none }, accessFlags := 1, code := none }
def k1c1 : Code := { maxStack := 5, maxLocals := 16, code := code, exceptionTable := #[], attributes := #[] }
def k1m1 : Method := { name := "law", desc := "(IIIII)Z", sig := { parameters := [.int, .int, .int, .int, .int], returnType := some .boolean }, accessFlags := 9, code := some k1c1 }
/-- com/example/ravel/ravel/search/NodeHeapIsEmptyPinLaw -/
def k1 : Class := { plain "com/example/ravel/ravel/search/NodeHeapIsEmptyPinLaw" (some 0) with
  accessFlags := 49
  interfaces := #[]
  cf := some (fileOf pool1 25 #[] #[{ accessFlags := 1, nameIndex := 5, descriptorIndex := 6, attributes := #[] }, { accessFlags := 9, nameIndex := 29, descriptorIndex := 30, attributes := #[] }] 49 2 #[] #[])
  fields := #[]
  methods := #[k1m0, k1m1]
  instanceTypes := #[]
  staticTypes := #[]
  resolved := Array.replicate 36 none
  statics := none }

def pool2 : Array CpInfo := pool [(1, .methodref 2 3), (0, .class_ 4), (0, .nameAndType 5 6), (0, u "java/lang/Object"), (0, u "<init>"), (0, u "()V"), (0, .fieldref 8 9), (0, .class_ 10), (0, .nameAndType 11 12), (0, u "com/example/ravel/ravel/search/NodeHeap"), (0, u "estimate"), (0, u "[D"), (0, .fieldref 8 14), (0, .nameAndType 15 12), (0, u "cost"), (0, .fieldref 8 17), (0, .nameAndType 18 19), (0, u "guided"), (0, u "Z"), (0, .fieldref 8 21), (0, .nameAndType 22 23), (0, u "heap"), (0, u "[I"), (0, .fieldref 8 25), (0, .nameAndType 26 23), (0, u "place"), (0, .methodref 28 29), (0, .class_ 30), (0, .nameAndType 31 32), (0, u "java/util/Arrays"), (0, u "fill"), (0, u "([II)V"), (0, .fieldref 8 34), (0, .nameAndType 35 36), (0, u "given"), (0, u "[J"), (0, .fieldref 8 38), (0, .nameAndType 39 40), (0, u "size"), (0, u "I"), (0, .fieldref 8 42), (0, .nameAndType 43 44), (0, u "offers"), (0, u "J"), (0, .methodref 8 46), (0, .nameAndType 47 48), (0, u "up"), (0, u "(I)V"), (0, .methodref 8 50), (0, .nameAndType 51 52), (0, u "put"), (0, u "(II)V"), (0, .methodref 8 54), (0, .nameAndType 55 48), (0, u "down"), (0, .methodref 8 57), (0, .nameAndType 58 59), (0, u "before"), (0, u "(II)Z"), (0, .long 4), (7, u "([D[D)V"), (4, u "isEmpty"), (0, u "()Z"), (0, u "offer"), (0, u "poll"), (0, u "()I")] 2

def k2c0 : Code := { maxStack := 3, maxLocals := 3, code := prog_50_method_1_code, exceptionTable := #[], attributes := #[] }
def k2m0 : Method := { name := "<init>", desc := "([D[D)V", sig := { parameters := [(.array .double), (.array .double)], returnType := none }, accessFlags := 0, code := some k2c0 }
def k2c1 : Code := { maxStack := 1, maxLocals := 1, code := prog_50_method_2_code, exceptionTable := #[], attributes := #[] }
def k2m1 : Method := { name := "isEmpty", desc := "()Z", sig := { parameters := [], returnType := some .boolean }, accessFlags := 0, code := some k2c1 }
def k2c2 : Code := { maxStack := 9, maxLocals := 2, code := prog_50_method_3_code, exceptionTable := #[], attributes := #[] }
def k2m2 : Method := { name := "offer", desc := "(I)V", sig := { parameters := [.int], returnType := none }, accessFlags := 0, code := some k2c2 }
def k2c3 : Code := { maxStack := 3, maxLocals := 2, code := prog_50_method_4_code, exceptionTable := #[], attributes := #[] }
def k2m3 : Method := { name := "poll", desc := "()I", sig := { parameters := [], returnType := some .int }, accessFlags := 0, code := some k2c3 }
def k2c4 : Code := { maxStack := 4, maxLocals := 7, code := prog_50_method_5_code, exceptionTable := #[], attributes := #[] }
def k2m4 : Method := { name := "before", desc := "(II)Z", sig := { parameters := [.int, .int], returnType := some .boolean }, accessFlags := 2, code := some k2c4 }
def k2c5 : Code := { maxStack := 4, maxLocals := 4, code := prog_50_method_6_code, exceptionTable := #[], attributes := #[] }
def k2m5 : Method := { name := "up", desc := "(I)V", sig := { parameters := [.int], returnType := none }, accessFlags := 2, code := some k2c5 }
def k2c6 : Code := { maxStack := 4, maxLocals := 7, code := prog_50_method_7_code, exceptionTable := #[], attributes := #[] }
def k2m6 : Method := { name := "down", desc := "(I)V", sig := { parameters := [.int], returnType := none }, accessFlags := 2, code := some k2c6 }
def k2c7 : Code := { maxStack := 3, maxLocals := 3, code := prog_50_method_8_code, exceptionTable := #[], attributes := #[] }
def k2m7 : Method := { name := "put", desc := "(II)V", sig := { parameters := [.int, .int], returnType := none }, accessFlags := 2, code := some k2c7 }
/-- com/example/ravel/ravel/search/NodeHeap -/
def k2 : Class := { plain "com/example/ravel/ravel/search/NodeHeap" (some 0) with
  accessFlags := 48
  interfaces := #[]
  cf := some (fileOf pool2 8 #[] #[{ accessFlags := 0, nameIndex := 5, descriptorIndex := 68, attributes := #[] }, { accessFlags := 0, nameIndex := 73, descriptorIndex := 74, attributes := #[] }, { accessFlags := 0, nameIndex := 75, descriptorIndex := 48, attributes := #[] }, { accessFlags := 0, nameIndex := 76, descriptorIndex := 77, attributes := #[] }, { accessFlags := 2, nameIndex := 58, descriptorIndex := 59, attributes := #[] }, { accessFlags := 2, nameIndex := 47, descriptorIndex := 48, attributes := #[] }, { accessFlags := 2, nameIndex := 55, descriptorIndex := 48, attributes := #[] }, { accessFlags := 2, nameIndex := 51, descriptorIndex := 52, attributes := #[] }] 48 2 #[] #[{ accessFlags := 18, nameIndex := 11, descriptorIndex := 12, attributes := #[] }, { accessFlags := 18, nameIndex := 15, descriptorIndex := 12, attributes := #[] }, { accessFlags := 18, nameIndex := 18, descriptorIndex := 19, attributes := #[] }, { accessFlags := 18, nameIndex := 22, descriptorIndex := 23, attributes := #[] }, { accessFlags := 18, nameIndex := 26, descriptorIndex := 23, attributes := #[] }, { accessFlags := 18, nameIndex := 35, descriptorIndex := 36, attributes := #[] }, { accessFlags := 2, nameIndex := 43, descriptorIndex := 44, attributes := #[] }, { accessFlags := 2, nameIndex := 39, descriptorIndex := 40, attributes := #[] }])
  fields := #[{ name := "estimate", type := (.array .double), accessFlags := 18, slot := 0, constantValue := 0 }, { name := "cost", type := (.array .double), accessFlags := 18, slot := 1, constantValue := 0 }, { name := "guided", type := .boolean, accessFlags := 18, slot := 2, constantValue := 0 }, { name := "heap", type := (.array .int), accessFlags := 18, slot := 3, constantValue := 0 }, { name := "place", type := (.array .int), accessFlags := 18, slot := 4, constantValue := 0 }, { name := "given", type := (.array .long), accessFlags := 18, slot := 5, constantValue := 0 }, { name := "offers", type := .long, accessFlags := 2, slot := 6, constantValue := 0 }, { name := "size", type := .int, accessFlags := 2, slot := 7, constantValue := 0 }]
  methods := #[k2m0, k2m1, k2m2, k2m3, k2m4, k2m5, k2m6, k2m7]
  instanceTypes := #[(.array .double), (.array .double), .boolean, (.array .int), (.array .int), (.array .long), .long, .int]
  staticTypes := #[]
  resolved := Array.replicate 80 none
  statics := none }

def pool3 : Array CpInfo := pool [(2, .class_ 4), (1, u "java/lang/Object"), (0, u "<init>"), (0, u "()V"), (7, .class_ 16), (1, u "java/util/Arrays"), (57, .class_ 76), (1, u "java/util/Arrays$NaturalOrder"), (36, .class_ 115), (1, u "java/util/Arrays$LegacyMergeSort"), (1, u "Z"), (257, .class_ 376), (0, u "java/util/Arrays$ArrayList"), (68, u "$assertionsDisabled"), (269, u "MIN_ARRAY_SORT_GRAN"), (0, u "I"), (2, u "INSERTIONSORT_THRESHOLD"), (120, u "fill"), (4, u "([II)V"), (129, .class_ 976), (0, u "java/util/Arrays$ArrayItr")] 52

def k3m0 : Method := { name := "<init>", desc := "()V", sig := { parameters := [], returnType := none }, accessFlags := 2, code := none }
def k3c1 : Code := { maxStack := 3, maxLocals := 4, code := jdk_65_method_103_code, exceptionTable := #[], attributes := #[] }
def k3m1 : Method := { name := "fill", desc := "([II)V", sig := { parameters := [(.array .int), .int], returnType := none }, accessFlags := 9, code := some k3c1 }
/-- java/util/Arrays -/
def k3 : Class := { plain "java/util/Arrays" (some 0) with
  accessFlags := 49
  interfaces := #[]
  cf := some (fileOf pool3 14 #[.nestMembers #[975, 375, 113, 74]] #[{ accessFlags := 2, nameIndex := 5, descriptorIndex := 6, attributes := #[] }, { accessFlags := 9, nameIndex := 840, descriptorIndex := 845, attributes := #[] }] 49 2 #[] #[{ accessFlags := 26, nameIndex := 715, descriptorIndex := 716, attributes := #[] }, { accessFlags := 26, nameIndex := 719, descriptorIndex := 716, attributes := #[] }, { accessFlags := 4120, nameIndex := 445, descriptorIndex := 117, attributes := #[] }])
  fields := #[{ name := "MIN_ARRAY_SORT_GRAN", type := .int, accessFlags := 26, slot := 0, constantValue := 0 }, { name := "INSERTIONSORT_THRESHOLD", type := .int, accessFlags := 26, slot := 1, constantValue := 0 }, { name := "$assertionsDisabled", type := .boolean, accessFlags := 4120, slot := 2, constantValue := 0 }]
  methods := #[k3m0, k3m1]
  instanceTypes := #[]
  staticTypes := #[.int, .int, .boolean]
  resolved := Array.replicate 1029 none
  statics := none }

def pool4 : Array CpInfo := pool [(1, u "java/lang/Cloneable"), (0, .class_ 1), (0, u "java/lang/Object"), (0, .class_ 3)] 3

/-- java/lang/Cloneable -/
def k4 : Class := { plain "java/lang/Cloneable" (some 0) with
  accessFlags := 1537
  interfaces := #[]
  cf := some (fileOf pool4 2 #[] #[] 1537 4 #[] #[])
  fields := #[]
  methods := #[]
  instanceTypes := #[]
  staticTypes := #[]
  resolved := Array.replicate 8 none
  statics := none }

def pool5 : Array CpInfo := pool [(1, u "java/io/Serializable"), (0, .class_ 1), (0, u "java/lang/Object"), (0, .class_ 3)] 3

/-- java/io/Serializable -/
def k5 : Class := { plain "java/io/Serializable" (some 0) with
  accessFlags := 1537
  interfaces := #[]
  cf := some (fileOf pool5 2 #[] #[] 1537 4 #[] #[])
  fields := #[]
  methods := #[]
  instanceTypes := #[]
  staticTypes := #[]
  resolved := Array.replicate 8 none
  statics := none }

/-- the primitive byte -/
def k6 : Class := { plain "byte" none with kind := .primitive 'B', accessFlags := 0x411 }
/-- [B -/
def k7 : Class := { plain "[B" (some 0) with kind := .array 6 .byte, interfaces := #[4, 5], accessFlags := 1041 }

/-- the primitive int -/
def k8 : Class := { plain "int" none with kind := .primitive 'I', accessFlags := 0x411 }
/-- [I -/
def k9 : Class := { plain "[I" (some 0) with kind := .array 8 .int, interfaces := #[4, 5], accessFlags := 1041 }

/-- the primitive long -/
def k10 : Class := { plain "long" none with kind := .primitive 'J', accessFlags := 0x411 }
/-- [J -/
def k11 : Class := { plain "[J" (some 0) with kind := .array 10 .long, interfaces := #[4, 5], accessFlags := 1041 }

/-- the primitive double -/
def k12 : Class := { plain "double" none with kind := .primitive 'D', accessFlags := 0x411 }
/-- [D -/
def k13 : Class := { plain "[D" (some 0) with kind := .array 12 .double, interfaces := #[4, 5], accessFlags := 1041 }

def heap : Heap := #[]
def classes : Array Class := #[k0, k1, k2, k3, k4, k5, k6, k7, k8, k9, k10, k11, k12, k13]
def interned : List (Array UInt16 × Addr) := []
def slotsUsed : Nat := 0
def theMethod : MethodId := ⟨1, 1⟩
def args0 : Array Value := #[.int 5, .int 6, .int 7, .int 1, .int 2]
def aboutOver (below : List Frame) : State where
  vm := { classes := classes, interned := interned.toArray }
  heap := heap
  slotsUsed := slotsUsed
  threads := #[{ frames := .invoking theMethod args0 :: below }]
def below0 : List Frame := [.native { method := ⟨0, 0⟩, args := #[] }]
def about1 : State := aboutOver below0
def p0 : Program := .bare "" "" ""
def e0 : Env := launch0.env 0 0 0
theorem w_frames : about1.frames = Frame.invoking theMethod args0 :: below0 := rfl
set_option maxRecDepth 65536 in
theorem w_args : argsFit about1.vm theMethod args0 = true := by decide +kernel
set_option maxRecDepth 65536 in
theorem w_heap : heapFits about1 = true := by decide +kernel
set_option maxRecDepth 65536 in
theorem w_runnable : about1.curStatus? = some .runnable := by decide +kernel
set_option maxRecDepth 65536 in
theorem w_alone : about1.alone = true := by decide +kernel
set_option maxRecDepth 65536 in
theorem w_named : about1.methodNamed? x = some theMethod := by decide +kernel
set_option maxRecDepth 65536 in
theorem w_hears : about1.hears theMethod below0 = true := by decide +kernel
set_option maxRecDepth 65536 in
theorem w_ripe : about1.ripe theMethod args0 below0 = true := by decide +kernel
theorem w_running : about1.status = .running := rfl
set_option maxRecDepth 65536 in
theorem w_room : about1.hasRoom e0.platform room_1 = true :=
  launch0.hasRoom_least _ room_1 (by decide +kernel) (by decide +kernel) (by decide +kernel) (by decide +kernel) (by decide +kernel) (by decide +kernel)
theorem allAtoms_all (ts : List Jvm.Cond) (a : Array Jvm.Value) (st : Jvm.State) : (allAtoms ts).before a st = ts.all (fun c => c.before a st) := by
  induction ts with
  | nil => rfl
  | cons c t ih =>
    show (Jvm.Cond.and c (allAtoms t)).before a st = _
    rw [Jvm.Cond.before_and, ih, List.all_cons]
def words1 : List Jvm.Cond := Jvm.Cond.code x code maxLocals ret :: tables_1
/-- a 'code' word, met by the world's own term for the bytes: nothing is compared byte by byte -/
theorem code_word {y : MethodName} {bytes : ByteArray} {mx : Nat} {rt : Option FieldType} {a : Array Value} {s : State} {m : MethodId} {meth : Method} {c : Code} (h1 : s.methodNamed? y = some m) (h2 : s.vm.method? m = some meth) (h3 : meth.code = some c) (h4 : c.code = bytes)
    (h5 : (c.maxLocals == mx && c.exceptionTable.isEmpty && decide (c.maxStack ≤ mostOperands) && decide (meth.sig.returnType = rt) && !meth.locks && decide (parseMethodDescriptor y.desc = some meth.sig)) = true) : (Jvm.Cond.code y bytes mx rt).before a s = true := by
  simp only [Bool.and_eq_true, beq_iff_eq, Bool.not_eq_true', decide_eq_true_eq] at h5
  obtain ⟨⟨⟨⟨⟨g1, g2⟩, g3⟩, g4⟩, g5⟩, g6⟩ := h5
  simp [Cond.before, Cond.holds, Cond.value, h1, h2, h3, h4, g1, g2, g3, g4, g5, g6]
def isCode : Jvm.Cond → Bool
  | .code _ _ _ _ => true
  | _ => false
theorem all_split {L : List Jvm.Cond} {P : Jvm.Cond → Bool} (h1 : L.all (fun c => isCode c || P c) = true) (h2 : ∀ c ∈ L.filter isCode, P c = true) : L.all P = true := by
  refine List.all_eq_true.mpr fun c hc => ?_
  have h := List.all_eq_true.mp h1 c hc
  rcases Bool.eq_false_or_eq_true (isCode c) with hi | hi
  · exact h2 c (List.mem_filter.mpr ⟨hc, hi⟩)
  · simpa [hi] using h
set_option maxRecDepth 65536 in
theorem w_c0 : (Jvm.Cond.code x code maxLocals ret).before args0 about1 = true := code_word (m := ⟨1, 1⟩) (meth := k1m1) (c := k1c1) (by decide +kernel) rfl rfl rfl (by decide +kernel)
set_option maxRecDepth 65536 in
theorem w_c1 : (Jvm.Cond.code ({ cls := "com/example/ravel/ravel/search/NodeHeap", name := "<init>", desc := "([D[D)V" } : Jvm.MethodName) prog_50_method_1_code (3 : Nat) (Option.none : Option Jvm.ClassFile.FieldType)).before args0 about1 = true := code_word (m := ⟨2, 0⟩) (meth := k2m0) (c := k2c0) (by decide +kernel) rfl rfl rfl (by decide +kernel)
set_option maxRecDepth 65536 in
theorem w_c2 : (Jvm.Cond.code ({ cls := "java/lang/Object", name := "<init>", desc := "()V" } : Jvm.MethodName) object_method_1_code (1 : Nat) (Option.none : Option Jvm.ClassFile.FieldType)).before args0 about1 = true := code_word (m := ⟨0, 0⟩) (meth := k0m0) (c := k0c0) (by decide +kernel) rfl rfl rfl (by decide +kernel)
set_option maxRecDepth 65536 in
theorem w_c3 : (Jvm.Cond.code ({ cls := "java/util/Arrays", name := "fill", desc := "([II)V" } : Jvm.MethodName) jdk_65_method_103_code (4 : Nat) (Option.none : Option Jvm.ClassFile.FieldType)).before args0 about1 = true := code_word (m := ⟨3, 1⟩) (meth := k3m1) (c := k3c1) (by decide +kernel) rfl rfl rfl (by decide +kernel)
set_option maxRecDepth 65536 in
theorem w_c4 : (Jvm.Cond.code ({ cls := "com/example/ravel/ravel/search/NodeHeap", name := "isEmpty", desc := "()Z" } : Jvm.MethodName) prog_50_method_2_code (1 : Nat) (Option.some Jvm.ClassFile.FieldType.boolean)).before args0 about1 = true := code_word (m := ⟨2, 1⟩) (meth := k2m1) (c := k2c1) (by decide +kernel) rfl rfl rfl (by decide +kernel)
set_option maxRecDepth 65536 in
theorem w_c5 : (Jvm.Cond.code ({ cls := "com/example/ravel/ravel/search/NodeHeap", name := "offer", desc := "(I)V" } : Jvm.MethodName) prog_50_method_3_code (2 : Nat) (Option.none : Option Jvm.ClassFile.FieldType)).before args0 about1 = true := code_word (m := ⟨2, 2⟩) (meth := k2m2) (c := k2c2) (by decide +kernel) rfl rfl rfl (by decide +kernel)
set_option maxRecDepth 65536 in
theorem w_c6 : (Jvm.Cond.code ({ cls := "com/example/ravel/ravel/search/NodeHeap", name := "up", desc := "(I)V" } : Jvm.MethodName) prog_50_method_6_code (4 : Nat) (Option.none : Option Jvm.ClassFile.FieldType)).before args0 about1 = true := code_word (m := ⟨2, 5⟩) (meth := k2m5) (c := k2c5) (by decide +kernel) rfl rfl rfl (by decide +kernel)
set_option maxRecDepth 65536 in
theorem w_c7 : (Jvm.Cond.code ({ cls := "com/example/ravel/ravel/search/NodeHeap", name := "put", desc := "(II)V" } : Jvm.MethodName) prog_50_method_8_code (3 : Nat) (Option.none : Option Jvm.ClassFile.FieldType)).before args0 about1 = true := code_word (m := ⟨2, 7⟩) (meth := k2m7) (c := k2c7) (by decide +kernel) rfl rfl rfl (by decide +kernel)
set_option maxRecDepth 65536 in
theorem w_c8 : (Jvm.Cond.code ({ cls := "com/example/ravel/ravel/search/NodeHeap", name := "before", desc := "(II)Z" } : Jvm.MethodName) prog_50_method_5_code (7 : Nat) (Option.some Jvm.ClassFile.FieldType.boolean)).before args0 about1 = true := code_word (m := ⟨2, 4⟩) (meth := k2m4) (c := k2c4) (by decide +kernel) rfl rfl rfl (by decide +kernel)
set_option maxRecDepth 65536 in
theorem w_c9 : (Jvm.Cond.code ({ cls := "com/example/ravel/ravel/search/NodeHeap", name := "poll", desc := "()I" } : Jvm.MethodName) prog_50_method_4_code (2 : Nat) (Option.some Jvm.ClassFile.FieldType.int)).before args0 about1 = true := code_word (m := ⟨2, 3⟩) (meth := k2m3) (c := k2c3) (by decide +kernel) rfl rfl rfl (by decide +kernel)
set_option maxRecDepth 65536 in
theorem w_c10 : (Jvm.Cond.code ({ cls := "com/example/ravel/ravel/search/NodeHeap", name := "down", desc := "(I)V" } : Jvm.MethodName) prog_50_method_7_code (7 : Nat) (Option.none : Option Jvm.ClassFile.FieldType)).before args0 about1 = true := code_word (m := ⟨2, 6⟩) (meth := k2m6) (c := k2c6) (by decide +kernel) rfl rfl rfl (by decide +kernel)
def codes1 : List Jvm.Cond := [Jvm.Cond.code x code maxLocals ret, Jvm.Cond.code ({ cls := "com/example/ravel/ravel/search/NodeHeap", name := "<init>", desc := "([D[D)V" } : Jvm.MethodName) prog_50_method_1_code (3 : Nat) (Option.none : Option Jvm.ClassFile.FieldType), Jvm.Cond.code ({ cls := "java/lang/Object", name := "<init>", desc := "()V" } : Jvm.MethodName) object_method_1_code (1 : Nat) (Option.none : Option Jvm.ClassFile.FieldType), Jvm.Cond.code ({ cls := "java/util/Arrays", name := "fill", desc := "([II)V" } : Jvm.MethodName) jdk_65_method_103_code (4 : Nat) (Option.none : Option Jvm.ClassFile.FieldType), Jvm.Cond.code ({ cls := "com/example/ravel/ravel/search/NodeHeap", name := "isEmpty", desc := "()Z" } : Jvm.MethodName) prog_50_method_2_code (1 : Nat) (Option.some Jvm.ClassFile.FieldType.boolean), Jvm.Cond.code ({ cls := "com/example/ravel/ravel/search/NodeHeap", name := "offer", desc := "(I)V" } : Jvm.MethodName) prog_50_method_3_code (2 : Nat) (Option.none : Option Jvm.ClassFile.FieldType), Jvm.Cond.code ({ cls := "com/example/ravel/ravel/search/NodeHeap", name := "up", desc := "(I)V" } : Jvm.MethodName) prog_50_method_6_code (4 : Nat) (Option.none : Option Jvm.ClassFile.FieldType), Jvm.Cond.code ({ cls := "com/example/ravel/ravel/search/NodeHeap", name := "put", desc := "(II)V" } : Jvm.MethodName) prog_50_method_8_code (3 : Nat) (Option.none : Option Jvm.ClassFile.FieldType), Jvm.Cond.code ({ cls := "com/example/ravel/ravel/search/NodeHeap", name := "before", desc := "(II)Z" } : Jvm.MethodName) prog_50_method_5_code (7 : Nat) (Option.some Jvm.ClassFile.FieldType.boolean), Jvm.Cond.code ({ cls := "com/example/ravel/ravel/search/NodeHeap", name := "poll", desc := "()I" } : Jvm.MethodName) prog_50_method_4_code (2 : Nat) (Option.some Jvm.ClassFile.FieldType.int), Jvm.Cond.code ({ cls := "com/example/ravel/ravel/search/NodeHeap", name := "down", desc := "(I)V" } : Jvm.MethodName) prog_50_method_7_code (7 : Nat) (Option.none : Option Jvm.ClassFile.FieldType)]
set_option maxRecDepth 65536 in
theorem codes_eq : words1.filter isCode = codes1 := rfl
theorem w_codes : ∀ c ∈ words1.filter isCode, c.before args0 about1 = true := by
  rw [codes_eq]
  intro c hc
  simp only [codes1, List.mem_cons, List.not_mem_nil, or_false] at hc
  rcases hc with rfl | rfl | rfl | rfl | rfl | rfl | rfl | rfl | rfl | rfl | rfl
  · exact w_c0
  · exact w_c1
  · exact w_c2
  · exact w_c3
  · exact w_c4
  · exact w_c5
  · exact w_c6
  · exact w_c7
  · exact w_c8
  · exact w_c9
  · exact w_c10
set_option maxRecDepth 65536 in
theorem w_t1 : (words1.take 24).all (fun c => isCode c || c.before args0 about1) = true := by decide +kernel
set_option maxRecDepth 65536 in
theorem w_t2 : ((words1.drop 24).take 24).all (fun c => isCode c || c.before args0 about1) = true := by decide +kernel
set_option maxRecDepth 65536 in
theorem w_t3 : ((words1.drop 24).drop 24).all (fun c => isCode c || c.before args0 about1) = true := by decide +kernel
theorem w_tables : (allAtoms (Jvm.Cond.code x code maxLocals ret :: tables_1)).before args0 about1 = true := by
  rw [allAtoms_all]
  show words1.all (fun c => c.before args0 about1) = true
  refine all_split ?_ w_codes
  rw [← List.take_append_drop 24 words1, List.all_append, w_t1, ← List.take_append_drop 24 (words1.drop 24), List.all_append, w_t2, w_t3]
  rfl
set_option maxRecDepth 65536 in
theorem w_case : (Jvm.Cond.and given_1 narrow_1).before args0 about1 = true := by decide +kernel
theorem w_applies : (headSpec (Jvm.Cond.code x code maxLocals ret :: tables_1) room_1).applies x e0.platform about1 = true :=
  (Spec.applies_iff w_frames).mpr ⟨w_running, w_runnable, w_alone, w_named, w_hears, w_ripe, w_room, w_tables⟩
theorem atStart : AtStart classFile x code maxLocals ret World_1 tables_1 room_1 Calls_1 rest_1 Pre_1 launch0 p0 e0 about1 theMethod args0 below0 :=
  ⟨lists_1, trivial, launch0.admits_env _ _ _, launch0.least_env, fairChoices_fair.cas, fairChoices_fair.clock, w_frames, w_args, w_heap, w_applies, trivial, trivial, w_case⟩
end start1
theorem witness_1 : WitnessClaimed_1 := ⟨start1.p0, start1.e0, start1.about1, start1.theMethod, start1.args0, start1.below0, start1.atStart⟩
end Jvm.Pilot.@@N@@
