import JvmDerived
import JvmDerived.Pilot.@@N@@Statement
import JvmDerived.Pilot.@@N@@Code
set_option linter.unusedVariables false
set_option linter.unusedSimpArgs false
@@BLOCK:HandJ.lean.txt@@
@@BLOCK:SymMore.lean.txt@@
namespace Jvm.OwnKit
open Sem ClassFile Op Lib Jvm.Stand Jvm.Free Jvm.LawKit Jvm.RoadKit
/-- what is fixed in the whole proof: the launch, the start (whose tables the words speak of), its arguments, the least new address -/
abbrev Gx := Launch × State × Array Value × Nat
abbrev Gx.l (G : Gx) : Launch := G.1
abbrev Gx.Z (G : Gx) : State := G.2.1
abbrev Gx.a0 (G : Gx) : Array Value := G.2.2.1
abbrev Gx.n0 (G : Gx) : Nat := G.2.2.2
/-- what is fixed in one body's walk -/
abbrev Kx := Program × Env × State × MethodId × Array Value × List Frame × Method × Code
abbrev Kx.p (K : Kx) : Program := K.1
abbrev Kx.e (K : Kx) : Env := K.2.1
abbrev Kx.s (K : Kx) : State := K.2.2.1
abbrev Kx.m (K : Kx) : MethodId := K.2.2.2.1
abbrev Kx.args (K : Kx) : Array Value := K.2.2.2.2.1
abbrev Kx.below (K : Kx) : List Frame := K.2.2.2.2.2.1
abbrev Kx.meth (K : Kx) : Method := K.2.2.2.2.2.2.1
abbrev Kx.c (K : Kx) : Code := K.2.2.2.2.2.2.2
def Cx (G : Gx) (K : Kx) (own nm : String) (bytes : ByteArray) (maxL : Nat) (ret : Option FieldType) (W : List Jvm.Cond) : Prop :=
  K.p.tables.exec = Jvm.exec ∧ G.Z.Warmed39 K.s.vm ∧ K.c.code = bytes ∧ K.c.maxLocals = maxL ∧ K.s.vm.findClass own = some K.m.cls ∧ K.meth.name = nm ∧ K.meth.sig.returnType = ret ∧ K.meth.locks = false ∧ ∀ d ∈ W, d.before G.a0 G.Z = true
section Cxs
variable {G : Gx} {K : Kx} {own nm : String} {bytes : ByteArray} {maxL : Nat} {ret : Option FieldType} {W : List Jvm.Cond}
theorem Cx.hx (C : Cx G K own nm bytes maxL ret W) : K.p.tables.exec = Jvm.exec := C.1
theorem Cx.hZ (C : Cx G K own nm bytes maxL ret W) : G.Z.Warmed39 K.s.vm := C.2.1
theorem Cx.by (C : Cx G K own nm bytes maxL ret W) : K.c.code = bytes := C.2.2.1
theorem Cx.ml (C : Cx G K own nm bytes maxL ret W) : K.c.maxLocals = maxL := C.2.2.2.1
theorem Cx.ow (C : Cx G K own nm bytes maxL ret W) : K.s.vm.findClass own = some K.m.cls := C.2.2.2.2.1
theorem Cx.name (C : Cx G K own nm bytes maxL ret W) : K.meth.name = nm := C.2.2.2.2.2.1
theorem Cx.rt (C : Cx G K own nm bytes maxL ret W) : K.meth.sig.returnType = ret := C.2.2.2.2.2.2.1
theorem Cx.lk (C : Cx G K own nm bytes maxL ret W) : K.meth.locks = false := C.2.2.2.2.2.2.2.1
theorem Cx.w (C : Cx G K own nm bytes maxL ret W) {i : Nat} {d : Jvm.Cond} (h : W[i]? = some d) : d.before G.a0 G.Z = true := C.2.2.2.2.2.2.2.2 d (List.mem_of_getElem? h)
end Cxs
/-- the run stands in this body at pc with these locals and this stack, over the heap h, having made so many cells and slots: it ends as Q says -/
def N (G : Gx) (K : Kx) (rm : Room) (Q : Option Value → Heap → Prop) (h : Heap) (cells slots pc : Nat) (ls : Array Slot) (st : List Value) : Prop :=
  ∀ (T : State) (locs : List Loc), Stand K.p G.l K.e rm K.s K.m K.args K.below K.meth K.c T locs cells slots → T.heap = h → Fr G.n0 locs →
    ∃ s₂ o, Steps K.p.tables K.e K.below (T.setTop (mkF K.m pc ls st)) s₂ ∧ s₂.status = .running ∧ Ended s₂ K.below o ∧ ∃ v L, o = .returned v ∧ (Q v s₂.heap ∧ Fr G.n0 L) ∧ FrameEnd K.s o s₂ L rm.cells rm.slots
/-- a body's contract -/
def Con (G : Gx) (y : MethodName) (bytes : ByteArray) (maxL : Nat) (ret : Option FieldType) (rm : Room) (as : Array Value) (h : Heap) (Q : Option Value → Heap → Prop) : Prop :=
  ∀ ws : List Jvm.Cond, MetFree G.l y (head1 (Jvm.Cond.code y bytes maxL ret :: ws) rm) (fun a U => a = as ∧ G.Z.Warmed39 U.vm ∧ U.heap = h) (fun _ _ _ _ _ => True) (fun _ U o U' => ∃ v L, o = .returned v ∧ (Q v U'.heap ∧ Fr G.n0 L) ∧ FrameEnd U o U' L rm.cells rm.slots)
theorem Con.of {G : Gx} {y : MethodName} {bytes : ByteArray} {maxL : Nat} {ret : Option FieldType} {rm : Room} {as : Array Value} {h : Heap} {Q : Option Value → Heap → Prop} {W : List Jvm.Cond} {ls : Array Slot} (hpl : plainFor y = true) (hW : ∀ d ∈ W, d.before G.a0 G.Z = true)
    (he : ∀ m, entryFrame m as maxL = mkF m 0 ls []) (body : ∀ K : Kx, Cx G K y.cls y.name bytes maxL ret W → N G K rm Q h 0 0 0 ls []) : Con G y bytes maxL ret rm as h Q := fun ws => by
  refine MetFree.of_bodySF hpl hisR ?_
  intro p e s m args below meth c s₁ Bd hml hP hK
  obtain ⟨rfl, hZ, hh⟩ := hP
  have X0 : Stand p G.l e rm s m args below meth c s₁ [] 0 0 := Stand.of_body Bd
  obtain ⟨s₂, o, h1, h2, h3, h4⟩ := body (p, e, s, m, args, below, meth, c) ⟨Bd.exec, hZ, Bd.bytes, hml, findClass_of_methodNamed Bd.named, (name_of_methodNamed Bd.named Bd.method).1, Bd.returns, BodyLoose.notSynchronized Bd, hW⟩ s₁ [] X0 (by rw [← hh, Bd.state]; rfl) (Fr.nil _)
  exact ⟨s₂, o, castTop (he m) h1, h2, h3, h4⟩
theorem Con.mono {G : Gx} {y : MethodName} {bytes : ByteArray} {maxL : Nat} {ret : Option FieldType} {rm : Room} {as : Array Value} {h : Heap} {Q Q' : Option Value → Heap → Prop} (M : Con G y bytes maxL ret rm as h Q) (f : ∀ v h', Q v h' → Q' v h') : Con G y bytes maxL ret rm as h Q' := fun ws p e ha hc hk s m args below hf happ hP hK => by
  obtain ⟨n, o, h1, h2, h3, v, L, h4, ⟨h5, h6⟩, h7⟩ := M ws p e ha hc hk s m args below hf happ hP hK
  exact ⟨n, o, h1, h2, h3, v, L, h4, ⟨f _ _ h5, h6⟩, h7⟩
def cmpP : ClassFile.Cond → Int32 → Int32 → Prop
  | .eq, x, y => x = y
  | .ne, x, y => ¬ x = y
  | .lt, x, y => x.toInt < y.toInt
  | .ge, x, y => y.toInt ≤ x.toInt
  | .gt, x, y => y.toInt < x.toInt
  | .le, x, y => x.toInt ≤ y.toInt
def cmpN : ClassFile.Cond → Int32 → Int32 → Prop
  | .eq, x, y => ¬ x = y
  | .ne, x, y => x = y
  | .lt, x, y => y.toInt ≤ x.toInt
  | .ge, x, y => x.toInt < y.toInt
  | .gt, x, y => x.toInt ≤ y.toInt
  | .le, x, y => y.toInt < x.toInt
theorem cmp_or (cd : ClassFile.Cond) (x y : Int32) : (if_icmp.holds cd x y = true ∧ cmpP cd x y) ∨ (if_icmp.holds cd x y = false ∧ cmpN cd x y) := by
  have e1 := @Int32.lt_iff_toInt_lt x y
  have e2 := @Int32.lt_iff_toInt_lt y x
  by_cases h1 : x < y
  · obtain ⟨a1, a2, a3, a4⟩ := tlt h1
    have q := e1.mp h1
    have n : ¬ x = y := fun e => by subst e; omega
    obtain ⟨b1, b2⟩ := feq n
    have n' : ¬ y < x := fun z => by have := e2.mp z; omega
    obtain ⟨c1, c2, c3, c4⟩ := flt n'
    cases cd <;> simp only [cmpP, cmpN] <;> simp_all <;> omega
  · obtain ⟨a1, a2, a3, a4⟩ := flt h1
    have q : ¬ x.toInt < y.toInt := fun z => h1 (e1.mpr z)
    by_cases h2 : x = y
    · obtain ⟨b1, b2⟩ := teq h2
      subst h2
      obtain ⟨c1, c2, c3, c4⟩ := flt h1
      cases cd <;> simp only [cmpP, cmpN] <;> simp_all
    · obtain ⟨b1, b2⟩ := feq h2
      have q2 : ¬ x.toInt = y.toInt := fun z => h2 (Int32.toInt_inj.mp z)
      obtain ⟨c1, c2, c3, c4⟩ := tlt (e2.mpr (by omega : y.toInt < x.toInt))
      cases cd <;> simp only [cmpP, cmpN] <;> simp_all <;> omega
def cmpPL : ClassFile.Cond → Int64 → Int64 → Prop
  | .eq, x, y => x = y
  | .ne, x, y => ¬ x = y
  | .lt, x, y => x.toInt < y.toInt
  | .ge, x, y => y.toInt ≤ x.toInt
  | .gt, x, y => y.toInt < x.toInt
  | .le, x, y => x.toInt ≤ y.toInt
def cmpNL : ClassFile.Cond → Int64 → Int64 → Prop
  | .eq, x, y => ¬ x = y
  | .ne, x, y => x = y
  | .lt, x, y => y.toInt ≤ x.toInt
  | .ge, x, y => x.toInt < y.toInt
  | .gt, x, y => x.toInt ≤ y.toInt
  | .le, x, y => y.toInt < x.toInt
theorem cmp_orL (cd : ClassFile.Cond) (x y : Int64) : (ifCond.holds cd (lcmpW x y) = true ∧ cmpPL cd x y) ∨ (ifCond.holds cd (lcmpW x y) = false ∧ cmpNL cd x y) := by
  have hl : (lcmpW x y).toInt < (0 : Int32).toInt ↔ x.toInt < y.toInt := by rw [← Int32.lt_iff_toInt_lt, ← Int64.lt_iff_toInt_lt]; exact lw_lt x y
  have hg : (0 : Int32).toInt < (lcmpW x y).toInt ↔ y.toInt < x.toInt := by rw [← Int32.lt_iff_toInt_lt, ← Int64.lt_iff_toInt_lt]; exact lw_gt x y
  have he := lw_eq x y
  generalize lcmpW x y = z at *
  rw [if0]
  rcases cmp_or cd z 0 with ⟨h1, h2⟩ | ⟨h1, h2⟩
  · refine Or.inl ⟨h1, ?_⟩
    cases cd <;> simp only [cmpP, cmpPL] at h2 ⊢ <;> first | exact he.mp h2 | exact fun q => h2 (he.mpr q) | omega
  · refine Or.inr ⟨h1, ?_⟩
    cases cd <;> simp only [cmpN, cmpNL] at h2 ⊢ <;> first | exact he.mp h2 | exact fun q => h2 (he.mpr q) | omega
/-- the array at x, of that type, holds just these -/
def Av (Z : State) (h : Heap) (x : Addr) (ty : FieldType) (vs : List Value) : Prop := ∃ c : Cell, Arr Z h x c ty ∧ c.slots.toList = vs
theorem ix {j : Int32} {i : Nat} (h : j.toInt = (i : Int)) : ¬ j < 0 ∧ j.toNatClampNeg = i := by
  refine ⟨fun q => ?_, ?_⟩
  · have := Int32.lt_iff_toInt_lt.mp q
    have e0 : (0 : Int32).toInt = 0 := by decide
    omega
  · show j.toInt.toNat = i
    omega
theorem ixin {j : Int32} {i n : Nat} (h : j.toInt = (i : Int)) (hi : i < n) : ¬ (j < 0 ∨ n ≤ j.toNatClampNeg) := by
  obtain ⟨h1, h2⟩ := ix h
  rintro (q | q)
  · exact h1 q
  · omega
theorem eqI {x y : Int32} (h : x = y) : x.toInt = y.toInt := h ▸ rfl
theorem neI {x y : Int32} (h : ¬ x = y) : ¬ x.toInt = y.toInt := fun q => h (Int32.toInt_inj.mp q)
theorem eqL {x y : Int64} (h : x = y) : x.toInt = y.toInt := h ▸ rfl
theorem neL {x y : Int64} (h : ¬ x = y) : ¬ x.toInt = y.toInt := fun q => h (Int64.toInt_inj.mp q)
section Avs
variable {Z : State} {h h' : Heap} {x y : Addr} {ty : FieldType} {vs : List Value} {i : Nat} {v : Value} {sl : Nat} {ws : List Addr}
theorem Av.lt (A : Av Z h x ty vs) : x < h.size := by obtain ⟨c, A, -⟩ := A; exact A.lt
theorem Av.ext (A : Av Z h x ty vs) (E : Ext h h') : Av Z h' x ty vs := by obtain ⟨c, A, r⟩ := A; exact ⟨c, A.ext E, r⟩
theorem Av.other (A : Av Z h x ty vs) (W : Wr h h' y sl v) (q : x ≠ y) : Av Z h' x ty vs := by obtain ⟨c, A, r⟩ := A; exact ⟨c, A.other W q, r⟩
theorem Av.keep (A : Av Z h x ty vs) (K : Keep h h' ws) (q : x ∉ ws) : Av Z h' x ty vs := by obtain ⟨c, A, r⟩ := A; exact ⟨c, ⟨K.2.1 x c A.1 q, A.2⟩, r⟩
theorem Av.same (A : Av Z h x ty vs) (W : Wr h h' x i v) : Av Z h' x ty (vs.set i v) := by
  obtain ⟨c, A, rfl⟩ := A
  exact ⟨_, A.same W, by simp [Cell.setSlot]⟩
theorem Av.new {k : ClassId} {z : Int32} (A : Arr Z h x (newA k ty z) ty) : Av Z h x ty (List.replicate z.toNatClampNeg (defaultValue ty)) := ⟨_, A, by simp [newA]⟩
end Avs
section Rules
variable {G : Gx} {K : Kx} {rm : Room} {own nm : String} {bytes : ByteArray} {maxL : Nat} {ret : Option FieldType} {W : List Jvm.Cond} {Q Q' : Option Value → Heap → Prop} {h : Heap} {a b pc pc' : Nat} {ls ls' : Array Slot} {st st' : List Value}
theorem N.step (f : ∀ T, At T K.m K.c K.below → ∀ t, Steps K.p.tables K.e K.below (T.setTop (mkF K.m pc' ls' st')) t → Steps K.p.tables K.e K.below (T.setTop (mkF K.m pc ls st)) t) (k : N G K rm Q h a b pc' ls' st') : N G K rm Q h a b pc ls st := fun T locs X e F => by
  obtain ⟨s₂, o, hs, r⟩ := k T locs X e F
  exact ⟨s₂, o, f T X.here _ hs, r⟩
theorem N.stX (f : ∀ (T : State) (locs : List Loc), Stand K.p G.l K.e rm K.s K.m K.args K.below K.meth K.c T locs a b → T.heap = h → ∀ t, Steps K.p.tables K.e K.below (T.setTop (mkF K.m pc' ls' st')) t → Steps K.p.tables K.e K.below (T.setTop (mkF K.m pc ls st)) t) (k : N G K rm Q h a b pc' ls' st') : N G K rm Q h a b pc ls st := fun T locs X e F => by
  obtain ⟨s₂, o, hs, r⟩ := k T locs X e F
  exact ⟨s₂, o, f T locs X e _ hs, r⟩
theorem N.mono (k : N G K rm Q h a b pc ls st) (f : ∀ v h', Q v h' → Q' v h') : N G K rm Q' h a b pc ls st := fun T locs X e F => by
  obtain ⟨s₂, o, h1, h2, h3, v, L, h4, ⟨h5, h6⟩, h7⟩ := k T locs X e F
  exact ⟨s₂, o, h1, h2, h3, v, L, h4, ⟨f _ _ h5, h6⟩, h7⟩
theorem N.more {a' b' : Nat} (k : N G K rm Q h a' b' pc ls st) (ha : a ≤ a') (hb : b ≤ b') : N G K rm Q h a b pc ls st := fun T locs X e F => k T locs (X.more ha hb) e F

theorem N.iload (C : Cx G K own nm bytes maxL ret W) {k : Nat} {v : Int32} (hd : decode bytes pc = .ok (.iload k, 2)) (hl : ls[k]? = some (.val (.int v))) (hp : pc + 2 = pc') (k : N G K rm Q h a b pc' ls (.int v :: st)) : N G K rm Q h a b pc ls (st) := by
  subst hp; exact N.step (fun T A t ht => XS.iload A C.hx rfl (hb C.by hd) hl ht) k
theorem N.iloadN (C : Cx G K own nm bytes maxL ret W) {k : Fin 4} {v : Int32} (hd : decode bytes pc = .ok (.iload_n k, 1)) (hl : ls[k.val]? = some (.val (.int v))) (hp : pc + 1 = pc') (k : N G K rm Q h a b pc' ls (.int v :: st)) : N G K rm Q h a b pc ls (st) := by
  subst hp; exact N.step (fun T A t ht => XS.iloadN A C.hx rfl (hb C.by hd) hl ht) k
theorem N.istore (C : Cx G K own nm bytes maxL ret W) {k : Nat} {v : Int32} (hd : decode bytes pc = .ok (.istore k, 2)) (hl : storeLocals ls k (.int v) = some ls') (hp : pc + 2 = pc') (k : N G K rm Q h a b pc' ls' (st)) : N G K rm Q h a b pc ls (.int v :: st) := by
  subst hp; exact N.step (fun T A t ht => XS.istore A C.hx rfl (hb C.by hd) rfl hl ht) k
theorem N.istoreN (C : Cx G K own nm bytes maxL ret W) {k : Fin 4} {v : Int32} (hd : decode bytes pc = .ok (.istore_n k, 1)) (hl : storeLocals ls k.val (.int v) = some ls') (hp : pc + 1 = pc') (k : N G K rm Q h a b pc' ls' (st)) : N G K rm Q h a b pc ls (.int v :: st) := by
  subst hp; exact N.step (fun T A t ht => XS.istoreN A C.hx rfl (hb C.by hd) rfl hl ht) k
theorem N.iadd (C : Cx G K own nm bytes maxL ret W) {x y : Int32} (hd : decode bytes pc = .ok (.iadd, 1)) (hp : pc + 1 = pc') (k : N G K rm Q h a b pc' ls (.int (x + y) :: st)) : N G K rm Q h a b pc ls (.int y :: .int x :: st) := by
  subst hp; exact N.step (fun T A t ht => XS.iadd A C.hx rfl (hb C.by hd) rfl ht) k
theorem N.isub (C : Cx G K own nm bytes maxL ret W) {x y : Int32} (hd : decode bytes pc = .ok (.isub, 1)) (hp : pc + 1 = pc') (k : N G K rm Q h a b pc' ls (.int (x - y) :: st)) : N G K rm Q h a b pc ls (.int y :: .int x :: st) := by
  subst hp; exact N.step (fun T A t ht => XS.isub A C.hx rfl (hb C.by hd) rfl ht) k
theorem N.imul (C : Cx G K own nm bytes maxL ret W) {x y : Int32} (hd : decode bytes pc = .ok (.imul, 1)) (hp : pc + 1 = pc') (k : N G K rm Q h a b pc' ls (.int (x * y) :: st)) : N G K rm Q h a b pc ls (.int y :: .int x :: st) := by
  subst hp; exact N.step (fun T A t ht => XS.imul A C.hx rfl (hb C.by hd) rfl ht) k
theorem N.iand (C : Cx G K own nm bytes maxL ret W) {x y : Int32} (hd : decode bytes pc = .ok (.iand, 1)) (hp : pc + 1 = pc') (k : N G K rm Q h a b pc' ls (.int (x &&& y) :: st)) : N G K rm Q h a b pc ls (.int y :: .int x :: st) := by
  subst hp; exact N.step (fun T A t ht => XS.iand A C.hx rfl (hb C.by hd) rfl ht) k
theorem N.ior (C : Cx G K own nm bytes maxL ret W) {x y : Int32} (hd : decode bytes pc = .ok (.ior, 1)) (hp : pc + 1 = pc') (k : N G K rm Q h a b pc' ls (.int (x ||| y) :: st)) : N G K rm Q h a b pc ls (.int y :: .int x :: st) := by
  subst hp; exact N.step (fun T A t ht => XS.ior A C.hx rfl (hb C.by hd) rfl ht) k
theorem N.ixor (C : Cx G K own nm bytes maxL ret W) {x y : Int32} (hd : decode bytes pc = .ok (.ixor, 1)) (hp : pc + 1 = pc') (k : N G K rm Q h a b pc' ls (.int (x ^^^ y) :: st)) : N G K rm Q h a b pc ls (.int y :: .int x :: st) := by
  subst hp; exact N.step (fun T A t ht => XS.ixor A C.hx rfl (hb C.by hd) rfl ht) k
theorem N.idiv (C : Cx G K own nm bytes maxL ret W) {x y : Int32} (hd : decode bytes pc = .ok (.idiv, 1)) (hy : y ≠ 0) (hp : pc + 1 = pc') (k : N G K rm Q h a b pc' ls (.int (x / y) :: st)) : N G K rm Q h a b pc ls (.int y :: .int x :: st) := by
  subst hp; exact N.step (fun T A t ht => XS.idiv A C.hx rfl (hb C.by hd) rfl hy ht) k
theorem N.ineg (C : Cx G K own nm bytes maxL ret W) {x : Int32} (hd : decode bytes pc = .ok (.ineg, 1)) (hp : pc + 1 = pc') (k : N G K rm Q h a b pc' ls (.int (-x) :: st)) : N G K rm Q h a b pc ls (.int x :: st) := by
  subst hp; exact N.step (fun T A t ht => XS.ineg A C.hx rfl (hb C.by hd) rfl ht) k
theorem N.lload (C : Cx G K own nm bytes maxL ret W) {k : Nat} {v : Int64} (hd : decode bytes pc = .ok (.lload k, 2)) (hl : ls[k]? = some (.val (.long v))) (hp : pc + 2 = pc') (k : N G K rm Q h a b pc' ls (.long v :: st)) : N G K rm Q h a b pc ls (st) := by
  subst hp; exact N.step (fun T A t ht => XS.lload A C.hx rfl (hb C.by hd) hl ht) k
theorem N.lloadN (C : Cx G K own nm bytes maxL ret W) {k : Fin 4} {v : Int64} (hd : decode bytes pc = .ok (.lload_n k, 1)) (hl : ls[k.val]? = some (.val (.long v))) (hp : pc + 1 = pc') (k : N G K rm Q h a b pc' ls (.long v :: st)) : N G K rm Q h a b pc ls (st) := by
  subst hp; exact N.step (fun T A t ht => XS.lloadN A C.hx rfl (hb C.by hd) hl ht) k
theorem N.lstore (C : Cx G K own nm bytes maxL ret W) {k : Nat} {v : Int64} (hd : decode bytes pc = .ok (.lstore k, 2)) (hl : storeLocals ls k (.long v) = some ls') (hp : pc + 2 = pc') (k : N G K rm Q h a b pc' ls' (st)) : N G K rm Q h a b pc ls (.long v :: st) := by
  subst hp; exact N.step (fun T A t ht => XS.lstore A C.hx rfl (hb C.by hd) rfl hl ht) k
theorem N.lstoreN (C : Cx G K own nm bytes maxL ret W) {k : Fin 4} {v : Int64} (hd : decode bytes pc = .ok (.lstore_n k, 1)) (hl : storeLocals ls k.val (.long v) = some ls') (hp : pc + 1 = pc') (k : N G K rm Q h a b pc' ls' (st)) : N G K rm Q h a b pc ls (.long v :: st) := by
  subst hp; exact N.step (fun T A t ht => XS.lstoreN A C.hx rfl (hb C.by hd) rfl hl ht) k
theorem N.ladd (C : Cx G K own nm bytes maxL ret W) {x y : Int64} (hd : decode bytes pc = .ok (.ladd, 1)) (hp : pc + 1 = pc') (k : N G K rm Q h a b pc' ls (.long (x + y) :: st)) : N G K rm Q h a b pc ls (.long y :: .long x :: st) := by
  subst hp; exact N.step (fun T A t ht => XS.ladd A C.hx rfl (hb C.by hd) rfl ht) k
theorem N.lsub (C : Cx G K own nm bytes maxL ret W) {x y : Int64} (hd : decode bytes pc = .ok (.lsub, 1)) (hp : pc + 1 = pc') (k : N G K rm Q h a b pc' ls (.long (x - y) :: st)) : N G K rm Q h a b pc ls (.long y :: .long x :: st) := by
  subst hp; exact N.step (fun T A t ht => XS.lsub A C.hx rfl (hb C.by hd) rfl ht) k
theorem N.lmul (C : Cx G K own nm bytes maxL ret W) {x y : Int64} (hd : decode bytes pc = .ok (.lmul, 1)) (hp : pc + 1 = pc') (k : N G K rm Q h a b pc' ls (.long (x * y) :: st)) : N G K rm Q h a b pc ls (.long y :: .long x :: st) := by
  subst hp; exact N.step (fun T A t ht => XS.lmul A C.hx rfl (hb C.by hd) rfl ht) k
theorem N.land (C : Cx G K own nm bytes maxL ret W) {x y : Int64} (hd : decode bytes pc = .ok (.land, 1)) (hp : pc + 1 = pc') (k : N G K rm Q h a b pc' ls (.long (x &&& y) :: st)) : N G K rm Q h a b pc ls (.long y :: .long x :: st) := by
  subst hp; exact N.step (fun T A t ht => XS.land A C.hx rfl (hb C.by hd) rfl ht) k
theorem N.lor (C : Cx G K own nm bytes maxL ret W) {x y : Int64} (hd : decode bytes pc = .ok (.lor, 1)) (hp : pc + 1 = pc') (k : N G K rm Q h a b pc' ls (.long (x ||| y) :: st)) : N G K rm Q h a b pc ls (.long y :: .long x :: st) := by
  subst hp; exact N.step (fun T A t ht => XS.lor A C.hx rfl (hb C.by hd) rfl ht) k
theorem N.lxor (C : Cx G K own nm bytes maxL ret W) {x y : Int64} (hd : decode bytes pc = .ok (.lxor, 1)) (hp : pc + 1 = pc') (k : N G K rm Q h a b pc' ls (.long (x ^^^ y) :: st)) : N G K rm Q h a b pc ls (.long y :: .long x :: st) := by
  subst hp; exact N.step (fun T A t ht => XS.lxor A C.hx rfl (hb C.by hd) rfl ht) k
theorem N.ldiv (C : Cx G K own nm bytes maxL ret W) {x y : Int64} (hd : decode bytes pc = .ok (.ldiv, 1)) (hy : y ≠ 0) (hp : pc + 1 = pc') (k : N G K rm Q h a b pc' ls (.long (x / y) :: st)) : N G K rm Q h a b pc ls (.long y :: .long x :: st) := by
  subst hp; exact N.step (fun T A t ht => XS.ldiv A C.hx rfl (hb C.by hd) rfl hy ht) k
theorem N.lneg (C : Cx G K own nm bytes maxL ret W) {x : Int64} (hd : decode bytes pc = .ok (.lneg, 1)) (hp : pc + 1 = pc') (k : N G K rm Q h a b pc' ls (.long (-x) :: st)) : N G K rm Q h a b pc ls (.long x :: st) := by
  subst hp; exact N.step (fun T A t ht => XS.lneg A C.hx rfl (hb C.by hd) rfl ht) k
theorem N.irem (C : Cx G K own nm bytes maxL ret W) {x y : Int32} (hd : decode bytes pc = .ok (.irem, 1)) (hy : y ≠ 0) (hp : pc + 1 = pc') (k : N G K rm Q h a b pc' ls (.int (x % y) :: st)) : N G K rm Q h a b pc ls (.int y :: .int x :: st) := by
  subst hp; exact N.step (fun T A t ht => XS.irem A C.hx rfl (hb C.by hd) rfl hy (by rw [irem_eq_mod]; exact ht)) k
theorem N.lrem (C : Cx G K own nm bytes maxL ret W) {x y : Int64} (hd : decode bytes pc = .ok (.lrem, 1)) (hy : y ≠ 0) (hp : pc + 1 = pc') (k : N G K rm Q h a b pc' ls (.long (x % y) :: st)) : N G K rm Q h a b pc ls (.long y :: .long x :: st) := by
  subst hp; exact N.step (fun T A t ht => XS.lrem A C.hx rfl (hb C.by hd) rfl hy (by rw [lrem_mod]; exact ht)) k
theorem N.aload (C : Cx G K own nm bytes maxL ret W) {k : Nat} {v : Value} (hd : decode bytes pc = .ok (.aload k, 2)) (hl : ls[k]? = some (.val v)) (hv : v.isRef = true) (hp : pc + 2 = pc') (k : N G K rm Q h a b pc' ls (v :: st)) : N G K rm Q h a b pc ls (st) := by
  subst hp; exact N.step (fun T A t ht => XS.aload A C.hx rfl (hb C.by hd) hl hv ht) k
theorem N.aloadN (C : Cx G K own nm bytes maxL ret W) {k : Fin 4} {v : Value} (hd : decode bytes pc = .ok (.aload_n k, 1)) (hl : ls[k.val]? = some (.val v)) (hv : v.isRef = true) (hp : pc + 1 = pc') (k : N G K rm Q h a b pc' ls (v :: st)) : N G K rm Q h a b pc ls (st) := by
  subst hp; exact N.step (fun T A t ht => XS.aloadN A C.hx rfl (hb C.by hd) hl hv ht) k
theorem N.astore (C : Cx G K own nm bytes maxL ret W) {k : Nat} {v : Value} (hd : decode bytes pc = .ok (.astore k, 2)) (hv : v.isRef = true) (hl : storeLocals ls k v = some ls') (hp : pc + 2 = pc') (k : N G K rm Q h a b pc' ls' (st)) : N G K rm Q h a b pc ls (v :: st) := by
  subst hp; exact N.step (fun T A t ht => XS.astore A C.hx rfl (hb C.by hd) rfl hv hl ht) k
theorem N.astoreN (C : Cx G K own nm bytes maxL ret W) {k : Fin 4} {v : Value} (hd : decode bytes pc = .ok (.astore_n k, 1)) (hv : v.isRef = true) (hl : storeLocals ls k.val v = some ls') (hp : pc + 1 = pc') (k : N G K rm Q h a b pc' ls' (st)) : N G K rm Q h a b pc ls (v :: st) := by
  subst hp; exact N.step (fun T A t ht => XS.astoreN A C.hx rfl (hb C.by hd) rfl hv hl ht) k
theorem N.iconst (C : Cx G K own nm bytes maxL ret W) {i : Int} {z : Int32} (hd : decode bytes pc = .ok (.iconst i, 1)) (hz : Int32.ofInt i = z) (hp : pc + 1 = pc') (k : N G K rm Q h a b pc' ls (.int z :: st)) : N G K rm Q h a b pc ls st := by
  subst hp hz; exact N.step (fun T A t ht => XS.iconst A C.hx rfl (hb C.by hd) ht) k
theorem N.bipush (C : Cx G K own nm bytes maxL ret W) {i : Int} {z : Int32} (hd : decode bytes pc = .ok (.bipush i, 2)) (hz : (Int8.ofInt i).toInt32 = z) (hp : pc + 2 = pc') (k : N G K rm Q h a b pc' ls (.int z :: st)) : N G K rm Q h a b pc ls st := by
  subst hp hz; exact N.step (fun T A t ht => XS.bipush A C.hx rfl (hb C.by hd) ht) k
theorem N.sipush (C : Cx G K own nm bytes maxL ret W) {i : Int} {z : Int32} (hd : decode bytes pc = .ok (.sipush i, 3)) (hz : (Int16.ofInt i).toInt32 = z) (hp : pc + 3 = pc') (k : N G K rm Q h a b pc' ls (.int z :: st)) : N G K rm Q h a b pc ls st := by
  subst hp hz; exact N.step (fun T A t ht => XS.sipush A C.hx rfl (hb C.by hd) ht) k
theorem N.lconst (C : Cx G K own nm bytes maxL ret W) {k : Fin 2} {z : Int64} (hd : decode bytes pc = .ok (.lconst k, 1)) (hz : Int64.ofNat k = z) (hp : pc + 1 = pc') (k : N G K rm Q h a b pc' ls (.long z :: st)) : N G K rm Q h a b pc ls st := by
  subst hp hz; exact N.step (fun T A t ht => XS.lconst A C.hx rfl (hb C.by hd) ht) k
theorem N.aconst_null (C : Cx G K own nm bytes maxL ret W)  (hd : decode bytes pc = .ok (.aconst_null, 1)) (hp : pc + 1 = pc') (k : N G K rm Q h a b pc' ls (.null :: st)) : N G K rm Q h a b pc ls (st) := by
  subst hp; exact N.step (fun T A t ht => XS.aconstNull A C.hx rfl (hb C.by hd)  ht) k
theorem N.dup (C : Cx G K own nm bytes maxL ret W) {v : Value} (hd : decode bytes pc = .ok (.dup, 1)) (hc : v.category = 1) (hp : pc + 1 = pc') (k : N G K rm Q h a b pc' ls (v :: v :: st)) : N G K rm Q h a b pc ls (v :: st) := by
  subst hp; exact N.step (fun T A t ht => XS.dup A C.hx rfl (hb C.by hd) rfl hc ht) k
theorem N.pop (C : Cx G K own nm bytes maxL ret W) {v : Value} (hd : decode bytes pc = .ok (.pop, 1)) (hc : v.category = 1) (hp : pc + 1 = pc') (k : N G K rm Q h a b pc' ls (st)) : N G K rm Q h a b pc ls (v :: st) := by
  subst hp; exact N.step (fun T A t ht => XS.pop A C.hx rfl (hb C.by hd) rfl hc ht) k
theorem N.dup_x1 (C : Cx G K own nm bytes maxL ret W) {v w : Value} (hd : decode bytes pc = .ok (.dup_x1, 1)) (hc : v.category = 1) (hc' : w.category = 1) (hp : pc + 1 = pc') (k : N G K rm Q h a b pc' ls (v :: w :: v :: st)) : N G K rm Q h a b pc ls (v :: w :: st) := by
  subst hp; exact N.step (fun T A t ht => XS.dupX1 A C.hx rfl (hb C.by hd) rfl hc hc' ht) k
theorem N.dup2 (C : Cx G K own nm bytes maxL ret W) {v w : Value} (hd : decode bytes pc = .ok (.dup2, 1)) (hc : v.category = 1) (hc' : w.category = 1) (hp : pc + 1 = pc') (k : N G K rm Q h a b pc' ls (v :: w :: v :: w :: st)) : N G K rm Q h a b pc ls (v :: w :: st) := by
  subst hp; exact N.step (fun T A t ht => XT.dup2 A C.hx rfl (hb C.by hd) rfl hc hc' ht) k
theorem N.dup2L (C : Cx G K own nm bytes maxL ret W) {x : Int64} (hd : decode bytes pc = .ok (.dup2, 1)) (hp : pc + 1 = pc') (k : N G K rm Q h a b pc' ls (.long x :: .long x :: st)) : N G K rm Q h a b pc ls (.long x :: st) := by
  subst hp; exact N.step (fun T A t ht => XT.dup2L A C.hx rfl (hb C.by hd) rfl ht) k
theorem N.i2l (C : Cx G K own nm bytes maxL ret W) {x : Int32} (hd : decode bytes pc = .ok (.i2l, 1)) (hp : pc + 1 = pc') (k : N G K rm Q h a b pc' ls (.long (x.toInt64) :: st)) : N G K rm Q h a b pc ls (.int x :: st) := by
  subst hp; exact N.step (fun T A t ht => XS.i2l A C.hx rfl (hb C.by hd) rfl ht) k
theorem N.l2i (C : Cx G K own nm bytes maxL ret W) {x : Int64} (hd : decode bytes pc = .ok (.l2i, 1)) (hp : pc + 1 = pc') (k : N G K rm Q h a b pc' ls (.int (x.toInt32) :: st)) : N G K rm Q h a b pc ls (.long x :: st) := by
  subst hp; exact N.step (fun T A t ht => XS.l2i A C.hx rfl (hb C.by hd) rfl ht) k
theorem N.i2b (C : Cx G K own nm bytes maxL ret W) {x : Int32} (hd : decode bytes pc = .ok (.i2b, 1)) (hp : pc + 1 = pc') (k : N G K rm Q h a b pc' ls (.int (x.toInt8.toInt32) :: st)) : N G K rm Q h a b pc ls (.int x :: st) := by
  subst hp; exact N.step (fun T A t ht => XS.i2b A C.hx rfl (hb C.by hd) rfl ht) k
theorem N.i2s (C : Cx G K own nm bytes maxL ret W) {x : Int32} (hd : decode bytes pc = .ok (.i2s, 1)) (hp : pc + 1 = pc') (k : N G K rm Q h a b pc' ls (.int (x.toInt16.toInt32) :: st)) : N G K rm Q h a b pc ls (.int x :: st) := by
  subst hp; exact N.step (fun T A t ht => XS.i2s A C.hx rfl (hb C.by hd) rfl ht) k
theorem N.i2c (C : Cx G K own nm bytes maxL ret W) {x : Int32} (hd : decode bytes pc = .ok (.i2c, 1)) (hp : pc + 1 = pc') (k : N G K rm Q h a b pc' ls (.int (x.toUInt32.toUInt16.toUInt32.toInt32) :: st)) : N G K rm Q h a b pc ls (.int x :: st) := by
  subst hp; exact N.step (fun T A t ht => XS.i2c A C.hx rfl (hb C.by hd) rfl ht) k
theorem N.ishl (C : Cx G K own nm bytes maxL ret W) {x y : Int32} (hd : decode bytes pc = .ok (.ishl, 1)) (hp : pc + 1 = pc') (k : N G K rm Q h a b pc' ls (.int (x <<< (y &&& 31)) :: st)) : N G K rm Q h a b pc ls (.int y :: .int x :: st) := by
  subst hp; exact N.step (fun T A t ht => XS.ishl A C.hx rfl (hb C.by hd) rfl ht) k
theorem N.ishr (C : Cx G K own nm bytes maxL ret W) {x y : Int32} (hd : decode bytes pc = .ok (.ishr, 1)) (hp : pc + 1 = pc') (k : N G K rm Q h a b pc' ls (.int (x >>> (y &&& 31)) :: st)) : N G K rm Q h a b pc ls (.int y :: .int x :: st) := by
  subst hp; exact N.step (fun T A t ht => XS.ishr A C.hx rfl (hb C.by hd) rfl ht) k
theorem N.iushr (C : Cx G K own nm bytes maxL ret W) {x y : Int32} (hd : decode bytes pc = .ok (.iushr, 1)) (hp : pc + 1 = pc') (k : N G K rm Q h a b pc' ls (.int ((x.toUInt32 >>> (y &&& 31).toUInt32).toInt32) :: st)) : N G K rm Q h a b pc ls (.int y :: .int x :: st) := by
  subst hp; exact N.step (fun T A t ht => XS.iushr A C.hx rfl (hb C.by hd) rfl ht) k
theorem N.lshl (C : Cx G K own nm bytes maxL ret W) {x : Int64} {y : Int32} (hd : decode bytes pc = .ok (.lshl, 1)) (hp : pc + 1 = pc') (k : N G K rm Q h a b pc' ls (.long (x <<< (y &&& 0x3f).toInt64) :: st)) : N G K rm Q h a b pc ls (.int y :: .long x :: st) := by
  subst hp; exact N.step (fun T A t ht => XS.lshl A C.hx rfl (hb C.by hd) rfl ht) k
theorem N.lshr (C : Cx G K own nm bytes maxL ret W) {x : Int64} {y : Int32} (hd : decode bytes pc = .ok (.lshr, 1)) (hp : pc + 1 = pc') (k : N G K rm Q h a b pc' ls (.long (x >>> (y &&& 0x3f).toInt64) :: st)) : N G K rm Q h a b pc ls (.int y :: .long x :: st) := by
  subst hp; exact N.step (fun T A t ht => XS.lshr A C.hx rfl (hb C.by hd) rfl ht) k
theorem N.lushr (C : Cx G K own nm bytes maxL ret W) {x : Int64} {y : Int32} (hd : decode bytes pc = .ok (.lushr, 1)) (hp : pc + 1 = pc') (k : N G K rm Q h a b pc' ls (.long ((x.toUInt64 >>> (y &&& 0x3f).toInt64.toUInt64).toInt64) :: st)) : N G K rm Q h a b pc ls (.int y :: .long x :: st) := by
  subst hp; exact N.step (fun T A t ht => XS.lushr A C.hx rfl (hb C.by hd) rfl ht) k
theorem N.lcmp (C : Cx G K own nm bytes maxL ret W) {x y : Int64} (hd : decode bytes pc = .ok (.lcmp, 1)) (hp : pc + 1 = pc') (k : N G K rm Q h a b pc' ls (.int (lcmpW x y) :: st)) : N G K rm Q h a b pc ls (.long y :: .long x :: st) := by
  subst hp; exact N.step (fun T A t ht => XS.lcmp A C.hx rfl (hb C.by hd) rfl ht) k
theorem N.iinc (C : Cx G K own nm bytes maxL ret W) {k : Nat} {cst : Int} {x z : Int32} (hd : decode bytes pc = .ok (.iinc k cst, 3)) (hl : ls[k]? = some (.val (.int x))) (hz : Int32.ofInt cst = z) (hl' : storeLocals ls k (.int (x + z)) = some ls') (hp : pc + 3 = pc') (k : N G K rm Q h a b pc' ls' st) : N G K rm Q h a b pc ls st := by
  subst hp hz; exact N.step (fun T A t ht => XS.iinc A C.hx rfl (hb C.by hd) hl hl' ht) k
theorem N.goto (C : Cx G K own nm bytes maxL ret W) {o : Int} (hd : decode bytes pc = .ok (.goto o, 3)) (hp : (pc : Int) + o = (pc' : Nat)) (k : N G K rm Q h a b pc' ls st) : N G K rm Q h a b pc ls st :=
  N.step (fun T A t ht => XS.goto A C.hx rfl (pc0 := pc) rfl (hb C.by hd) (by omega) (by omega) ht) k
theorem N.icmp (C : Cx G K own nm bytes maxL ret W) {cd : ClassFile.Cond} {o : Int} {x y : Int32} {pt pf : Nat} (hd : decode bytes pc = .ok (.if_icmp cd o, 3)) (ht : (pc : Int) + o = (pt : Nat)) (hf : pc + 3 = pf) (kt : cmpP cd x y → N G K rm Q h a b pt ls st) (kf : cmpN cd x y → N G K rm Q h a b pf ls st) : N G K rm Q h a b pc ls (.int y :: .int x :: st) := by
  subst hf
  rcases cmp_or cd x y with ⟨h1, h2⟩ | ⟨h1, h2⟩
  · exact N.step (fun T A t k => XS.icmpYes A C.hx rfl (pc0 := pc) rfl (hb C.by hd) rfl h1 (by omega) (by omega) k) (kt h2)
  · exact N.step (fun T A t k => XS.icmpNo A C.hx rfl (hb C.by hd) rfl h1 k) (kf h2)
theorem N.ifc (C : Cx G K own nm bytes maxL ret W) {cd : ClassFile.Cond} {o : Int} {x : Int32} {pt pf : Nat} (hd : decode bytes pc = .ok (.ifCond cd o, 3)) (ht : (pc : Int) + o = (pt : Nat)) (hf : pc + 3 = pf) (kt : cmpP cd x 0 → N G K rm Q h a b pt ls st) (kf : cmpN cd x 0 → N G K rm Q h a b pf ls st) : N G K rm Q h a b pc ls (.int x :: st) := by
  subst hf
  rcases cmp_or cd x 0 with ⟨h1, h2⟩ | ⟨h1, h2⟩
  · exact N.step (fun T A t k => XS.ifYes A C.hx rfl (pc0 := pc) rfl (hb C.by hd) rfl ((if0 _ _).trans h1) (by omega) (by omega) k) (kt h2)
  · exact N.step (fun T A t k => XS.ifNo A C.hx rfl (hb C.by hd) rfl ((if0 _ _).trans h1) k) (kf h2)
/-- behind lcmp -/
theorem N.lif (C : Cx G K own nm bytes maxL ret W) {cd : ClassFile.Cond} {o : Int} {x y : Int64} {pt pf : Nat} (hd : decode bytes pc = .ok (.ifCond cd o, 3)) (ht : (pc : Int) + o = (pt : Nat)) (hf : pc + 3 = pf) (kt : cmpPL cd x y → N G K rm Q h a b pt ls st) (kf : cmpNL cd x y → N G K rm Q h a b pf ls st) : N G K rm Q h a b pc ls (.int (lcmpW x y) :: st) := by
  subst hf
  rcases cmp_orL cd x y with ⟨h1, h2⟩ | ⟨h1, h2⟩
  · exact N.step (fun T A t k => XS.ifYes A C.hx rfl (pc0 := pc) rfl (hb C.by hd) rfl h1 (by omega) (by omega) k) (kt h2)
  · exact N.step (fun T A t k => XS.ifNo A C.hx rfl (hb C.by hd) rfl h1 k) (kf h2)
theorem N.ifnull0 (C : Cx G K own nm bytes maxL ret W) {o : Int} (hd : decode bytes pc = .ok (.ifnull o, 3)) (ht : (pc : Int) + o = (pc' : Nat)) (k : N G K rm Q h a b pc' ls st) : N G K rm Q h a b pc ls (.null :: st) :=
  N.step (fun T A t k => XS.ifnullYes A C.hx rfl (pc0 := pc) rfl (hb C.by hd) rfl (by omega) (by omega) k) k
theorem N.ifnull1 (C : Cx G K own nm bytes maxL ret W) {o : Int} {x : Addr} (hd : decode bytes pc = .ok (.ifnull o, 3)) (hp : pc + 3 = pc') (k : N G K rm Q h a b pc' ls st) : N G K rm Q h a b pc ls (.ref x :: st) := by
  subst hp; exact N.step (fun T A t k => XS.ifnullNo A C.hx rfl (hb C.by hd) rfl k) k
theorem N.ifnonnull1 (C : Cx G K own nm bytes maxL ret W) {o : Int} {x : Addr} (hd : decode bytes pc = .ok (.ifnonnull o, 3)) (ht : (pc : Int) + o = (pc' : Nat)) (k : N G K rm Q h a b pc' ls st) : N G K rm Q h a b pc ls (.ref x :: st) :=
  N.step (fun T A t k => XS.ifnonnullYes A C.hx rfl (pc0 := pc) rfl (hb C.by hd) rfl (by omega) (by omega) k) k
theorem N.ifnonnull0 (C : Cx G K own nm bytes maxL ret W) {o : Int} (hd : decode bytes pc = .ok (.ifnonnull o, 3)) (hp : pc + 3 = pc') (k : N G K rm Q h a b pc' ls st) : N G K rm Q h a b pc ls (.null :: st) := by
  subst hp; exact N.step (fun T A t k => XS.ifnonnullNo A C.hx rfl (hb C.by hd) rfl k) k
theorem N.acmp (C : Cx G K own nm bytes maxL ret W) {cd : ACond} {o : Int} {v w : Value} (same : Bool) (hd : decode bytes pc = .ok (.if_acmp cd o, 3)) (h1 : v.isRef = true) (h2 : w.isRef = true) (hq : decide (v = w) = same) (ho : 0 ≤ (pc : Int) + o) (hp : pc' = if acV cd same = true then ((pc : Int) + o).toNat else pc + 3) (k : N G K rm Q h a b pc' ls st) : N G K rm Q h a b pc ls (w :: v :: st) :=
  N.stX (fun T locs X e t ht => Jvm.RoadKit.acmp (g := mkF K.m pc ls (w :: v :: st)) X C.hx rfl h1 h2 rfl (hb C.by hd) rfl hq ho hp ht) k
theorem N.ldcI (C : Cx G K own nm bytes maxL ret W) {i : Nat} {v : Int32} (hd : decode bytes pc = .ok (.ldc i, 2)) (w : (Jvm.Cond.constant own i v).before G.a0 G.Z = true) (hp : pc + 2 = pc') (k : N G K rm Q h a b pc' ls (.int v :: st)) : N G K rm Q h a b pc ls st := by
  subst hp; exact N.stX (fun T locs X e t ht => X.ldcInt C.hx C.ow (mvT C.hZ w) (g := mkF K.m pc ls st) rfl (hb C.by hd) t ht) k
theorem N.ldcwI (C : Cx G K own nm bytes maxL ret W) {i : Nat} {v : Int32} (hd : decode bytes pc = .ok (.ldc_w i, 3)) (w : (Jvm.Cond.constant own i v).before G.a0 G.Z = true) (hp : pc + 3 = pc') (k : N G K rm Q h a b pc' ls (.int v :: st)) : N G K rm Q h a b pc ls st := by
  subst hp; exact N.stX (fun T locs X e t ht => X.ldcwInt C.hx C.ow (mvT C.hZ w) (g := mkF K.m pc ls st) rfl (hb C.by hd) t ht) k
theorem N.ldcL (C : Cx G K own nm bytes maxL ret W) {i : Nat} {v : Int64} (hd : decode bytes pc = .ok (.ldc2_w i, 3)) (w : (Jvm.Cond.constantLong own i v).before G.a0 G.Z = true) (hp : pc + 3 = pc') (k : N G K rm Q h a b pc' ls (.long v :: st)) : N G K rm Q h a b pc ls st := by
  subst hp; exact N.stX (fun T locs X e t ht => X.ldc2Long C.hx C.ow (mvT C.hZ w) (g := mkF K.m pc ls st) rfl (hb C.by hd) t ht) k
theorem N.getF (C : Cx G K own nm bytes maxL ret W) {O n d : String} {i : Nat} {x : Addr} {v : Value} (hd : decode bytes pc = .ok (.getfield i, 3)) (w : (Jvm.Cond.fieldLink own i O n d).before G.a0 G.Z = true) (F : Fld G.Z h x O n d v) (hp : pc + 3 = pc') (k : N G K rm Q h a b pc' ls (v :: st)) : N G K rm Q h a b pc ls (.ref x :: st) := fun T locs X e N0 => by
  subst hp
  obtain ⟨T', X', e', s'⟩ := Jvm.RoadKit.getF X C.hx C.hZ C.ow (host := "") (Or.inl w) Via.refl e F (g := mkF K.m pc ls (.ref x :: st)) rfl rfl (hb C.by hd)
  obtain ⟨s₂, o, hs, r⟩ := k T' locs X' e' N0
  exact ⟨s₂, o, s' _ hs, r⟩
theorem N.getFN (C : Cx G K own nm bytes maxL ret W) {O n d host : String} {i : Nat} {x : Addr} {v : Value} (hd : decode bytes pc = .ok (.getfield i, 3)) (w : (Jvm.Cond.fieldLinkNest own i O n d host).before G.a0 G.Z = true) (F : Fld G.Z h x O n d v) (hp : pc + 3 = pc') (k : N G K rm Q h a b pc' ls (v :: st)) : N G K rm Q h a b pc ls (.ref x :: st) := fun T locs X e N0 => by
  subst hp
  obtain ⟨T', X', e', s'⟩ := Jvm.RoadKit.getF X C.hx C.hZ C.ow (Or.inr w) Via.refl e F (g := mkF K.m pc ls (.ref x :: st)) rfl rfl (hb C.by hd)
  obtain ⟨s₂, o, hs, r⟩ := k T' locs X' e' N0
  exact ⟨s₂, o, s' _ hs, r⟩
theorem N.putF (C : Cx G K own nm bytes maxL ret W) {O n d Cn : String} {i kk : Nat} {ty : FieldType} {x : Addr} {v old : Value} (hd : decode bytes pc = .ok (.putfield i, 3)) (w : (Jvm.Cond.fieldLink own i O n d).before G.a0 G.Z = true) (F : Fld G.Z h x O n d old) (E : Exa G.Z h x Cn)
    (L : (Jvm.Cond.lays Cn O n d).before G.a0 G.Z = true ∨ ((Jvm.Cond.laysFinal Cn O n d).before G.a0 G.Z = true ∧ own = O ∧ nm = "<init>")) (wi : (Jvm.Cond.instantiable Cn kk).before G.a0 G.Z = true) (hty : parseFieldDescriptor d = some ty) (hn : narrow ty v = v) (hf : fits ty v = true) (hx : G.n0 ≤ x) (hp : pc + 3 = pc')
    (k : ∀ h', Wr h h' x (Jvm.RoadKit.slotOf G.Z O n d) v → N G K rm Q h' a b pc' ls st) : N G K rm Q h a b pc ls (v :: .ref x :: st) := fun T locs X e N0 => by
  subst hp
  obtain ⟨T', h', X', e', W', s'⟩ := Jvm.RoadKit.putF X C.hx C.hZ C.ow (host := "") (Or.inl w) Via.refl e F E (L.imp id fun q => ⟨q.1, q.2.1, C.name.trans q.2.2⟩) wi hty hn hf (g := mkF K.m pc ls (v :: .ref x :: st)) rfl rfl (hb C.by hd)
  obtain ⟨s₂, o, hs, r⟩ := k h' W' T' _ X' e' (Fr.snoc X' N0 hx)
  exact ⟨s₂, o, s' _ hs, r⟩
theorem N.putFN (C : Cx G K own nm bytes maxL ret W) {O n d Cn : String} {i kk : Nat} {ty : FieldType} {x : Addr} {v v' old : Value} (hd : decode bytes pc = .ok (.putfield i, 3)) (w : (Jvm.Cond.fieldLink own i O n d).before G.a0 G.Z = true) (F : Fld G.Z h x O n d old) (E : Exa G.Z h x Cn)
    (L : (Jvm.Cond.lays Cn O n d).before G.a0 G.Z = true ∨ ((Jvm.Cond.laysFinal Cn O n d).before G.a0 G.Z = true ∧ own = O ∧ nm = "<init>")) (wi : (Jvm.Cond.instantiable Cn kk).before G.a0 G.Z = true) (hty : parseFieldDescriptor d = some ty) (hn : narrow ty v = v') (hf : fits ty v' = true) (hx : G.n0 ≤ x) (hp : pc + 3 = pc')
    (k : ∀ h', Wr h h' x (Jvm.RoadKit.slotOf G.Z O n d) v' → N G K rm Q h' a b pc' ls st) : N G K rm Q h a b pc ls (v :: .ref x :: st) := fun T locs X e N0 => by
  subst hp
  obtain ⟨T', h', X', e', W', s'⟩ := Jvm.RoadKit.putFN X C.hx C.hZ C.ow w Via.refl e F E (L.imp id fun q => ⟨q.1, q.2.1, C.name.trans q.2.2⟩) wi hty hn hf (g := mkF K.m pc ls (v :: .ref x :: st)) rfl rfl (hb C.by hd)
  obtain ⟨s₂, o, hs, r⟩ := k h' W' T' _ X' e' (Fr.snoc X' N0 hx)
  exact ⟨s₂, o, s' _ hs, r⟩
theorem N.getS (C : Cx G K own nm bytes maxL ret W) {O n d : String} {i : Nat} {v : Value} (hd : decode bytes pc = .ok (.getstatic i, 3)) (w : (Jvm.Cond.fieldLink own i O n d).before G.a0 G.Z = true) (F : Sta G.Z h O n d v) (hp : pc + 3 = pc') (k : N G K rm Q h a b pc' ls (v :: st)) : N G K rm Q h a b pc ls st := fun T locs X e N0 => by
  subst hp
  obtain ⟨T', X', e', s'⟩ := Jvm.RoadKit.getS X C.hx C.hZ (host := "") C.ow w Via.refl e F (g := mkF K.m pc ls st) rfl (hb C.by hd)
  obtain ⟨s₂, o, hs, r⟩ := k T' locs X' e' N0
  exact ⟨s₂, o, s' _ hs, r⟩
theorem N.newO (C : Cx G K own nm bytes maxL ret W) {Cn : String} {i n : Nat} (hd : decode bytes pc = .ok (.new i, 3)) (w : (Jvm.Cond.classLink own i Cn).before G.a0 G.Z = true) (wi : (Jvm.Cond.instantiable Cn n).before G.a0 G.Z = true) (wz : (Jvm.Cond.initialized Cn).before G.a0 G.Z = true) (hc : a + 1 ≤ rm.cells) (hl : b + n ≤ rm.slots) (hp : pc + 3 = pc')
    (k : ∀ (h' : Heap) (x : Addr), x = h.size → Ext h h' → Exa G.Z h' x Cn → (∀ {O f d : String} {ty : FieldType}, Laid G.Z G.a0 Cn O f d → parseFieldDescriptor d = some ty → Fld G.Z h' x O f d (defaultValue ty)) → N G K rm Q h' (a + 1) (b + n) pc' ls (.ref x :: st)) : N G K rm Q h a b pc ls st := fun T locs X e N0 => by
  subst hp
  obtain ⟨T', h', X', e', E', A', D', -, s'⟩ := Jvm.RoadKit.newO X C.hx C.hZ C.ow w wi wz e (g := mkF K.m pc ls st) rfl (hb C.by hd) hc hl
  obtain ⟨s₂, o, hs, r⟩ := k h' _ rfl E' A' D' T' locs X' e' N0
  exact ⟨s₂, o, s' _ hs, r⟩
theorem N.newP (C : Cx G K own nm bytes maxL ret W) {aty : ArrayType} {n : Int32} (cap : Nat) (hd : decode bytes pc = .ok (.newarray aty, 2)) (w : (Jvm.Cond.arrayClass (newarray.typeOf aty)).before G.a0 G.Z = true) (hn : 0 ≤ n.toInt) (hcap : n.toInt ≤ (cap : Int)) (hb8 : cap * 8 ≤ 536870912) (hc : a + 1 ≤ rm.cells) (hl : b + cap ≤ rm.slots) (hp : pc + 2 = pc')
    (k : ∀ (h' : Heap) (x : Addr), x = h.size → Ext h h' → Av G.Z h' x (newarray.typeOf aty) (List.replicate n.toInt.toNat (defaultValue (newarray.typeOf aty))) → N G K rm Q h' (a + 1) (b + cap) pc' ls (.ref x :: st)) : N G K rm Q h a b pc ls (.int n :: st) := fun T locs X e N0 => by
  subst hp
  have hneg : ¬ n < 0 := fun q => by
    have := Int32.lt_iff_toInt_lt.mp q
    have e0 : (0 : Int32).toInt = 0 := by decide
    omega
  obtain ⟨T', h', cA, X', e', E', A', s'⟩ := Jvm.RoadKit.newP X C.hx C.hZ w e (g := mkF K.m pc ls (.int n :: st)) rfl (hb C.by hd) rfl hneg (cap := cap) (by show n.toInt.toNat ≤ cap; omega) hb8 hc hl
  obtain ⟨s₂, o, hs, r⟩ := k h' _ rfl E' (Av.new A') T' locs X' e' N0
  exact ⟨s₂, o, s' _ hs, r⟩
theorem N.initO (C : Cx G K own nm bytes maxL ret W) {i : Nat} {x : Addr} (hd : decode bytes pc = .ok (.invokespecial i, 3)) (w1 : (Jvm.Cond.methodLink own i Lib.objectInit).before G.a0 G.Z = true) (w2 : (Jvm.Cond.instanceMethod Lib.objectInit).before G.a0 G.Z = true) (w3 : (Jvm.Cond.code Lib.objectInit ⟨#[0xb1]⟩ 1 none).before G.a0 G.Z = true) (hsz : ls.size = maxL) (hf : 1 ≤ rm.frames) (hl : (st.map fun v => v.category).sum + 12 ≤ rm.locals) (hp : pc + 3 = pc')
    (k : N G K rm Q h a b pc' ls st) : N G K rm Q h a b pc ls (.ref x :: st) := fun T locs X e N0 => by
  subst hp
  obtain ⟨T', X', e', s'⟩ := Jvm.RoadKit.initO X C.hx C.hZ C.ow w1 w2 w3 e (g := mkF K.m pc ls (.ref x :: st)) rfl (by rw [C.ml]; exact hsz) rfl (hb C.by hd) hf (W := (st.map fun v => v.category).sum) (by show 2 * 0 + _ ≤ _; omega) hl
  obtain ⟨s₂, o, hs, r⟩ := k T' locs X' e' N0
  exact ⟨s₂, o, s' _ hs, r⟩
theorem N.alen (C : Cx G K own nm bytes maxL ret W) {x : Addr} {ty : FieldType} {vs : List Value} {n : Int32} (hd : decode bytes pc = .ok (.arraylength, 1)) (A : Av G.Z h x ty vs) (hn : n.toInt = (vs.length : Nat)) (hp : pc + 1 = pc') (k : N G K rm Q h a b pc' ls (.int n :: st)) : N G K rm Q h a b pc ls (.ref x :: st) := by
  subst hp
  obtain ⟨c, A, rfl⟩ := A
  have hz : c.slots.size.toInt32 = n := by
    have h1 := n.toInt_lt
    apply Int32.toInt_inj.mp
    rw [hn]
    simp only [Array.length_toList] at hn ⊢
    show (Int32.ofNat c.slots.size).toInt = _
    rw [Int32.toInt_ofNat']
    have e32 : (Int32.size : Int) = 4294967296 := rfl
    exact Int.bmod_eq_of_le (by omega) (by omega)
  exact N.stX (fun T locs X e t ht => X.arraylength C.hx (by rw [e]; exact A.1) (State.isArrayOf_alike C.hZ.alike A.2.1) (g := mkF K.m pc ls (.ref x :: st)) rfl rfl (hb C.by hd) t (by rw [hz]; exact ht)) k

theorem N.iaload (C : Cx G K own nm bytes maxL ret W) {x : Addr} {vs : List Value} {j : Int32} {i : Nat} {v : Value} (hd : decode bytes pc = .ok (.iaload, 1)) (A : Av G.Z h x .int vs) (hj : j.toInt = (i : Nat)) (hv : vs[i]? = some v) (hp : pc + 1 = pc') (k : N G K rm Q h a b pc' ls (v :: st)) : N G K rm Q h a b pc ls (.int j :: .ref x :: st) := by
  subst hp
  obtain ⟨c, A, rfl⟩ := A
  have hi : i < c.slots.size := by have := (List.getElem?_eq_some_iff.mp hv).1; simpa using this
  have hv' : c.slots[j.toNatClampNeg]? = some v := by rw [(ix hj).2, ← Array.getElem?_toList]; exact hv
  exact N.stX (fun T locs X e t ht => X.iaload C.hx (by rw [e]; exact A.1) (State.isArrayOf_alike C.hZ.alike A.2.1) A.2.2 (ixin hj hi) hv' (g := mkF K.m pc ls (.int j :: .ref x :: st)) rfl rfl (hb C.by hd) t ht) k
theorem N.laload (C : Cx G K own nm bytes maxL ret W) {x : Addr} {vs : List Value} {j : Int32} {i : Nat} {v : Value} (hd : decode bytes pc = .ok (.laload, 1)) (A : Av G.Z h x .long vs) (hj : j.toInt = (i : Nat)) (hv : vs[i]? = some v) (hp : pc + 1 = pc') (k : N G K rm Q h a b pc' ls (v :: st)) : N G K rm Q h a b pc ls (.int j :: .ref x :: st) := by
  subst hp
  obtain ⟨c, A, rfl⟩ := A
  have hi : i < c.slots.size := by have := (List.getElem?_eq_some_iff.mp hv).1; simpa using this
  have hv' : c.slots[j.toNatClampNeg]? = some v := by rw [(ix hj).2, ← Array.getElem?_toList]; exact hv
  exact N.stX (fun T locs X e t ht => X.laload C.hx (by rw [e]; exact A.1) (State.isArrayOf_alike C.hZ.alike A.2.1) A.2.2 (ixin hj hi) hv' (g := mkF K.m pc ls (.int j :: .ref x :: st)) rfl rfl (hb C.by hd) t ht) k
theorem N.caload (C : Cx G K own nm bytes maxL ret W) {x : Addr} {vs : List Value} {j : Int32} {i : Nat} {v : Value} (hd : decode bytes pc = .ok (.caload, 1)) (A : Av G.Z h x .char vs) (hj : j.toInt = (i : Nat)) (hv : vs[i]? = some v) (hp : pc + 1 = pc') (k : N G K rm Q h a b pc' ls (v :: st)) : N G K rm Q h a b pc ls (.int j :: .ref x :: st) := by
  subst hp
  obtain ⟨c, A, rfl⟩ := A
  have hi : i < c.slots.size := by have := (List.getElem?_eq_some_iff.mp hv).1; simpa using this
  have hv' : c.slots[j.toNatClampNeg]? = some v := by rw [(ix hj).2, ← Array.getElem?_toList]; exact hv
  exact N.stX (fun T locs X e t ht => X.caload C.hx (by rw [e]; exact A.1) (State.isArrayOf_alike C.hZ.alike A.2.1) A.2.2 (ixin hj hi) hv' (g := mkF K.m pc ls (.int j :: .ref x :: st)) rfl rfl (hb C.by hd) t ht) k
theorem N.baload (C : Cx G K own nm bytes maxL ret W) {x : Addr} {vs : List Value} {j : Int32} {i : Nat} {v : Value} (hd : decode bytes pc = .ok (.baload, 1)) (A : Av G.Z h x .byte vs) (hj : j.toInt = (i : Nat)) (hv : vs[i]? = some v) (hp : pc + 1 = pc') (k : N G K rm Q h a b pc' ls (v :: st)) : N G K rm Q h a b pc ls (.int j :: .ref x :: st) := by
  subst hp
  obtain ⟨c, A, rfl⟩ := A
  have hi : i < c.slots.size := by have := (List.getElem?_eq_some_iff.mp hv).1; simpa using this
  have hv' : c.slots[j.toNatClampNeg]? = some v := by rw [(ix hj).2, ← Array.getElem?_toList]; exact hv
  exact N.stX (fun T locs X e t ht => X.baloadBytes C.hx (by rw [e]; exact A.1) (State.isArrayOf_alike C.hZ.alike A.2.1) A.2.2 (ixin hj hi) hv' (g := mkF K.m pc ls (.int j :: .ref x :: st)) rfl rfl (hb C.by hd) t ht) k
theorem N.zaload (C : Cx G K own nm bytes maxL ret W) {x : Addr} {vs : List Value} {j : Int32} {i : Nat} {v : Value} (hd : decode bytes pc = .ok (.baload, 1)) (A : Av G.Z h x .boolean vs) (hj : j.toInt = (i : Nat)) (hv : vs[i]? = some v) (hp : pc + 1 = pc') (k : N G K rm Q h a b pc' ls (v :: st)) : N G K rm Q h a b pc ls (.int j :: .ref x :: st) := by
  subst hp
  obtain ⟨c, A, rfl⟩ := A
  have hi : i < c.slots.size := by have := (List.getElem?_eq_some_iff.mp hv).1; simpa using this
  have hv' : c.slots[j.toNatClampNeg]? = some v := by rw [(ix hj).2, ← Array.getElem?_toList]; exact hv
  exact N.stX (fun T locs X e t ht => X.baloadBooleans C.hx (by rw [e]; exact A.1) (State.isArrayOf_alike C.hZ.alike A.2.1) A.2.2 (ixin hj hi) hv' (g := mkF K.m pc ls (.int j :: .ref x :: st)) rfl rfl (hb C.by hd) t ht) k
theorem N.iastore (C : Cx G K own nm bytes maxL ret W) {x : Addr} {vs : List Value} {j : Int32} {i : Nat} {v : Int32} (hd : decode bytes pc = .ok (.iastore, 1)) (A : Av G.Z h x .int vs) (hj : j.toInt = (i : Nat)) (hi : i < vs.length) (hx : G.n0 ≤ x) (hp : pc + 1 = pc') (k : ∀ h', Wr h h' x i (.int v) → Av G.Z h' x .int (vs.set i (.int v)) → N G K rm Q h' a b pc' ls st) : N G K rm Q h a b pc ls (.int v :: .int j :: .ref x :: st) := fun T locs X e N0 => by
  subst hp
  have A0 := A
  obtain ⟨c, A, rfl⟩ := A
  obtain ⟨T', h', X', e', W', s'⟩ := Jvm.RoadKit.stI X C.hx C.hZ e A (j := j) (ixin hj (by simpa using hi)) (g := mkF K.m pc ls (.int v :: .int j :: .ref x :: st)) rfl rfl (hb C.by hd)
  have F' := Fr.snoc X' N0 hx
  rw [(ix hj).2] at W'
  obtain ⟨s₂, o, hs, r⟩ := k h' W' (A0.same W') T' _ X' e' F'
  exact ⟨s₂, o, s' _ hs, r⟩
theorem N.lastore (C : Cx G K own nm bytes maxL ret W) {x : Addr} {vs : List Value} {j : Int32} {i : Nat} {v : Int64} (hd : decode bytes pc = .ok (.lastore, 1)) (A : Av G.Z h x .long vs) (hj : j.toInt = (i : Nat)) (hi : i < vs.length) (hx : G.n0 ≤ x) (hp : pc + 1 = pc') (k : ∀ h', Wr h h' x i (.long v) → Av G.Z h' x .long (vs.set i (.long v)) → N G K rm Q h' a b pc' ls st) : N G K rm Q h a b pc ls (.long v :: .int j :: .ref x :: st) := fun T locs X e N0 => by
  subst hp
  have A0 := A
  obtain ⟨c, A, rfl⟩ := A
  obtain ⟨T', h', X', e', W', s'⟩ := Jvm.RoadKit.stJ X C.hx C.hZ e A (j := j) (ixin hj (by simpa using hi)) (g := mkF K.m pc ls (.long v :: .int j :: .ref x :: st)) rfl rfl (hb C.by hd)
  have F' := Fr.snoc X' N0 hx
  rw [(ix hj).2] at W'
  obtain ⟨s₂, o, hs, r⟩ := k h' W' (A0.same W') T' _ X' e' F'
  exact ⟨s₂, o, s' _ hs, r⟩
theorem N.castore (C : Cx G K own nm bytes maxL ret W) {x : Addr} {vs : List Value} {j : Int32} {i : Nat} {v : Int32} (hd : decode bytes pc = .ok (.castore, 1)) (A : Av G.Z h x .char vs) (hj : j.toInt = (i : Nat)) (hi : i < vs.length) (hx : G.n0 ≤ x) (hp : pc + 1 = pc') (k : ∀ h', Wr h h' x i (.int (nar .char v)) → Av G.Z h' x .char (vs.set i (.int (nar .char v))) → N G K rm Q h' a b pc' ls st) : N G K rm Q h a b pc ls (.int v :: .int j :: .ref x :: st) := fun T locs X e N0 => by
  subst hp
  have A0 := A
  obtain ⟨c, A, rfl⟩ := A
  obtain ⟨T', h', X', e', W', s'⟩ := Jvm.RoadKit.stC X C.hx C.hZ e A (j := j) (ixin hj (by simpa using hi)) (g := mkF K.m pc ls (.int v :: .int j :: .ref x :: st)) rfl rfl (hb C.by hd)
  have F' := Fr.snoc X' N0 hx
  rw [(ix hj).2] at W'
  obtain ⟨s₂, o, hs, r⟩ := k h' W' (A0.same W') T' _ X' e' F'
  exact ⟨s₂, o, s' _ hs, r⟩
theorem N.bastore (C : Cx G K own nm bytes maxL ret W) {x : Addr} {vs : List Value} {j : Int32} {i : Nat} {v : Int32} (hd : decode bytes pc = .ok (.bastore, 1)) (A : Av G.Z h x .byte vs) (hj : j.toInt = (i : Nat)) (hi : i < vs.length) (hx : G.n0 ≤ x) (hp : pc + 1 = pc') (k : ∀ h', Wr h h' x i (.int (nar .byte v)) → Av G.Z h' x .byte (vs.set i (.int (nar .byte v))) → N G K rm Q h' a b pc' ls st) : N G K rm Q h a b pc ls (.int v :: .int j :: .ref x :: st) := fun T locs X e N0 => by
  subst hp
  have A0 := A
  obtain ⟨c, A, rfl⟩ := A
  obtain ⟨T', h', X', e', W', s'⟩ := Jvm.RoadKit.stB X C.hx C.hZ e A (j := j) (ixin hj (by simpa using hi)) (g := mkF K.m pc ls (.int v :: .int j :: .ref x :: st)) rfl rfl (hb C.by hd)
  have F' := Fr.snoc X' N0 hx
  rw [(ix hj).2] at W'
  obtain ⟨s₂, o, hs, r⟩ := k h' W' (A0.same W') T' _ X' e' F'
  exact ⟨s₂, o, s' _ hs, r⟩
theorem N.zastore (C : Cx G K own nm bytes maxL ret W) {x : Addr} {vs : List Value} {j : Int32} {i : Nat} {v : Int32} (hd : decode bytes pc = .ok (.bastore, 1)) (A : Av G.Z h x .boolean vs) (hj : j.toInt = (i : Nat)) (hi : i < vs.length) (hx : G.n0 ≤ x) (hp : pc + 1 = pc') (k : ∀ h', Wr h h' x i (.int (nar .boolean v)) → Av G.Z h' x .boolean (vs.set i (.int (nar .boolean v))) → N G K rm Q h' a b pc' ls st) : N G K rm Q h a b pc ls (.int v :: .int j :: .ref x :: st) := fun T locs X e N0 => by
  subst hp
  have A0 := A
  obtain ⟨c, A, rfl⟩ := A
  obtain ⟨T', h', X', e', W', s'⟩ := Jvm.RoadKit.stZ X C.hx C.hZ e A (j := j) (ixin hj (by simpa using hi)) (g := mkF K.m pc ls (.int v :: .int j :: .ref x :: st)) rfl rfl (hb C.by hd)
  have F' := Fr.snoc X' N0 hx
  rw [(ix hj).2] at W'
  obtain ⟨s₂, o, hs, r⟩ := k h' W' (A0.same W') T' _ X' e' F'
  exact ⟨s₂, o, s' _ hs, r⟩

/-! returns -/
theorem N.ret0 (C : Cx G K own nm bytes maxL ret W) (hr : ret = none) (hd : decode bytes pc = .ok (.return_, 1)) (ha : a ≤ rm.cells) (hb' : b ≤ rm.slots) (hq : Q none h) : N G K rm Q h a b pc ls [] := fun T locs X e N0 => by
  obtain ⟨fs, hr', hrun, hended, hW, hsame⟩ := X.leave (v := none) (fun _ => rfl) (hlocks := C.lk)
  exact ⟨_, _, X.returnOut C.hx (C.rt.trans hr) (hb C.by hd) hr', hrun, hended, _, _, rfl, ⟨by show Q none T.heap; rw [e]; exact hq, N0⟩, ⟨_, rfl⟩, hW, hsame.mono ha hb'⟩
theorem N.retV (C : Cx G K own nm bytes maxL ret W) {w : Value} {t : FieldType} {i : Instr} (hr : ret = some t) (hn : narrow t w = w)
    (hi : (i = .ireturn ∧ (t = .int ∨ t = .boolean ∨ t = .byte ∨ t = .char ∨ t = .short) ∧ ∃ z, w = .int z) ∨ (i = .lreturn ∧ t = .long ∧ ∃ z, w = .long z) ∨ (i = .dreturn ∧ t = .double ∧ ∃ z, w = .double z) ∨ (i = .freturn ∧ t = .float ∧ ∃ z, w = .float z) ∨ (i = .areturn ∧ t.isReference = true ∧ w.isRef = true))
    (hd : decode bytes pc = .ok (i, 1)) (ha : a ≤ rm.cells) (hb' : b ≤ rm.slots) (hq : Q (some w) h) : N G K rm Q h a b pc ls (w :: st) := fun T locs X e N0 => by
  obtain ⟨fs, hr', hrun, hended, hW, hsame⟩ := X.leave (v := some w) (fun q => by rw [C.rt, hr] at q; cases q) (hlocks := C.lk)
  exact ⟨_, _, retOut X C.hx (C.rt.trans hr) hn hi (hb C.by hd) hr', hrun, hended, _, _, rfl, ⟨by show Q (some w) T.heap; rw [e]; exact hq, N0⟩, ⟨_, rfl⟩, hW, hsame.mono ha hb'⟩
theorem N.retI (C : Cx G K own nm bytes maxL (some .int) W) {z : Int32} (hd : decode bytes pc = .ok (.ireturn, 1)) (ha : a ≤ rm.cells) (hb' : b ≤ rm.slots) (hq : Q (some (.int z)) h) : N G K rm Q h a b pc ls (.int z :: st) :=
  N.retV C rfl rfl (Or.inl ⟨rfl, Or.inl rfl, z, rfl⟩) hd ha hb' hq
theorem N.retL (C : Cx G K own nm bytes maxL (some .long) W) {z : Int64} (hd : decode bytes pc = .ok (.lreturn, 1)) (ha : a ≤ rm.cells) (hb' : b ≤ rm.slots) (hq : Q (some (.long z)) h) : N G K rm Q h a b pc ls (.long z :: st) :=
  N.retV C rfl rfl (Or.inr (Or.inl ⟨rfl, rfl, z, rfl⟩)) hd ha hb' hq
theorem N.retA (C : Cx G K own nm bytes maxL (some t) W) {w : Value} (ht : t.isReference = true) (hw : w.isRef = true) (hd : decode bytes pc = .ok (.areturn, 1)) (ha : a ≤ rm.cells) (hb' : b ≤ rm.slots) (hq : Q (some w) h) : N G K rm Q h a b pc ls (w :: st) :=
  N.retV C rfl (by rcases ref_cases hw with rfl | ⟨z, rfl⟩ <;> cases t <;> first | rfl | (cases ht)) (Or.inr (Or.inr (Or.inr (Or.inr ⟨rfl, ht, hw⟩)))) hd ha hb' hq
theorem N.retN (C : Cx G K own nm bytes maxL (some t) W) {z z' : Int32} (ht : t = .boolean ∨ t = .byte ∨ t = .char ∨ t = .short) (hz : nar t z = z') (hd : decode bytes pc = .ok (.ireturn, 1)) (ha : a ≤ rm.cells) (hb' : b ≤ rm.slots) (hq : Q (some (.int z')) h) : N G K rm Q h a b pc ls (.int z :: st) := fun T locs X e N0 => by
  subst hz
  obtain ⟨fs, hr', hrun, hended, hW, hsame⟩ := X.leave (v := some (.int (nar t z))) (fun q => by rw [C.rt] at q; cases q) (hlocks := C.lk)
  exact ⟨_, _, Jvm.RoadKit.retN X C.hx C.rt ht (hb C.by hd) hr', hrun, hended, _, _, rfl, ⟨by show Q (some (.int (nar t z))) T.heap; rw [e]; exact hq, N0⟩, ⟨_, rfl⟩, hW, hsame.mono ha hb'⟩
/-! calls by the callee's contract -/
section Calls
variable {y : MethodName} {bytes' : ByteArray} {maxL' : Nat} {ret' : Option FieldType} {rm' : Room} {as : Array Value} {R' : Option Value → Heap → Prop} {stk rest : List Value}
theorem N.callS (C : Cx G K own nm bytes maxL ret W) {i : Nat} (argsL : List Value) (hd : decode bytes pc = .ok (.invokestatic i, 3)) (w1 : (Jvm.Cond.methodLink own i y).before G.a0 G.Z = true) (w2 : (Jvm.Cond.static y).before G.a0 G.Z = true) (w3 : (Jvm.Cond.initialized y.cls).before G.a0 G.Z = true) (w4 : (Jvm.Cond.code y bytes' maxL' ret').before G.a0 G.Z = true)
    (hy : y.cls ≠ "java/lang/invoke/MethodHandle" ∧ y.cls ≠ "java/lang/invoke/VarHandle") (M : Con G y bytes' maxL' ret' rm' argsL.toArray h R') (hlen : ∀ sig, parseMethodDescriptor y.desc = some sig → argsL.length = sig.parameters.length) (hsz : ls.size = maxL)
    (hf : rm'.frames + 1 ≤ rm.frames) (hl : (rest.map fun v => v.category).sum + (maxL' + 11) + rm'.locals ≤ rm.locals) (hc : a + rm'.cells ≤ rm.cells) (hs : b + rm'.slots ≤ rm.slots) (hst : stk = argsL.reverse ++ rest) (hp : pc + 3 = pc')
    (k : ∀ v h', R' v h' → N G K rm Q h' (a + rm'.cells) (b + rm'.slots) pc' ls (v.toList ++ rest)) : N G K rm Q h a b pc ls stk := fun T locs X e N0 => by
  subst hp
  obtain ⟨v, _, ⟨T', L', k', n'⟩, -, X', ⟨Lc, ⟨hQ, N1⟩, l', y', z'⟩, s'⟩ := Jvm.LawKit.callS X C.hx (y := y) C.ow (mvT C.hZ w1) (mvT C.hZ w2) (mvT C.hZ w3) (mvT C.hZ w4) hy (backOf (W := (rest.map fun v => v.category).sum) (Q := fun v h L => R' v h ∧ Fr G.n0 L) (M []) C.hZ w4 w3 hf hl) (g := mkF K.m pc ls stk) rfl (by rw [C.ml]; exact hsz) (argsL := argsL) (rest := rest) hlen hst (by show 2 * 0 + _ ≤ _; omega) (hb C.by hd) (fun _ _ => ⟨rfl, e, hc, hs⟩)
  dsimp only [Pt.U, Pt.locs, Pt.cells, Pt.slots] at X' l' y' z' s' hQ
  subst l' y' z'
  obtain ⟨s₂, o, hs', r⟩ := k v T'.heap hQ T' _ X' rfl (N0.app N1)
  exact ⟨s₂, o, s' _ hs', r⟩
theorem N.callI (C : Cx G K own nm bytes maxL ret W) {i : Nat} (x : Addr) (argsL : List Value) (hd : decode bytes pc = .ok (.invokespecial i, 3)) (hy1 : y.name = "<init>") (w1 : (Jvm.Cond.methodLink own i y).before G.a0 G.Z = true) (w2 : (Jvm.Cond.instanceMethod y).before G.a0 G.Z = true) (w3 : (Jvm.Cond.initialized y.cls).before G.a0 G.Z = true) (w4 : (Jvm.Cond.code y bytes' maxL' none).before G.a0 G.Z = true)
    (hy : y.cls ≠ "java/lang/invoke/MethodHandle" ∧ y.cls ≠ "java/lang/invoke/VarHandle") (M : Con G y bytes' maxL' none rm' (.ref x :: argsL).toArray h R') (hlen : ∀ sig, parseMethodDescriptor y.desc = some sig → argsL.length = sig.parameters.length) (hsz : ls.size = maxL)
    (hf : rm'.frames + 1 ≤ rm.frames) (hl : (rest.map fun v => v.category).sum + (maxL' + 11) + rm'.locals ≤ rm.locals) (hc : a + rm'.cells ≤ rm.cells) (hs : b + rm'.slots ≤ rm.slots) (hst : stk = argsL.reverse ++ .ref x :: rest) (hp : pc + 3 = pc')
    (k : ∀ v h', R' v h' → N G K rm Q h' (a + rm'.cells) (b + rm'.slots) pc' ls (v.toList ++ rest)) : N G K rm Q h a b pc ls stk := fun T locs X e N0 => by
  subst hp
  obtain ⟨v, _, ⟨T', L', k', n'⟩, -, X', ⟨Lc, ⟨hQ, N1⟩, l', y', z'⟩, s'⟩ := X.specialBack C.hx (y := y) hy1 C.ow (mvT C.hZ w1) (mvT C.hZ w2) (mvT C.hZ w4) hy (backOf (W := (rest.map fun v => v.category).sum) (Q := fun v h L => R' v h ∧ Fr G.n0 L) (M []) C.hZ w4 w3 hf hl) (g := mkF K.m pc ls stk) rfl (by rw [C.ml]; exact hsz) (Steps.refl _) (a := x) (argsL := argsL) (rest := rest) hlen hst (by show 2 * 0 + _ ≤ _; omega) (hb C.by hd) (fun _ _ => ⟨rfl, e, hc, hs⟩)
  dsimp only [Pt.U, Pt.locs, Pt.cells, Pt.slots] at X' l' y' z' s' hQ
  subst l' y' z'
  obtain ⟨s₂, o, hs', r⟩ := k v T'.heap hQ T' _ X' rfl (N0.app N1)
  exact ⟨s₂, o, s'.trans hs', r⟩
/-- an instance method of a class that selects itself -/
theorem N.callV (C : Cx G K own nm bytes maxL ret W) {i : Nat} (x : Addr) (argsL : List Value) (hd : decode bytes pc = .ok (.invokevirtual i, 3)) (w1 : (Jvm.Cond.methodLink own i y).before G.a0 G.Z = true) (wd : (Jvm.Cond.declares y).before G.a0 G.Z = true) (ws : (Jvm.Cond.selects y.cls y y).before G.a0 G.Z = true) (w2 : (Jvm.Cond.instanceMethod y).before G.a0 G.Z = true) (w3 : (Jvm.Cond.initialized y.cls).before G.a0 G.Z = true) (w4 : (Jvm.Cond.code y bytes' maxL' ret').before G.a0 G.Z = true)
    (hy : y.cls ≠ "java/lang/invoke/MethodHandle" ∧ y.cls ≠ "java/lang/invoke/VarHandle") (E : Exa G.Z h x y.cls) (M : Con G y bytes' maxL' ret' rm' (.ref x :: argsL).toArray h R') (hlen : ∀ sig, parseMethodDescriptor y.desc = some sig → argsL.length = sig.parameters.length) (hsz : ls.size = maxL)
    (hf : rm'.frames + 1 ≤ rm.frames) (hl : (rest.map fun v => v.category).sum + (maxL' + 11) + rm'.locals ≤ rm.locals) (hc : a + rm'.cells ≤ rm.cells) (hs : b + rm'.slots ≤ rm.slots) (hst : stk = argsL.reverse ++ .ref x :: rest) (hp : pc + 3 = pc')
    (k : ∀ v h', R' v h' → N G K rm Q h' (a + rm'.cells) (b + rm'.slots) pc' ls (v.toList ++ rest)) : N G K rm Q h a b pc ls stk := fun T locs X e N0 => by
  subst hp
  obtain ⟨cq, kq, qa, qb, qc⟩ := isOf C.hZ e E
  obtain ⟨v, _, ⟨T', L', k', n'⟩, -, X', ⟨Lc, ⟨hQ, N1⟩, l', y', z'⟩, s'⟩ := X.virtualBack C.hx (y := y) (z := y) C.ow (mvT C.hZ w1) (mvT C.hZ wd) (notFace_of_selects (args := #[]) (mvT C.hZ ws)) (mvT C.hZ ws) (mvT C.hZ w2) hy (backOf (W := (rest.map fun v => v.category).sum) (Q := fun v h L => R' v h ∧ Fr G.n0 L) (M []) C.hZ w4 w3 hf hl) qa qc (g := mkF K.m pc ls stk) rfl (by rw [C.ml]; exact hsz) (Steps.refl _) (argsL := argsL) (rest := rest) hlen hst (by show 2 * 0 + _ ≤ _; omega) (hb C.by hd) (fun _ _ => ⟨rfl, e, hc, hs⟩)
  dsimp only [Pt.U, Pt.locs, Pt.cells, Pt.slots] at X' l' y' z' s' hQ
  subst l' y' z'
  obtain ⟨s₂, o, hs', r⟩ := k v T'.heap hQ T' _ X' rfl (N0.app N1)
  exact ⟨s₂, o, s'.trans hs', r⟩
/-- a private method -/
theorem N.callP (C : Cx G K own nm bytes maxL ret W) {i : Nat} (x : Addr) (argsL : List Value) (hd : decode bytes pc = .ok (.invokevirtual i, 3)) (w1 : (Jvm.Cond.methodLink own i y).before G.a0 G.Z = true) (wp : (Jvm.Cond.privateMethod y).before G.a0 G.Z = true) (ws : (Jvm.Cond.selects y.cls y y).before G.a0 G.Z = true) (w2 : (Jvm.Cond.instanceMethod y).before G.a0 G.Z = true) (w3 : (Jvm.Cond.initialized y.cls).before G.a0 G.Z = true) (w4 : (Jvm.Cond.code y bytes' maxL' ret').before G.a0 G.Z = true)
    (hy : y.cls ≠ "java/lang/invoke/MethodHandle" ∧ y.cls ≠ "java/lang/invoke/VarHandle") (E : Exa G.Z h x y.cls) (M : Con G y bytes' maxL' ret' rm' (.ref x :: argsL).toArray h R') (hlen : ∀ sig, parseMethodDescriptor y.desc = some sig → argsL.length = sig.parameters.length) (hsz : ls.size = maxL)
    (hf : rm'.frames + 1 ≤ rm.frames) (hl : (rest.map fun v => v.category).sum + (maxL' + 11) + rm'.locals ≤ rm.locals) (hc : a + rm'.cells ≤ rm.cells) (hs : b + rm'.slots ≤ rm.slots) (hst : stk = argsL.reverse ++ .ref x :: rest) (hp : pc + 3 = pc')
    (k : ∀ v h', R' v h' → N G K rm Q h' (a + rm'.cells) (b + rm'.slots) pc' ls (v.toList ++ rest)) : N G K rm Q h a b pc ls stk := fun T locs X e N0 => by
  subst hp
  obtain ⟨cq, qa, qb⟩ := E.cell
  obtain ⟨v, _, ⟨T', L', k', n'⟩, -, X', ⟨Lc, ⟨hQ, N1⟩, l', y', z'⟩, s'⟩ := X.privateBack C.hx (y := y) C.ow (mvT C.hZ w1) (mvT C.hZ w2) (mvT C.hZ ws) (Cond.privateMethod_at (mvP C.hZ wp (args := #[]))) (mvT C.hZ w4) hy (backOf (W := (rest.map fun v => v.category).sum) (Q := fun v h L => R' v h ∧ Fr G.n0 L) (M []) C.hZ w4 w3 hf hl) (g := mkF K.m pc ls stk) rfl (by rw [C.ml]; exact hsz) (Steps.refl _) (a := x) (by rw [e]; exact qa) qb (argsL := argsL) (rest := rest) hlen hst (by show 2 * 0 + _ ≤ _; omega) (hb C.by hd) (fun _ _ => ⟨rfl, e, hc, hs⟩)
  dsimp only [Pt.U, Pt.locs, Pt.cells, Pt.slots] at X' l' y' z' s' hQ
  subst l' y' z'
  obtain ⟨s₂, o, hs', r⟩ := k v T'.heap hQ T' _ X' rfl (N0.app N1)
  exact ⟨s₂, o, s'.trans hs', r⟩
end Calls
end Rules
end Jvm.OwnKit

namespace Jvm.Pilot.@@N@@
open Jvm Jvm.ClassFile Sem Op Lib Jvm.Free Jvm.Stand Jvm.LawKit Jvm.RoadKit Bundle Jvm.OwnKit Jvm.Pilot.@@N@@.Jvm.D
def QI (n : Nat) (hd tl sz : Int32) (rs hs : List Int32) (it : List Int32) : Prop :=
  0 < n ∧ n ≤ 4 ∧ rs.length = n ∧ hs.length = n ∧ it.length ≤ n ∧ 0 ≤ hd.toInt ∧ hd.toInt < n ∧ tl.toInt = (hd.toInt + it.length) % n ∧ sz.toInt = it.length ∧
  (∀ (i : Nat) (x : Int32), it[i]? = some x → rs[((hd.toInt + i) % n).toNat]? = some x) ∧ (∀ x ∈ it, 0 ≤ x.toInt ∧ x.toInt < n) ∧ it.Nodup ∧
  (∀ x : Int32, 0 ≤ x.toInt → x.toInt < n → ∃ b : Int32, hs[x.toInt.toNat]? = some b ∧ ((b = 1 ∧ x ∈ it) ∨ (b = 0 ∧ x ∉ it)))
theorem own_pig : ∀ (n : Nat) (l : List Int32), l.Nodup → (∀ x ∈ l, 0 ≤ x.toInt ∧ x.toInt < n) → l.length ≤ n
  | 0, l, _, h => by
    cases l with
    | nil => simp
    | cons a t => have := h a List.mem_cons_self; omega
  | n + 1, l, hn, h => by
    by_cases q : ∃ x ∈ l, x.toInt = n
    · obtain ⟨x, hx, ex⟩ := q
      have h2 := own_pig n (l.erase x) (hn.erase x) (fun y hy => by
        have hm := (List.Nodup.mem_erase_iff hn).mp hy
        have h3 := h y hm.2
        have : y.toInt ≠ n := fun e => hm.1 (Int32.toInt_inj.mp (e.trans ex.symm))
        omega)
      have := List.length_erase_of_mem hx
      have h4 := List.length_pos_of_mem hx
      omega
    · have h2 := own_pig n l hn (fun y hy => by
        have h3 := h y hy
        have : y.toInt ≠ n := fun e => q ⟨y, hy, e⟩
        omega)
      omega
def own_nx (n : Nat) (t : Int32) : Int32 := if t + 1 = Int32.ofNat n then 0 else t + 1
theorem own_ofNat4 {n : Nat} (h : n ≤ 4) : (Int32.ofNat n).toInt = n := by
  rcases (by omega : n = 0 ∨ n = 1 ∨ n = 2 ∨ n = 3 ∨ n = 4) with rfl | rfl | rfl | rfl | rfl <;> decide
theorem own_p1 {t : Int32} (h0 : 0 ≤ t.toInt) (h1 : t.toInt < 1000) : (t + 1).toInt = t.toInt + 1 := by
  rw [Int32.toInt_add]
  have e : (1 : Int32).toInt = 1 := by decide
  rw [e]
  exact Int.bmod_eq_of_le (by omega) (by omega)
theorem own_m1' {t : Int32} (h0 : 0 < t.toInt) (h1 : t.toInt < 1000) : (t - 1).toInt = t.toInt - 1 := by
  rw [Int32.toInt_sub]
  have e : (1 : Int32).toInt = 1 := by decide
  rw [e]
  exact Int.bmod_eq_of_le (by omega) (by omega)
theorem own_nx_eq {n : Nat} {t : Int32} (hn : n ≤ 4) (h0 : 0 ≤ t.toInt) (h1 : t.toInt < n) : (own_nx n t).toInt = (t.toInt + 1) % n := by
  have e1 := own_p1 h0 (by omega)
  have e2 := own_ofNat4 hn
  unfold own_nx
  split
  · rename_i q
    have := congrArg Int32.toInt q
    rw [e1, e2] at this
    have e0 : (0 : Int32).toInt = 0 := by decide
    rw [e0, this, Int.emod_self]
  · rename_i q
    have : (t + 1).toInt ≠ (Int32.ofNat n).toInt := fun z => q (Int32.toInt_inj.mp z)
    rw [e1, e2] at this
    rw [e1, Int.emod_eq_of_lt (by omega) (by omega)]
theorem own_new (n : Nat) (h0 : 0 < n) (h4 : n ≤ 4) : QI n 0 0 0 (List.replicate n 0) (List.replicate n 0) [] := by
  have e0 : (0 : Int32).toInt = 0 := by decide
  refine ⟨h0, h4, by simp, by simp, by simp, by omega, by omega, by rw [e0]; simp, by rw [e0]; simp, by simp, by simp, by simp, fun x hx hn => ⟨0, ?_, Or.inr ⟨rfl, by simp⟩⟩⟩
  rw [List.getElem?_replicate, if_pos (by omega)]
theorem own_add {n : Nat} {hd tl sz x : Int32} {rs hs it : List Int32} (q : QI n hd tl sz rs hs it) (h0 : 0 ≤ x.toInt) (h1 : x.toInt < n) (hx : x ∉ it) :
    QI n hd (own_nx n tl) (sz + 1) (rs.set tl.toInt.toNat x) (hs.set x.toInt.toNat 1) (it ++ [x]) := by
  obtain ⟨a1, a2, a3, a4, a5, a6, a7, a8, a9, b1, b2, b3, b4⟩ := q
  have hlt : it.length + 1 ≤ n := by
    have := own_pig n (x :: it) (List.nodup_cons.mpr ⟨hx, b3⟩) (fun y hy => by
      rcases List.mem_cons.mp hy with rfl | hy
      · exact ⟨h0, h1⟩
      · exact b2 y hy)
    simpa using this
  have htl : 0 ≤ tl.toInt ∧ tl.toInt < n := by
    rw [a8]
    exact ⟨Int.emod_nonneg _ (by omega), Int.emod_lt_of_pos _ (by omega)⟩
  have hnt := own_nx_eq a2 htl.1 htl.2
  have hsz := own_p1 (t := sz) (by omega) (by omega)
  refine ⟨a1, a2, by simp [a3], by simp [a4], by simpa using hlt, a6, a7, ?_, ?_, ?_, ?_, ?_, ?_⟩
  · rw [hnt, a8, List.length_append, List.length_singleton]
    push_cast
    rw [Int.emod_add_emod, Int.add_assoc]
  · rw [hsz, a9, List.length_append, List.length_singleton]; push_cast; rfl
  · intro i y hy
    by_cases hi : i < it.length
    · rw [List.getElem?_append_left hi] at hy
      have := b1 i y hy
      rw [List.getElem?_set_ne]
      · exact this
      · intro e
        have hl := (List.getElem?_eq_some_iff.mp hy).1
        have p1 : 0 ≤ (hd.toInt + (i : Int)) % (n : Int) := Int.emod_nonneg _ (by omega)
        have e' : tl.toInt = (hd.toInt + (i : Int)) % (n : Int) := by omega
        rw [a8] at e'
        rcases (by omega : n = 1 ∨ n = 2 ∨ n = 3 ∨ n = 4) with rfl | rfl | rfl | rfl <;> omega
    · have hl := (List.getElem?_eq_some_iff.mp hy).1
      simp at hl
      have hi' : i = it.length := by omega
      subst hi'
      rw [List.getElem?_append_right (Nat.le_refl _)] at hy
      simp at hy
      subst hy
      rw [← a8, List.getElem?_set_self (by omega)]
  · intro y hy
    rcases List.mem_append.mp hy with hy | hy
    · exact b2 y hy
    · simp at hy; subst hy; exact ⟨h0, h1⟩
  · rw [List.nodup_append]
    refine ⟨b3, by simp, fun a ha b hb e => ?_⟩
    simp at hb
    subst hb e
    exact hx ha
  · intro y hy0 hy1
    by_cases e : y = x
    · subst e
      exact ⟨1, List.getElem?_set_self (by omega), Or.inl ⟨rfl, by simp⟩⟩
    · obtain ⟨b, c1, c2⟩ := b4 y hy0 hy1
      have ne : x.toInt.toNat ≠ y.toInt.toNat := fun z => e (Int32.toInt_inj.mp (by omega))
      refine ⟨b, by rw [List.getElem?_set_ne ne]; exact c1, ?_⟩
      simpa [e] using c2
theorem own_poll {n : Nat} {hd tl sz x : Int32} {rs hs it : List Int32} (q : QI n hd tl sz rs hs (x :: it)) :
    rs[hd.toInt.toNat]? = some x ∧ QI n (own_nx n hd) tl (sz - 1) rs (hs.set x.toInt.toNat 0) it := by
  obtain ⟨a1, a2, a3, a4, a5, a6, a7, a8, a9, b1, b2, b3, b4⟩ := q
  simp only [List.length_cons] at a5 a8 a9
  have hnt := own_nx_eq a2 a6 a7
  have hsz := own_m1' (t := sz) (by omega) (by omega)
  have hx := b2 x List.mem_cons_self
  have hnd := List.nodup_cons.mp b3
  refine ⟨?_, a1, a2, a3, by simp [a4], by omega, ?_, ?_, ?_, ?_, ?_, ?_, hnd.2, ?_⟩
  · have := b1 0 x (by simp)
    rwa [show (hd.toInt + ((0 : Nat) : Int)) % (n : Int) = hd.toInt from by rw [Int.natCast_zero, Int.add_zero]; exact Int.emod_eq_of_lt a6 a7] at this
  · rw [hnt]; exact Int.emod_nonneg _ (by omega)
  · rw [hnt]; exact Int.emod_lt_of_pos _ (by omega)
  · rw [hnt, a8, Int.emod_add_emod]; congr 1; push_cast; omega
  · rw [hsz, a9]; push_cast; omega
  · intro i y hy
    have := b1 (i + 1) y (by simpa using hy)
    rw [hnt, Int.emod_add_emod]
    rwa [show hd.toInt + 1 + (i : Int) = hd.toInt + ((i + 1 : Nat) : Int) from by push_cast; omega]
  · exact fun y hy => b2 y (List.mem_cons_of_mem _ hy)
  · intro y hy0 hy1
    by_cases e : y = x
    · subst e
      exact ⟨0, List.getElem?_set_self (by omega), Or.inr ⟨rfl, hnd.1⟩⟩
    · obtain ⟨b, c1, c2⟩ := b4 y hy0 hy1
      have ne : x.toInt.toNat ≠ y.toInt.toNat := fun z => e (Int32.toInt_inj.mp (by omega))
      refine ⟨b, by rw [List.getElem?_set_ne ne]; exact c1, ?_⟩
      simpa [e] using c2
def Qh (G : Gx) (h : Heap) (q r d : Addr) (n : Nat) (it : List Int32) : Prop :=
  ∃ (hd tl sz : Int32) (rs hs : List Int32), q ≠ r ∧ q ≠ d ∧ r ≠ d ∧ G.n0 ≤ q ∧ G.n0 ≤ r ∧ G.n0 ≤ d ∧ Exa G.Z h q "com/example/ravel/ravel/search/NodeQueue" ∧ Fld G.Z h q "com/example/ravel/ravel/search/NodeQueue" "ring" "[I" (.ref r) ∧ Fld G.Z h q "com/example/ravel/ravel/search/NodeQueue" "held" "[Z" (.ref d) ∧ Fld G.Z h q "com/example/ravel/ravel/search/NodeQueue" "head" "I" (.int hd) ∧ Fld G.Z h q "com/example/ravel/ravel/search/NodeQueue" "tail" "I" (.int tl) ∧ Fld G.Z h q "com/example/ravel/ravel/search/NodeQueue" "size" "I" (.int sz) ∧ Av G.Z h r .int (rs.map .int) ∧ Av G.Z h d .boolean (hs.map .int) ∧ QI n hd tl sz rs hs it
theorem Qh.rng {G : Gx} {h : Heap} {q r d : Addr} {n : Nat} {it : List Int32} (H : Qh G h q r d n it) : n ≤ 4 ∧ (∀ x ∈ it, 0 ≤ x.toInt ∧ x.toInt < n) ∧ it.Nodup := by
  obtain ⟨hd, tl, sz, rs, hs, -, -, -, -, -, -, -, -, -, -, -, -, -, -, qi⟩ := H
  exact ⟨qi.2.1, qi.2.2.2.2.2.2.2.2.2.2.1, qi.2.2.2.2.2.2.2.2.2.2.2.1⟩
theorem Qh.exa {G : Gx} {h : Heap} {q r d : Addr} {n : Nat} {it : List Int32} (H : Qh G h q r d n it) : Exa G.Z h q "com/example/ravel/ravel/search/NodeQueue" := by
  obtain ⟨hd, tl, sz, rs, hs, -, -, -, -, -, -, E, -⟩ := H
  exact E
theorem Qh.lts {G : Gx} {h : Heap} {q r d : Addr} {n : Nat} {it : List Int32} (H : Qh G h q r d n it) : q < h.size ∧ r < h.size ∧ d < h.size := by
  obtain ⟨hd, tl, sz, rs, hs, -, -, -, -, -, -, E, -, -, -, -, -, A, B, -⟩ := H
  exact ⟨E.lt, A.lt, B.lt⟩
theorem Qh.ext {G : Gx} {h h' : Heap} {q r d : Addr} {n : Nat} {it : List Int32} (H : Qh G h q r d n it) (E : Ext h h') : Qh G h' q r d n it := by
  obtain ⟨hd, tl, sz, rs, hs, a1, a2, a3, a4, a5, a6, b1, b2, b3, b4, b5, b6, c1, c2, qi⟩ := H
  exact ⟨hd, tl, sz, rs, hs, a1, a2, a3, a4, a5, a6, b1.ext E, b2.ext E, b3.ext E, b4.ext E, b5.ext E, b6.ext E, c1.ext E, c2.ext E, qi⟩
theorem Qh.other {G : Gx} {h h' : Heap} {q r d x : Addr} {n sl : Nat} {v : Value} {it : List Int32} (H : Qh G h q r d n it) (W : Wr h h' x sl v) (n1 : q ≠ x) (n2 : r ≠ x) (n3 : d ≠ x) : Qh G h' q r d n it := by
  obtain ⟨hd, tl, sz, rs, hs, a1, a2, a3, a4, a5, a6, b1, b2, b3, b4, b5, b6, c1, c2, qi⟩ := H
  exact ⟨hd, tl, sz, rs, hs, a1, a2, a3, a4, a5, a6, b1.wr W, b2.other W (Or.inl n1), b3.other W (Or.inl n1), b4.other W (Or.inl n1), b5.other W (Or.inl n1), b6.other W (Or.inl n1), c1.other W n2, c2.other W n3, qi⟩
theorem own_held {n : Nat} {hd tl sz : Int32} {rs hs it : List Int32} (q : QI n hd tl sz rs hs it) {x : Int32} (h0 : 0 ≤ x.toInt) (h1 : x.toInt < n) : ∃ b : Int32, (hs.map Value.int)[x.toInt.toNat]? = some (.int b) ∧ ((b = 1 ∧ x ∈ it) ∨ (b = 0 ∧ x ∉ it)) := by
  obtain ⟨b, e1, e2⟩ := q.2.2.2.2.2.2.2.2.2.2.2.2 x h0 h1
  exact ⟨b, by rw [List.getElem?_map, e1]; rfl, e2⟩
theorem own_tl {n : Nat} {hd tl sz : Int32} {rs hs it : List Int32} (q : QI n hd tl sz rs hs it) : 0 ≤ tl.toInt ∧ tl.toInt < n := by
  obtain ⟨a1, a2, a3, a4, a5, a6, a7, a8, -⟩ := q
  rw [a8]
  exact ⟨Int.emod_nonneg _ (by omega), Int.emod_lt_of_pos _ (by omega)⟩
theorem own_b1 {b x : Int32} {it : List Int32} (h : (b = 1 ∧ x ∈ it) ∨ (b = 0 ∧ x ∉ it)) (hb : ¬ b = (0 : Int32)) : x ∈ it := by
  rcases h with h | h
  · exact h.2
  · exact absurd h.1 hb
theorem own_b0 {b x : Int32} {it : List Int32} (h : (b = 1 ∧ x ∈ it) ∨ (b = 0 ∧ x ∉ it)) (hb : b = (0 : Int32)) : x ∉ it := by
  rcases h with h | h
  · rw [h.1] at hb; exact absurd hb (by decide)
  · exact h.2
theorem pn1 : plainName "com/example/ravel/ravel/search/NodeQueue" = true := by first | (simp [plainName, overriddenIn]; done) | decide +kernel
theorem pn6 : plainName "com/example/ravel/ravel/search/NodeQueue" = true := by first | (simp [plainName, overriddenIn]; done) | decide +kernel
theorem pn4 : plainName "com/example/ravel/ravel/search/NodeQueue" = true := by first | (simp [plainName, overriddenIn]; done) | decide +kernel
theorem pn3 : plainName "com/example/ravel/ravel/search/NodeQueue" = true := by first | (simp [plainName, overriddenIn]; done) | decide +kernel
theorem pn5 : plainName "com/example/ravel/ravel/search/NodeQueue" = true := by first | (simp [plainName, overriddenIn]; done) | decide +kernel
theorem d1_0 : decode prog_51_method_1_code 0 = .ok (.aload_n 0, 1) := by decide +kernel
theorem d1_1 : decode prog_51_method_1_code 1 = .ok (.invokespecial 1, 3) := by decide +kernel
theorem d1_4 : decode prog_51_method_1_code 4 = .ok (.aload_n 0, 1) := by decide +kernel
theorem d1_5 : decode prog_51_method_1_code 5 = .ok (.iload_n 1, 1) := by decide +kernel
theorem d1_6 : decode prog_51_method_1_code 6 = .ok (.newarray .int, 2) := by decide +kernel
theorem d1_8 : decode prog_51_method_1_code 8 = .ok (.putfield 7, 3) := by decide +kernel
theorem d1_11 : decode prog_51_method_1_code 11 = .ok (.aload_n 0, 1) := by decide +kernel
theorem d1_12 : decode prog_51_method_1_code 12 = .ok (.iload_n 1, 1) := by decide +kernel
theorem d1_13 : decode prog_51_method_1_code 13 = .ok (.newarray .boolean, 2) := by decide +kernel
theorem d1_15 : decode prog_51_method_1_code 15 = .ok (.putfield 13, 3) := by decide +kernel
theorem d1_18 : decode prog_51_method_1_code 18 = .ok (.return_, 1) := by decide +kernel
theorem d6_0 : decode prog_51_method_2_code 0 = .ok (.aload_n 0, 1) := by decide +kernel
theorem d6_1 : decode prog_51_method_2_code 1 = .ok (.getfield 17, 3) := by decide +kernel
theorem d6_4 : decode prog_51_method_2_code 4 = .ok (.ifCond .ne 7, 3) := by decide +kernel
theorem d6_7 : decode prog_51_method_2_code 7 = .ok (.iconst 1, 1) := by decide +kernel
theorem d6_8 : decode prog_51_method_2_code 8 = .ok (.goto 4, 3) := by decide +kernel
theorem d6_11 : decode prog_51_method_2_code 11 = .ok (.iconst 0, 1) := by decide +kernel
theorem d6_12 : decode prog_51_method_2_code 12 = .ok (.ireturn, 1) := by decide +kernel
theorem d4_0 : decode prog_51_method_5_code 0 = .ok (.iload_n 1, 1) := by decide +kernel
theorem d4_1 : decode prog_51_method_5_code 1 = .ok (.iconst 1, 1) := by decide +kernel
theorem d4_2 : decode prog_51_method_5_code 2 = .ok (.iadd, 1) := by decide +kernel
theorem d4_3 : decode prog_51_method_5_code 3 = .ok (.aload_n 0, 1) := by decide +kernel
theorem d4_4 : decode prog_51_method_5_code 4 = .ok (.getfield 7, 3) := by decide +kernel
theorem d4_7 : decode prog_51_method_5_code 7 = .ok (.arraylength, 1) := by decide +kernel
theorem d4_8 : decode prog_51_method_5_code 8 = .ok (.if_icmp .ne 7, 3) := by decide +kernel
theorem d4_11 : decode prog_51_method_5_code 11 = .ok (.iconst 0, 1) := by decide +kernel
theorem d4_12 : decode prog_51_method_5_code 12 = .ok (.goto 6, 3) := by decide +kernel
theorem d4_15 : decode prog_51_method_5_code 15 = .ok (.iload_n 1, 1) := by decide +kernel
theorem d4_16 : decode prog_51_method_5_code 16 = .ok (.iconst 1, 1) := by decide +kernel
theorem d4_17 : decode prog_51_method_5_code 17 = .ok (.iadd, 1) := by decide +kernel
theorem d4_18 : decode prog_51_method_5_code 18 = .ok (.ireturn, 1) := by decide +kernel
theorem d3_0 : decode prog_51_method_3_code 0 = .ok (.aload_n 0, 1) := by decide +kernel
theorem d3_1 : decode prog_51_method_3_code 1 = .ok (.getfield 13, 3) := by decide +kernel
theorem d3_4 : decode prog_51_method_3_code 4 = .ok (.iload_n 1, 1) := by decide +kernel
theorem d3_5 : decode prog_51_method_3_code 5 = .ok (.baload, 1) := by decide +kernel
theorem d3_6 : decode prog_51_method_3_code 6 = .ok (.ifCond .eq 4, 3) := by decide +kernel
theorem d3_9 : decode prog_51_method_3_code 9 = .ok (.return_, 1) := by decide +kernel
theorem d3_10 : decode prog_51_method_3_code 10 = .ok (.aload_n 0, 1) := by decide +kernel
theorem d3_11 : decode prog_51_method_3_code 11 = .ok (.getfield 13, 3) := by decide +kernel
theorem d3_14 : decode prog_51_method_3_code 14 = .ok (.iload_n 1, 1) := by decide +kernel
theorem d3_15 : decode prog_51_method_3_code 15 = .ok (.iconst 1, 1) := by decide +kernel
theorem d3_16 : decode prog_51_method_3_code 16 = .ok (.bastore, 1) := by decide +kernel
theorem d3_17 : decode prog_51_method_3_code 17 = .ok (.aload_n 0, 1) := by decide +kernel
theorem d3_18 : decode prog_51_method_3_code 18 = .ok (.getfield 7, 3) := by decide +kernel
theorem d3_21 : decode prog_51_method_3_code 21 = .ok (.aload_n 0, 1) := by decide +kernel
theorem d3_22 : decode prog_51_method_3_code 22 = .ok (.getfield 21, 3) := by decide +kernel
theorem d3_25 : decode prog_51_method_3_code 25 = .ok (.iload_n 1, 1) := by decide +kernel
theorem d3_26 : decode prog_51_method_3_code 26 = .ok (.iastore, 1) := by decide +kernel
theorem d3_27 : decode prog_51_method_3_code 27 = .ok (.aload_n 0, 1) := by decide +kernel
theorem d3_28 : decode prog_51_method_3_code 28 = .ok (.aload_n 0, 1) := by decide +kernel
theorem d3_29 : decode prog_51_method_3_code 29 = .ok (.aload_n 0, 1) := by decide +kernel
theorem d3_30 : decode prog_51_method_3_code 30 = .ok (.getfield 21, 3) := by decide +kernel
theorem d3_33 : decode prog_51_method_3_code 33 = .ok (.invokevirtual 24, 3) := by decide +kernel
theorem d3_36 : decode prog_51_method_3_code 36 = .ok (.putfield 21, 3) := by decide +kernel
theorem d3_39 : decode prog_51_method_3_code 39 = .ok (.aload_n 0, 1) := by decide +kernel
theorem d3_40 : decode prog_51_method_3_code 40 = .ok (.dup, 1) := by decide +kernel
theorem d3_41 : decode prog_51_method_3_code 41 = .ok (.getfield 17, 3) := by decide +kernel
theorem d3_44 : decode prog_51_method_3_code 44 = .ok (.iconst 1, 1) := by decide +kernel
theorem d3_45 : decode prog_51_method_3_code 45 = .ok (.iadd, 1) := by decide +kernel
theorem d3_46 : decode prog_51_method_3_code 46 = .ok (.putfield 17, 3) := by decide +kernel
theorem d3_49 : decode prog_51_method_3_code 49 = .ok (.return_, 1) := by decide +kernel
theorem d5_0 : decode prog_51_method_4_code 0 = .ok (.aload_n 0, 1) := by decide +kernel
theorem d5_1 : decode prog_51_method_4_code 1 = .ok (.getfield 7, 3) := by decide +kernel
theorem d5_4 : decode prog_51_method_4_code 4 = .ok (.aload_n 0, 1) := by decide +kernel
theorem d5_5 : decode prog_51_method_4_code 5 = .ok (.getfield 28, 3) := by decide +kernel
theorem d5_8 : decode prog_51_method_4_code 8 = .ok (.iaload, 1) := by decide +kernel
theorem d5_9 : decode prog_51_method_4_code 9 = .ok (.istore_n 1, 1) := by decide +kernel
theorem d5_10 : decode prog_51_method_4_code 10 = .ok (.aload_n 0, 1) := by decide +kernel
theorem d5_11 : decode prog_51_method_4_code 11 = .ok (.getfield 13, 3) := by decide +kernel
theorem d5_14 : decode prog_51_method_4_code 14 = .ok (.iload_n 1, 1) := by decide +kernel
theorem d5_15 : decode prog_51_method_4_code 15 = .ok (.iconst 0, 1) := by decide +kernel
theorem d5_16 : decode prog_51_method_4_code 16 = .ok (.bastore, 1) := by decide +kernel
theorem d5_17 : decode prog_51_method_4_code 17 = .ok (.aload_n 0, 1) := by decide +kernel
theorem d5_18 : decode prog_51_method_4_code 18 = .ok (.aload_n 0, 1) := by decide +kernel
theorem d5_19 : decode prog_51_method_4_code 19 = .ok (.aload_n 0, 1) := by decide +kernel
theorem d5_20 : decode prog_51_method_4_code 20 = .ok (.getfield 28, 3) := by decide +kernel
theorem d5_23 : decode prog_51_method_4_code 23 = .ok (.invokevirtual 24, 3) := by decide +kernel
theorem d5_26 : decode prog_51_method_4_code 26 = .ok (.putfield 28, 3) := by decide +kernel
theorem d5_29 : decode prog_51_method_4_code 29 = .ok (.aload_n 0, 1) := by decide +kernel
theorem d5_30 : decode prog_51_method_4_code 30 = .ok (.dup, 1) := by decide +kernel
theorem d5_31 : decode prog_51_method_4_code 31 = .ok (.getfield 17, 3) := by decide +kernel
theorem d5_34 : decode prog_51_method_4_code 34 = .ok (.iconst 1, 1) := by decide +kernel
theorem d5_35 : decode prog_51_method_4_code 35 = .ok (.isub, 1) := by decide +kernel
theorem d5_36 : decode prog_51_method_4_code 36 = .ok (.putfield 17, 3) := by decide +kernel
theorem d5_39 : decode prog_51_method_4_code 39 = .ok (.iload_n 1, 1) := by decide +kernel
theorem d5_40 : decode prog_51_method_4_code 40 = .ok (.ireturn, 1) := by decide +kernel
theorem ef1 (m : MethodId) (x0 : Addr) (x1 : Int32) : entryFrame m #[(.ref x0), (.int x1)] 2 = mkF m 0 #[.val (.ref x0), .val (.int x1)] [] := by first | (simp [entryFrame, mkF, argsToLocals, Value.category]; done) | rfl
theorem ef6 (m : MethodId) (x0 : Addr) : entryFrame m #[(.ref x0)] 1 = mkF m 0 #[.val (.ref x0)] [] := by first | (simp [entryFrame, mkF, argsToLocals, Value.category]; done) | rfl
theorem ef4 (m : MethodId) (x0 : Addr) (x1 : Int32) : entryFrame m #[(.ref x0), (.int x1)] 2 = mkF m 0 #[.val (.ref x0), .val (.int x1)] [] := by first | (simp [entryFrame, mkF, argsToLocals, Value.category]; done) | rfl
theorem ef3 (m : MethodId) (x0 : Addr) (x1 : Int32) : entryFrame m #[(.ref x0), (.int x1)] 2 = mkF m 0 #[.val (.ref x0), .val (.int x1)] [] := by first | (simp [entryFrame, mkF, argsToLocals, Value.category]; done) | rfl
theorem ef5 (m : MethodId) (x0 : Addr) : entryFrame m #[(.ref x0)] 2 = mkF m 0 #[.val (.ref x0), .unset] [] := by first | (simp [entryFrame, mkF, argsToLocals, Value.category]; done) | rfl
def rm1 : Room := { frames := 1, cells := 2, slots := 8, locals := 12 }
def rm6 : Room := { frames := 0, cells := 0, slots := 0, locals := 0 }
def rm4 : Room := { frames := 0, cells := 0, slots := 0, locals := 0 }
def rm3 : Room := { frames := 1, cells := 0, slots := 0, locals := 16 }
def rm5 : Room := { frames := 1, cells := 0, slots := 0, locals := 16 }
theorem own_n4 (p : Int32) : ∃ n : Nat, ((p &&& (3 : Int32)) + (1 : Int32)).toInt = (n : Nat) ∧ 0 < n ∧ n ≤ 4 := by
  have h1 := c_mask p 3 2 (by decide) (by decide)
  have h2 := own_p1 (t := p &&& 3) (by omega) (by omega)
  exact ⟨((p &&& (3 : Int32)) + (1 : Int32)).toInt.toNat, by omega, by omega, by omega⟩
theorem own_rem {z : Int32} {n : Nat} (hz : z.toInt = (n : Nat)) (h1 : 0 < n) (y : Int32) : 0 ≤ ((y &&& (2147483647 : Int32)) % z).toInt ∧ ((y &&& (2147483647 : Int32)) % z).toInt < n := by
  have h0 := (c_and y 2147483647 (by decide)).1
  have := (c_iremV (y &&& (2147483647 : Int32)) z).1 h0 (by omega)
  omega
theorem own_nz {z : Int32} {n : Nat} (hz : z.toInt = (n : Nat)) (h1 : 0 < n) : z ≠ 0 := fun e => by
  have := congrArg Int32.toInt e
  have e0 : (0 : Int32).toInt = 0 := by decide
  omega
theorem own_i0 (x : Int32) : (if x ∈ ([] : List Int32) then [] else [] ++ [x]) = [x] := by simp
theorem own_i1e {x y : Int32} (h : y = x) : (if y ∈ [x] then [x] else [x] ++ [y]) = [x] := by simp [h]
theorem own_i1n {x y : Int32} (h : ¬ y = x) : (if y ∈ [x] then [x] else [x] ++ [y]) = [x, y] := by simp [h]
theorem own_i2x {x y z : Int32} (h : z = x) : (if z ∈ [x, y] then [x, y] else [x, y] ++ [z]) = [x, y] := by simp [h]
theorem own_i2y {x y z : Int32} (h : z = y) : (if z ∈ [x, y] then [x, y] else [x, y] ++ [z]) = [x, y] := by simp [h]
theorem own_i2n {x y z : Int32} (h : ¬ z = x) (h' : ¬ z = y) : (if z ∈ [x, y] then [x, y] else [x, y] ++ [z]) = [x, y, z] := by simp [h, h']
theorem own_e1 {z : Int32} {it : List Int32} (h : (z = 1 ∧ it = []) ∨ (z = 0 ∧ it ≠ [])) (e : it = []) : z = (1 : Int32) := by
  rcases h with h | h
  · exact h.1
  · exact absurd e h.2
theorem own_e0 {z : Int32} {it : List Int32} (h : (z = 1 ∧ it = []) ∨ (z = 0 ∧ it ≠ [])) (e : ¬ it = []) : z = (0 : Int32) := by
  rcases h with h | h
  · exact absurd h.2 e
  · exact h.1
theorem pn0 : plainName "com/example/ravel/ravel/search/NodeQueueAddPinLaw" = true := by first | (simp [plainName, overriddenIn]; done) | decide +kernel
theorem pd__I_V : parseMethodDescriptor "(I)V" = some ⟨[.int], none⟩ := by decide +kernel
theorem pd___I : parseMethodDescriptor "()I" = some ⟨[], some .int⟩ := by decide +kernel
theorem pd___Z : parseMethodDescriptor "()Z" = some ⟨[], some .boolean⟩ := by decide +kernel
theorem pd__I_I : parseMethodDescriptor "(I)I" = some ⟨[.int], some .int⟩ := by decide +kernel
theorem ef0 (m : MethodId) (x0 : Int32) (x1 : Int32) (x2 : Int32) (x3 : Int32) (x4 : Int32) (x5 : Int32) : entryFrame m #[(.int x0), (.int x1), (.int x2), (.int x3), (.int x4), (.int x5)] maxLocals = mkF m 0 #[.val (.int x0), .val (.int x1), .val (.int x2), .val (.int x3), .val (.int x4), .val (.int x5), .unset, .unset, .unset, .unset, .unset, .unset, .unset, .unset] [] := by first | (simp [entryFrame, mkF, argsToLocals, Value.category, maxLocals]; done) | rfl
set_option maxRecDepth 65536 in
set_option maxHeartbeats 40000000 in
theorem con1 (G : Gx) (hw : ∀ d ∈ tables_1, d.before G.a0 G.Z = true) (q : Addr) (z : Int32) (n : Nat) (o1 o2 : Value) (h : Heap) (hz : z.toInt = (n : Nat)) (h1 : 0 < n) (h4 : n ≤ 4) (Z0 : G.n0 ≤ h.size) (g_q : G.n0 ≤ q) (E_q : Exa G.Z h q "com/example/ravel/ravel/search/NodeQueue") (F_q_ring : Fld G.Z h q "com/example/ravel/ravel/search/NodeQueue" "ring" "[I" o1) (F_q_held : Fld G.Z h q "com/example/ravel/ravel/search/NodeQueue" "held" "[Z" o2) (F_q_head : Fld G.Z h q "com/example/ravel/ravel/search/NodeQueue" "head" "I" (.int (0 : Int32))) (F_q_tail : Fld G.Z h q "com/example/ravel/ravel/search/NodeQueue" "tail" "I" (.int (0 : Int32))) (F_q_size : Fld G.Z h q "com/example/ravel/ravel/search/NodeQueue" "size" "I" (.int (0 : Int32))) :
    Con G (⟨"com/example/ravel/ravel/search/NodeQueue", "<init>", "(I)V"⟩ : MethodName) prog_51_method_1_code 2 none rm1 #[(.ref q), (.int z)] h (fun v h' => v = none ∧ Keep h h' [q] ∧ ∃ r d, h.size ≤ r ∧ h.size ≤ d ∧ Qh G h' q r d n []) := by
  refine Con.of (W := tables_1) (plainFor_of_name pn1) hw (fun mm => ef1 mm q z) (fun K C => ?_)
  have C : Cx G K "com/example/ravel/ravel/search/NodeQueue" "<init>" prog_51_method_1_code 2 none tables_1 := C
  generalize hQ : (fun v h' => v = none ∧ Keep h h' [q] ∧ ∃ r d, h.size ≤ r ∧ h.size ≤ d ∧ Qh G h' q r d n [] : Option Value → Heap → Prop) = Q
  have K0 : Keep h h [q] := Keep.refl _ _
  refine N.aloadN C (pc' := 1) d1_0 rfl rfl rfl ?_
  refine N.initO C (pc' := 4) d1_1 (C.w (i := 6) rfl) (C.w (i := 7) rfl) (C.w (i := 8) rfl) rfl (by decide) (show 0 + 12 ≤ _ from by decide) rfl ?_
  have hnn : z.toInt.toNat = n := by omega
  refine N.aloadN C (pc' := 5) d1_4 rfl rfl rfl ?_
  refine N.iloadN C (pc' := 6) d1_5 rfl rfl ?_
  refine N.newP C (pc' := 8) (n := z) 4 d1_6 (C.w (i := 9) rfl) (by omega) (by omega) (by decide) (by decide) (by decide) rfl (fun h6_1 r hx_r Ex6 A'_r => ?_)
  have ne_q_r : q ≠ r := by rw [hx_r]; exact Nat.ne_of_lt F_q_ring.lt
  have ne_r_q := Ne.symm ne_q_r
  have g_r : G.n0 ≤ r := by rw [hx_r]; exact Z0
  have sz_r : h.size ≤ r := by rw [hx_r]; exact K0.1
  have Z0 := Nat.le_trans Z0 Ex6.1
  have F_q_ring := F_q_ring.ext Ex6
  have F_q_held := F_q_held.ext Ex6
  have F_q_head := F_q_head.ext Ex6
  have F_q_tail := F_q_tail.ext Ex6
  have F_q_size := F_q_size.ext Ex6
  have E_q := E_q.ext Ex6
  have K0 := K0.ext Ex6
  have A_r : Av G.Z h6_1 r .int (List.replicate z.toInt.toNat (.int (0 : Int32))) := A'_r
  refine N.putF C (pc' := 11) d1_8 (C.w (i := 10) rfl) F_q_ring E_q (Or.inr ⟨(C.w (i := 11) rfl), rfl, rfl⟩) (C.w (i := 1) rfl) (ty := (.array .int)) (by decide) rfl rfl g_q rfl (fun h8_2 W8 => ?_)
  have Z0 : G.n0 ≤ _ := (Wr.size W8).symm ▸ Z0
  have F_q_ring := F_q_ring.same W8
  have F_q_held := F_q_held.other W8 (Or.inr (slot_ne (Or.inr (C.w (i := 14) rfl)) (Or.inr (C.w (i := 11) rfl)) (by decide) (t := (.array .boolean)) (t' := (.array .int)) (by decide) (by decide)))
  have F_q_head := F_q_head.other W8 (Or.inr (slot_ne (Or.inl (C.w (i := 35) rfl)) (Or.inr (C.w (i := 11) rfl)) (by decide) (t := .int) (t' := (.array .int)) (by decide) (by decide)))
  have F_q_tail := F_q_tail.other W8 (Or.inr (slot_ne (Or.inl (C.w (i := 22) rfl)) (Or.inr (C.w (i := 11) rfl)) (by decide) (t := .int) (t' := (.array .int)) (by decide) (by decide)))
  have F_q_size := F_q_size.other W8 (Or.inr (slot_ne (Or.inl (C.w (i := 28) rfl)) (Or.inr (C.w (i := 11) rfl)) (by decide) (t := .int) (t' := (.array .int)) (by decide) (by decide)))
  have E_q := E_q.wr W8
  have A_r := A_r.other W8 ne_r_q
  have K0 := K0.wr W8 (Or.inl (List.mem_of_getElem? (i := 0) rfl))
  refine N.aloadN C (pc' := 12) d1_11 rfl rfl rfl ?_
  refine N.iloadN C (pc' := 13) d1_12 rfl rfl ?_
  refine N.newP C (pc' := 15) (n := z) 4 d1_13 (C.w (i := 12) rfl) (by omega) (by omega) (by decide) (by decide) (by decide) rfl (fun h13_3 d hx_d Ex13 A'_d => ?_)
  have ne_q_d : q ≠ d := by rw [hx_d]; exact Nat.ne_of_lt F_q_ring.lt
  have ne_d_q := Ne.symm ne_q_d
  have ne_r_d : r ≠ d := by rw [hx_d]; exact Nat.ne_of_lt A_r.lt
  have ne_d_r := Ne.symm ne_r_d
  have g_d : G.n0 ≤ d := by rw [hx_d]; exact Z0
  have sz_d : h.size ≤ d := by rw [hx_d]; exact K0.1
  have Z0 := Nat.le_trans Z0 Ex13.1
  have F_q_ring := F_q_ring.ext Ex13
  have F_q_held := F_q_held.ext Ex13
  have F_q_head := F_q_head.ext Ex13
  have F_q_tail := F_q_tail.ext Ex13
  have F_q_size := F_q_size.ext Ex13
  have E_q := E_q.ext Ex13
  have A_r := A_r.ext Ex13
  have K0 := K0.ext Ex13
  have A_d : Av G.Z h13_3 d .boolean (List.replicate z.toInt.toNat (.int (0 : Int32))) := A'_d
  refine N.putF C (pc' := 18) d1_15 (C.w (i := 13) rfl) F_q_held E_q (Or.inr ⟨(C.w (i := 14) rfl), rfl, rfl⟩) (C.w (i := 1) rfl) (ty := (.array .boolean)) (by decide) rfl rfl g_q rfl (fun h15_4 W15 => ?_)
  have Z0 : G.n0 ≤ _ := (Wr.size W15).symm ▸ Z0
  have F_q_ring := F_q_ring.other W15 (Or.inr (slot_ne (Or.inr (C.w (i := 11) rfl)) (Or.inr (C.w (i := 14) rfl)) (by decide) (t := (.array .int)) (t' := (.array .boolean)) (by decide) (by decide)))
  have F_q_held := F_q_held.same W15
  have F_q_head := F_q_head.other W15 (Or.inr (slot_ne (Or.inl (C.w (i := 35) rfl)) (Or.inr (C.w (i := 14) rfl)) (by decide) (t := .int) (t' := (.array .boolean)) (by decide) (by decide)))
  have F_q_tail := F_q_tail.other W15 (Or.inr (slot_ne (Or.inl (C.w (i := 22) rfl)) (Or.inr (C.w (i := 14) rfl)) (by decide) (t := .int) (t' := (.array .boolean)) (by decide) (by decide)))
  have F_q_size := F_q_size.other W15 (Or.inr (slot_ne (Or.inl (C.w (i := 28) rfl)) (Or.inr (C.w (i := 14) rfl)) (by decide) (t := .int) (t' := (.array .boolean)) (by decide) (by decide)))
  have E_q := E_q.wr W15
  have A_r := A_r.other W15 ne_r_q
  have A_d := A_d.other W15 ne_d_q
  have K0 := K0.wr W15 (Or.inl (List.mem_of_getElem? (i := 0) rfl))
  exact N.ret0 C rfl d1_18 (by decide) (by decide) (by subst hQ; exact ⟨rfl, K0, r, d, sz_r, sz_d, (0 : Int32), (0 : Int32), (0 : Int32), List.replicate n (0 : Int32), List.replicate n (0 : Int32), ne_q_r, ne_q_d, ne_r_d, g_q, g_r, g_d, E_q, F_q_ring, F_q_held, F_q_head, F_q_tail, F_q_size, (by rw [List.map_replicate]; rw [hnn] at A_r; exact A_r), (by rw [List.map_replicate]; rw [hnn] at A_d; exact A_d), own_new n h1 h4⟩)
set_option maxRecDepth 65536 in
set_option maxHeartbeats 40000000 in
theorem con6 (G : Gx) (hw : ∀ d ∈ tables_1, d.before G.a0 G.Z = true) (q r d : Addr) (n : Nat) (it : List Int32) (h : Heap) (HQ : Qh G h q r d n it) :
    Con G (⟨"com/example/ravel/ravel/search/NodeQueue", "isEmpty", "()Z"⟩ : MethodName) prog_51_method_2_code 1 (some .boolean) rm6 #[(.ref q)] h (fun v h' => ∃ z : Int32, v = some (.int z) ∧ h = h' ∧ ((z = 1 ∧ it = []) ∨ (z = 0 ∧ it ≠ []))) := by
  refine Con.of (W := tables_1) (plainFor_of_name pn6) hw (fun mm => ef6 mm q) (fun K C => ?_)
  have C : Cx G K "com/example/ravel/ravel/search/NodeQueue" "isEmpty" prog_51_method_2_code 1 (some .boolean) tables_1 := C
  generalize hQ : (fun v h' => ∃ z : Int32, v = some (.int z) ∧ h = h' ∧ ((z = 1 ∧ it = []) ∨ (z = 0 ∧ it ≠ [])) : Option Value → Heap → Prop) = Q
  obtain ⟨hd, tl, sz, rs, hs, ne_q_r, ne_q_d, ne_r_d, g_q, g_r, g_d, E_q, F_q_ring, F_q_held, F_q_head, F_q_tail, F_q_size, A_r, A_d, qi⟩ := HQ
  have ne_r_q := Ne.symm ne_q_r
  have ne_d_q := Ne.symm ne_q_d
  have ne_d_r := Ne.symm ne_r_d
  refine N.aloadN C (pc' := 1) d6_0 rfl rfl rfl ?_
  refine N.getF C (pc' := 4) d6_1 (C.w (i := 27) rfl) F_q_size rfl ?_
  refine N.ifc C (pt := 11) (pf := 7) d6_4 rfl rfl (fun (hc4 : ¬ sz = (0 : Int32)) => ?_) (fun (hc4 : sz = (0 : Int32)) => ?_)
  · have hi4 : ¬ sz.toInt = 0 := neI hc4
    refine N.iconst C (pc' := 12) (z := 0) d6_11 rfl rfl ?_
    exact N.retN C (by simp) (z' := (0 : Int32)) rfl d6_12 (by decide) (by decide) (by subst hQ; exact ⟨(0 : Int32), rfl, rfl, Or.inr ⟨rfl, fun e => by have := qi.2.2.2.2.2.2.2.2.1; rw [e] at this; exact hi4 (by simpa using this)⟩⟩)
  · have hi4 : sz.toInt = 0 := eqI hc4
    refine N.iconst C (pc' := 8) (z := 1) d6_7 rfl rfl ?_
    refine N.goto C (pc' := 12) d6_8 rfl ?_
    exact N.retN C (by simp) (z' := (1 : Int32)) rfl d6_12 (by decide) (by decide) (by subst hQ; exact ⟨(1 : Int32), rfl, rfl, Or.inl ⟨rfl, List.length_eq_zero_iff.mp (by have := qi.2.2.2.2.2.2.2.2.1; omega)⟩⟩)
set_option maxRecDepth 65536 in
set_option maxHeartbeats 40000000 in
theorem con4 (G : Gx) (hw : ∀ d ∈ tables_1, d.before G.a0 G.Z = true) (q r : Addr) (t : Int32) (n : Nat) (vs : List Value) (h : Heap) (hl : vs.length = n) (h4 : n ≤ 4) (F_q_ring : Fld G.Z h q "com/example/ravel/ravel/search/NodeQueue" "ring" "[I" (.ref r)) (A_r : Av G.Z h r .int vs) :
    Con G (⟨"com/example/ravel/ravel/search/NodeQueue", "next", "(I)I"⟩ : MethodName) prog_51_method_5_code 2 (some .int) rm4 #[(.ref q), (.int t)] h (fun v h' => v = some (.int (own_nx n t)) ∧ h = h') := by
  refine Con.of (W := tables_1) (plainFor_of_name pn4) hw (fun mm => ef4 mm q t) (fun K C => ?_)
  have C : Cx G K "com/example/ravel/ravel/search/NodeQueue" "next" prog_51_method_5_code 2 (some .int) tables_1 := C
  generalize hQ : (fun v h' => v = some (.int (own_nx n t)) ∧ h = h' : Option Value → Heap → Prop) = Q
  have len_r : (Int32.ofNat n).toInt = ((vs.length : Nat) : Int) := by rw [own_ofNat4 h4, hl]
  refine N.iloadN C (pc' := 1) d4_0 rfl rfl ?_
  refine N.iconst C (pc' := 2) (z := 1) d4_1 rfl rfl ?_
  refine N.iadd C (pc' := 3) d4_2 rfl ?_
  refine N.aloadN C (pc' := 4) d4_3 rfl rfl rfl ?_
  refine N.getF C (pc' := 7) d4_4 (C.w (i := 10) rfl) F_q_ring rfl ?_
  refine N.alen C (pc' := 8) (n := (Int32.ofNat n)) d4_7 A_r len_r rfl ?_
  refine N.icmp C (pt := 15) (pf := 11) d4_8 rfl rfl (fun (hc8 : ¬ (t + (1 : Int32)) = (Int32.ofNat n)) => ?_) (fun (hc8 : (t + (1 : Int32)) = (Int32.ofNat n)) => ?_)
  · have hi8 : ¬ (t + (1 : Int32)).toInt = (Int32.ofNat n).toInt := neI hc8
    refine N.iloadN C (pc' := 16) d4_15 rfl rfl ?_
    refine N.iconst C (pc' := 17) (z := 1) d4_16 rfl rfl ?_
    refine N.iadd C (pc' := 18) d4_17 rfl ?_
    exact N.retI C d4_18 (by decide) (by decide) (by subst hQ; exact ⟨by unfold own_nx; rw [if_neg hc8], rfl⟩)
  · have hi8 : (t + (1 : Int32)).toInt = (Int32.ofNat n).toInt := eqI hc8
    refine N.iconst C (pc' := 12) (z := 0) d4_11 rfl rfl ?_
    refine N.goto C (pc' := 18) d4_12 rfl ?_
    exact N.retI C d4_18 (by decide) (by decide) (by subst hQ; exact ⟨by unfold own_nx; rw [if_pos hc8], rfl⟩)
set_option maxRecDepth 65536 in
set_option maxHeartbeats 40000000 in
theorem con3 (G : Gx) (hw : ∀ d ∈ tables_1, d.before G.a0 G.Z = true) (q r d : Addr) (n : Nat) (x : Int32) (it : List Int32) (h : Heap) (h0 : 0 ≤ x.toInt) (h1 : x.toInt < n) (Z0 : G.n0 ≤ h.size) (HQ : Qh G h q r d n it) :
    Con G (⟨"com/example/ravel/ravel/search/NodeQueue", "add", "(I)V"⟩ : MethodName) prog_51_method_3_code 2 none rm3 #[(.ref q), (.int x)] h (fun v h' => v = none ∧ Keep h h' [q, r, d] ∧ Qh G h' q r d n (if x ∈ it then it else it ++ [x])) := by
  refine Con.of (W := tables_1) (plainFor_of_name pn3) hw (fun mm => ef3 mm q x) (fun K C => ?_)
  have C : Cx G K "com/example/ravel/ravel/search/NodeQueue" "add" prog_51_method_3_code 2 none tables_1 := C
  generalize hQ : (fun v h' => v = none ∧ Keep h h' [q, r, d] ∧ Qh G h' q r d n (if x ∈ it then it else it ++ [x]) : Option Value → Heap → Prop) = Q
  obtain ⟨hd, tl, sz, rs, hs, ne_q_r, ne_q_d, ne_r_d, g_q, g_r, g_d, E_q, F_q_ring, F_q_held, F_q_head, F_q_tail, F_q_size, A_r, A_d, qi⟩ := HQ
  have ne_r_q := Ne.symm ne_q_r
  have ne_d_q := Ne.symm ne_q_d
  have ne_d_r := Ne.symm ne_r_d
  have K0 : Keep h h [q, r, d] := Keep.refl _ _
  refine N.aloadN C (pc' := 1) d3_0 rfl rfl rfl ?_
  refine N.getF C (pc' := 4) d3_1 (C.w (i := 13) rfl) F_q_held rfl ?_
  refine N.iloadN C (pc' := 5) d3_4 rfl rfl ?_
  obtain ⟨bq, hb1, hb2⟩ := own_held qi h0 h1
  refine N.zaload C (pc' := 6) (i := x.toInt.toNat) (v := (.int bq)) d3_5 A_d (Int.toNat_of_nonneg h0).symm hb1 rfl ?_
  refine N.ifc C (pt := 10) (pf := 9) d3_6 rfl rfl (fun (hc6 : bq = (0 : Int32)) => ?_) (fun (hc6 : ¬ bq = (0 : Int32)) => ?_)
  · have hi6 : bq.toInt = 0 := eqI hc6
    refine N.aloadN C (pc' := 11) d3_10 rfl rfl rfl ?_
    refine N.getF C (pc' := 14) d3_11 (C.w (i := 13) rfl) F_q_held rfl ?_
    refine N.iloadN C (pc' := 15) d3_14 rfl rfl ?_
    refine N.iconst C (pc' := 16) (z := 1) d3_15 rfl rfl ?_
    refine N.zastore C (pc' := 17) (i := x.toInt.toNat) d3_16 A_d (Int.toNat_of_nonneg h0).symm (by have := qi.2.2.2.1; rw [List.length_map]; omega) g_d rfl (fun h16_1 W16 A_d => ?_)
    have Z0 : G.n0 ≤ _ := (Wr.size W16).symm ▸ Z0
    have F_q_ring := F_q_ring.other W16 (Or.inl ne_q_d)
    have F_q_held := F_q_held.other W16 (Or.inl ne_q_d)
    have F_q_head := F_q_head.other W16 (Or.inl ne_q_d)
    have F_q_tail := F_q_tail.other W16 (Or.inl ne_q_d)
    have F_q_size := F_q_size.other W16 (Or.inl ne_q_d)
    have E_q := E_q.wr W16
    have A_r := A_r.other W16 ne_r_d
    have K0 := K0.wr W16 (Or.inl (List.mem_of_getElem? (i := 2) rfl))
    have A_d : Av G.Z h16_1 d .boolean ((hs.set x.toInt.toNat 1).map .int) := by rw [List.map_set]; exact A_d
    refine N.aloadN C (pc' := 18) d3_17 rfl rfl rfl ?_
    refine N.getF C (pc' := 21) d3_18 (C.w (i := 10) rfl) F_q_ring rfl ?_
    refine N.aloadN C (pc' := 22) d3_21 rfl rfl rfl ?_
    refine N.getF C (pc' := 25) d3_22 (C.w (i := 21) rfl) F_q_tail rfl ?_
    refine N.iloadN C (pc' := 26) d3_25 rfl rfl ?_
    have htl := own_tl qi
    refine N.iastore C (pc' := 27) (i := tl.toInt.toNat) d3_26 A_r (Int.toNat_of_nonneg htl.1).symm (by have := qi.2.2.1; rw [List.length_map]; omega) g_r rfl (fun h26_2 W26 A_r => ?_)
    have Z0 : G.n0 ≤ _ := (Wr.size W26).symm ▸ Z0
    have F_q_ring := F_q_ring.other W26 (Or.inl ne_q_r)
    have F_q_held := F_q_held.other W26 (Or.inl ne_q_r)
    have F_q_head := F_q_head.other W26 (Or.inl ne_q_r)
    have F_q_tail := F_q_tail.other W26 (Or.inl ne_q_r)
    have F_q_size := F_q_size.other W26 (Or.inl ne_q_r)
    have E_q := E_q.wr W26
    have A_d := A_d.other W26 ne_d_r
    have K0 := K0.wr W26 (Or.inl (List.mem_of_getElem? (i := 1) rfl))
    have A_r : Av G.Z h26_2 r .int ((rs.set tl.toInt.toNat x).map .int) := by rw [List.map_set]; exact A_r
    refine N.aloadN C (pc' := 28) d3_27 rfl rfl rfl ?_
    refine N.aloadN C (pc' := 29) d3_28 rfl rfl rfl ?_
    refine N.aloadN C (pc' := 30) d3_29 rfl rfl rfl ?_
    refine N.getF C (pc' := 33) d3_30 (C.w (i := 21) rfl) F_q_tail rfl ?_
    refine N.callP C (pc' := 36) q [(.int tl)] d3_33 (C.w (i := 23) rfl) (C.w (i := 25) rfl) (Jvm.Kit.selects_private (by decide) (C.w (i := 1) rfl) (C.w (i := 25) rfl) (C.w (i := 24) rfl)) (C.w (i := 24) rfl) (C.w (i := 2) rfl) (C.w (i := 26) rfl) (by decide) E_q (con4 G hw q r tl n _ h26_2 (by simp [qi.2.2.1]) qi.2.1 F_q_ring A_r) (lenOf pd__I_I rfl) rfl (by decide) (show 1 + (2 + 11) + _ ≤ _ from by decide) (by decide) (by decide) (rest := [(.ref q)]) rfl rfl ?_
    rintro _ h33_3 ⟨rfl, rfl⟩
    show N G K rm3 Q h26_2 0 0 36 #[.val (.ref q), .val (.int x)] [(.int (own_nx n tl)), (.ref q)]
    refine N.putF C (pc' := 39) d3_36 (C.w (i := 21) rfl) F_q_tail E_q (Or.inl (C.w (i := 22) rfl)) (C.w (i := 1) rfl) (ty := .int) (by decide) rfl rfl g_q rfl (fun h36_4 W36 => ?_)
    have Z0 : G.n0 ≤ _ := (Wr.size W36).symm ▸ Z0
    have F_q_ring := F_q_ring.other W36 (Or.inr (slot_ne (Or.inr (C.w (i := 11) rfl)) (Or.inl (C.w (i := 22) rfl)) (by decide) (t := (.array .int)) (t' := .int) (by decide) (by decide)))
    have F_q_held := F_q_held.other W36 (Or.inr (slot_ne (Or.inr (C.w (i := 14) rfl)) (Or.inl (C.w (i := 22) rfl)) (by decide) (t := (.array .boolean)) (t' := .int) (by decide) (by decide)))
    have F_q_head := F_q_head.other W36 (Or.inr (slot_ne (Or.inl (C.w (i := 35) rfl)) (Or.inl (C.w (i := 22) rfl)) (by decide) (t := .int) (t' := .int) (by decide) (by decide)))
    have F_q_tail := F_q_tail.same W36
    have F_q_size := F_q_size.other W36 (Or.inr (slot_ne (Or.inl (C.w (i := 28) rfl)) (Or.inl (C.w (i := 22) rfl)) (by decide) (t := .int) (t' := .int) (by decide) (by decide)))
    have E_q := E_q.wr W36
    have A_r := A_r.other W36 ne_r_q
    have A_d := A_d.other W36 ne_d_q
    have K0 := K0.wr W36 (Or.inl (List.mem_of_getElem? (i := 0) rfl))
    refine N.aloadN C (pc' := 40) d3_39 rfl rfl rfl ?_
    refine N.dup C (pc' := 41) d3_40 rfl rfl ?_
    refine N.getF C (pc' := 44) d3_41 (C.w (i := 27) rfl) F_q_size rfl ?_
    refine N.iconst C (pc' := 45) (z := 1) d3_44 rfl rfl ?_
    refine N.iadd C (pc' := 46) d3_45 rfl ?_
    refine N.putF C (pc' := 49) d3_46 (C.w (i := 27) rfl) F_q_size E_q (Or.inl (C.w (i := 28) rfl)) (C.w (i := 1) rfl) (ty := .int) (by decide) rfl rfl g_q rfl (fun h46_5 W46 => ?_)
    have Z0 : G.n0 ≤ _ := (Wr.size W46).symm ▸ Z0
    have F_q_ring := F_q_ring.other W46 (Or.inr (slot_ne (Or.inr (C.w (i := 11) rfl)) (Or.inl (C.w (i := 28) rfl)) (by decide) (t := (.array .int)) (t' := .int) (by decide) (by decide)))
    have F_q_held := F_q_held.other W46 (Or.inr (slot_ne (Or.inr (C.w (i := 14) rfl)) (Or.inl (C.w (i := 28) rfl)) (by decide) (t := (.array .boolean)) (t' := .int) (by decide) (by decide)))
    have F_q_head := F_q_head.other W46 (Or.inr (slot_ne (Or.inl (C.w (i := 35) rfl)) (Or.inl (C.w (i := 28) rfl)) (by decide) (t := .int) (t' := .int) (by decide) (by decide)))
    have F_q_tail := F_q_tail.other W46 (Or.inr (slot_ne (Or.inl (C.w (i := 22) rfl)) (Or.inl (C.w (i := 28) rfl)) (by decide) (t := .int) (t' := .int) (by decide) (by decide)))
    have F_q_size := F_q_size.same W46
    have E_q := E_q.wr W46
    have A_r := A_r.other W46 ne_r_q
    have A_d := A_d.other W46 ne_d_q
    have K0 := K0.wr W46 (Or.inl (List.mem_of_getElem? (i := 0) rfl))
    exact N.ret0 C rfl d3_49 (by decide) (by decide) (by subst hQ; rw [if_neg (own_b0 hb2 hc6)]; exact ⟨rfl, K0, ⟨hd, own_nx n tl, sz + 1, rs.set tl.toInt.toNat x, hs.set x.toInt.toNat 1, ne_q_r, ne_q_d, ne_r_d, g_q, g_r, g_d, E_q, F_q_ring, F_q_held, F_q_head, F_q_tail, F_q_size, A_r, A_d, own_add qi h0 h1 (own_b0 hb2 hc6)⟩⟩)
  · have hi6 : ¬ bq.toInt = 0 := neI hc6
    exact N.ret0 C rfl d3_9 (by decide) (by decide) (by subst hQ; rw [if_pos (own_b1 hb2 hc6)]; exact ⟨rfl, K0, ⟨hd, tl, sz, rs, hs, ne_q_r, ne_q_d, ne_r_d, g_q, g_r, g_d, E_q, F_q_ring, F_q_held, F_q_head, F_q_tail, F_q_size, A_r, A_d, qi⟩⟩)
set_option maxRecDepth 65536 in
set_option maxHeartbeats 40000000 in
theorem con5 (G : Gx) (hw : ∀ d ∈ tables_1, d.before G.a0 G.Z = true) (q r d : Addr) (n : Nat) (x : Int32) (it : List Int32) (h : Heap) (Z0 : G.n0 ≤ h.size) (HQ : Qh G h q r d n (x :: it)) :
    Con G (⟨"com/example/ravel/ravel/search/NodeQueue", "poll", "()I"⟩ : MethodName) prog_51_method_4_code 2 (some .int) rm5 #[(.ref q)] h (fun v h' => v = some (.int x) ∧ Keep h h' [q, r, d] ∧ Qh G h' q r d n it) := by
  refine Con.of (W := tables_1) (plainFor_of_name pn5) hw (fun mm => ef5 mm q) (fun K C => ?_)
  have C : Cx G K "com/example/ravel/ravel/search/NodeQueue" "poll" prog_51_method_4_code 2 (some .int) tables_1 := C
  generalize hQ : (fun v h' => v = some (.int x) ∧ Keep h h' [q, r, d] ∧ Qh G h' q r d n it : Option Value → Heap → Prop) = Q
  obtain ⟨hd, tl, sz, rs, hs, ne_q_r, ne_q_d, ne_r_d, g_q, g_r, g_d, E_q, F_q_ring, F_q_held, F_q_head, F_q_tail, F_q_size, A_r, A_d, qi⟩ := HQ
  have ne_r_q := Ne.symm ne_q_r
  have ne_d_q := Ne.symm ne_q_d
  have ne_d_r := Ne.symm ne_r_d
  have K0 : Keep h h [q, r, d] := Keep.refl _ _
  refine N.aloadN C (pc' := 1) d5_0 rfl rfl rfl ?_
  refine N.getF C (pc' := 4) d5_1 (C.w (i := 10) rfl) F_q_ring rfl ?_
  refine N.aloadN C (pc' := 5) d5_4 rfl rfl rfl ?_
  refine N.getF C (pc' := 8) d5_5 (C.w (i := 34) rfl) F_q_head rfl ?_
  obtain ⟨hp1, qi'⟩ := own_poll qi
  have hhd := qi.2.2.2.2.2.1
  have hx := qi.2.2.2.2.2.2.2.2.2.2.1 x List.mem_cons_self
  refine N.iaload C (pc' := 9) (i := hd.toInt.toNat) (v := (.int x)) d5_8 A_r (Int.toNat_of_nonneg hhd).symm (by rw [List.getElem?_map, hp1]; rfl) rfl ?_
  refine N.istoreN C (pc' := 10) (ls' := #[.val (.ref q), .val (.int x)]) d5_9 rfl rfl ?_
  refine N.aloadN C (pc' := 11) d5_10 rfl rfl rfl ?_
  refine N.getF C (pc' := 14) d5_11 (C.w (i := 13) rfl) F_q_held rfl ?_
  refine N.iloadN C (pc' := 15) d5_14 rfl rfl ?_
  refine N.iconst C (pc' := 16) (z := 0) d5_15 rfl rfl ?_
  refine N.zastore C (pc' := 17) (i := x.toInt.toNat) d5_16 A_d (Int.toNat_of_nonneg hx.1).symm (by have := qi.2.2.2.1; rw [List.length_map]; omega) g_d rfl (fun h16_1 W16 A_d => ?_)
  have Z0 : G.n0 ≤ _ := (Wr.size W16).symm ▸ Z0
  have F_q_ring := F_q_ring.other W16 (Or.inl ne_q_d)
  have F_q_held := F_q_held.other W16 (Or.inl ne_q_d)
  have F_q_head := F_q_head.other W16 (Or.inl ne_q_d)
  have F_q_tail := F_q_tail.other W16 (Or.inl ne_q_d)
  have F_q_size := F_q_size.other W16 (Or.inl ne_q_d)
  have E_q := E_q.wr W16
  have A_r := A_r.other W16 ne_r_d
  have K0 := K0.wr W16 (Or.inl (List.mem_of_getElem? (i := 2) rfl))
  have A_d : Av G.Z h16_1 d .boolean ((hs.set x.toInt.toNat 0).map .int) := by rw [List.map_set]; exact A_d
  refine N.aloadN C (pc' := 18) d5_17 rfl rfl rfl ?_
  refine N.aloadN C (pc' := 19) d5_18 rfl rfl rfl ?_
  refine N.aloadN C (pc' := 20) d5_19 rfl rfl rfl ?_
  refine N.getF C (pc' := 23) d5_20 (C.w (i := 34) rfl) F_q_head rfl ?_
  refine N.callP C (pc' := 26) q [(.int hd)] d5_23 (C.w (i := 23) rfl) (C.w (i := 25) rfl) (Jvm.Kit.selects_private (by decide) (C.w (i := 1) rfl) (C.w (i := 25) rfl) (C.w (i := 24) rfl)) (C.w (i := 24) rfl) (C.w (i := 2) rfl) (C.w (i := 26) rfl) (by decide) E_q (con4 G hw q r hd n _ h16_1 (by simp [qi.2.2.1]) qi.2.1 F_q_ring A_r) (lenOf pd__I_I rfl) rfl (by decide) (show 1 + (2 + 11) + _ ≤ _ from by decide) (by decide) (by decide) (rest := [(.ref q)]) rfl rfl ?_
  rintro _ h23_2 ⟨rfl, rfl⟩
  show N G K rm5 Q h16_1 0 0 26 #[.val (.ref q), .val (.int x)] [(.int (own_nx n hd)), (.ref q)]
  refine N.putF C (pc' := 29) d5_26 (C.w (i := 34) rfl) F_q_head E_q (Or.inl (C.w (i := 35) rfl)) (C.w (i := 1) rfl) (ty := .int) (by decide) rfl rfl g_q rfl (fun h26_3 W26 => ?_)
  have Z0 : G.n0 ≤ _ := (Wr.size W26).symm ▸ Z0
  have F_q_ring := F_q_ring.other W26 (Or.inr (slot_ne (Or.inr (C.w (i := 11) rfl)) (Or.inl (C.w (i := 35) rfl)) (by decide) (t := (.array .int)) (t' := .int) (by decide) (by decide)))
  have F_q_held := F_q_held.other W26 (Or.inr (slot_ne (Or.inr (C.w (i := 14) rfl)) (Or.inl (C.w (i := 35) rfl)) (by decide) (t := (.array .boolean)) (t' := .int) (by decide) (by decide)))
  have F_q_head := F_q_head.same W26
  have F_q_tail := F_q_tail.other W26 (Or.inr (slot_ne (Or.inl (C.w (i := 22) rfl)) (Or.inl (C.w (i := 35) rfl)) (by decide) (t := .int) (t' := .int) (by decide) (by decide)))
  have F_q_size := F_q_size.other W26 (Or.inr (slot_ne (Or.inl (C.w (i := 28) rfl)) (Or.inl (C.w (i := 35) rfl)) (by decide) (t := .int) (t' := .int) (by decide) (by decide)))
  have E_q := E_q.wr W26
  have A_r := A_r.other W26 ne_r_q
  have A_d := A_d.other W26 ne_d_q
  have K0 := K0.wr W26 (Or.inl (List.mem_of_getElem? (i := 0) rfl))
  refine N.aloadN C (pc' := 30) d5_29 rfl rfl rfl ?_
  refine N.dup C (pc' := 31) d5_30 rfl rfl ?_
  refine N.getF C (pc' := 34) d5_31 (C.w (i := 27) rfl) F_q_size rfl ?_
  refine N.iconst C (pc' := 35) (z := 1) d5_34 rfl rfl ?_
  refine N.isub C (pc' := 36) d5_35 rfl ?_
  refine N.putF C (pc' := 39) d5_36 (C.w (i := 27) rfl) F_q_size E_q (Or.inl (C.w (i := 28) rfl)) (C.w (i := 1) rfl) (ty := .int) (by decide) rfl rfl g_q rfl (fun h36_4 W36 => ?_)
  have Z0 : G.n0 ≤ _ := (Wr.size W36).symm ▸ Z0
  have F_q_ring := F_q_ring.other W36 (Or.inr (slot_ne (Or.inr (C.w (i := 11) rfl)) (Or.inl (C.w (i := 28) rfl)) (by decide) (t := (.array .int)) (t' := .int) (by decide) (by decide)))
  have F_q_held := F_q_held.other W36 (Or.inr (slot_ne (Or.inr (C.w (i := 14) rfl)) (Or.inl (C.w (i := 28) rfl)) (by decide) (t := (.array .boolean)) (t' := .int) (by decide) (by decide)))
  have F_q_head := F_q_head.other W36 (Or.inr (slot_ne (Or.inl (C.w (i := 35) rfl)) (Or.inl (C.w (i := 28) rfl)) (by decide) (t := .int) (t' := .int) (by decide) (by decide)))
  have F_q_tail := F_q_tail.other W36 (Or.inr (slot_ne (Or.inl (C.w (i := 22) rfl)) (Or.inl (C.w (i := 28) rfl)) (by decide) (t := .int) (t' := .int) (by decide) (by decide)))
  have F_q_size := F_q_size.same W36
  have E_q := E_q.wr W36
  have A_r := A_r.other W36 ne_r_q
  have A_d := A_d.other W36 ne_d_q
  have K0 := K0.wr W36 (Or.inl (List.mem_of_getElem? (i := 0) rfl))
  refine N.iloadN C (pc' := 40) d5_39 rfl rfl ?_
  exact N.retI C d5_40 (by decide) (by decide) (by subst hQ; exact ⟨rfl, K0, ⟨own_nx n hd, tl, sz - 1, rs, hs.set x.toInt.toNat 0, ne_q_r, ne_q_d, ne_r_d, g_q, g_r, g_d, E_q, F_q_ring, F_q_held, F_q_head, F_q_tail, F_q_size, A_r, A_d, qi'⟩⟩)
set_option maxRecDepth 65536 in
set_option maxHeartbeats 40000000 in
theorem con0 (G : Gx) (hw : ∀ d ∈ tables_1, d.before G.a0 G.Z = true) (p pre a b c fl : Int32) (h : Heap) (Z0 : G.n0 ≤ h.size) :
    Con G x code maxLocals ret room_1 #[(.int p), (.int pre), (.int a), (.int b), (.int c), (.int fl)] h (fun v _ => v = some (.int 1)) := by
  refine Con.of (W := tables_1) (plainFor_of_name pn0) hw (fun mm => ef0 mm p pre a b c fl) (fun K C => ?_)
  have C : Cx G K "com/example/ravel/ravel/search/NodeQueueAddPinLaw" "law" code maxLocals ret tables_1 := C
  generalize hQ : (fun v _ => v = some (.int 1) : Option Value → Heap → Prop) = Q
  refine N.iloadN C (pc' := 1) at_0 rfl rfl ?_
  refine N.iconst C (pc' := 2) (z := 3) at_1 rfl rfl ?_
  refine N.iand C (pc' := 3) at_2 rfl ?_
  refine N.iconst C (pc' := 4) (z := 1) at_3 rfl rfl ?_
  refine N.iadd C (pc' := 5) at_4 rfl ?_
  obtain ⟨n, hz, h1, h4⟩ := own_n4 p
  generalize hd_n4 : ((p &&& (3 : Int32)) + (1 : Int32)) = n4 at *
  refine N.istore C (pc' := 7) (ls' := #[.val (.int p), .val (.int pre), .val (.int a), .val (.int b), .val (.int c), .val (.int fl), .val (.int n4), .unset, .unset, .unset, .unset, .unset, .unset, .unset]) at_5 rfl rfl ?_
  refine N.newO C (pc' := 10) at_7 (C.w (i := 0) rfl) (C.w (i := 1) rfl) (C.w (i := 2) rfl) (by decide) (by decide) rfl (fun h7_1 q hx_q Ex7 E_q D_q => ?_)
  have g_q : G.n0 ≤ q := by rw [hx_q]; exact Z0
  have Z0 := Nat.le_trans Z0 Ex7.1
  have F_q_ring : Fld G.Z h7_1 q "com/example/ravel/ravel/search/NodeQueue" "ring" "[I" .null := D_q (Or.inr (C.w (i := 11) rfl)) (ty := (.array .int)) (by decide)
  have F_q_held : Fld G.Z h7_1 q "com/example/ravel/ravel/search/NodeQueue" "held" "[Z" .null := D_q (Or.inr (C.w (i := 14) rfl)) (ty := (.array .boolean)) (by decide)
  have F_q_tail : Fld G.Z h7_1 q "com/example/ravel/ravel/search/NodeQueue" "tail" "I" (.int (0 : Int32)) := D_q (Or.inl (C.w (i := 22) rfl)) (ty := .int) (by decide)
  have F_q_size : Fld G.Z h7_1 q "com/example/ravel/ravel/search/NodeQueue" "size" "I" (.int (0 : Int32)) := D_q (Or.inl (C.w (i := 28) rfl)) (ty := .int) (by decide)
  have F_q_head : Fld G.Z h7_1 q "com/example/ravel/ravel/search/NodeQueue" "head" "I" (.int (0 : Int32)) := D_q (Or.inl (C.w (i := 35) rfl)) (ty := .int) (by decide)
  refine N.dup C (pc' := 11) at_10 rfl rfl ?_
  refine N.iload C (pc' := 13) at_11 rfl rfl ?_
  refine N.callI C (pc' := 16) q [(.int n4)] at_13 rfl (C.w (i := 3) rfl) (C.w (i := 4) rfl) (C.w (i := 2) rfl) (C.w (i := 5) rfl) (by decide) (con1 G hw q n4 n _ _ h7_1 hz h1 h4 Z0 g_q E_q F_q_ring F_q_held F_q_head F_q_tail F_q_size) (lenOf pd__I_V rfl) rfl (by decide) (show 1 + (2 + 11) + _ ≤ _ from by decide) (by decide) (by decide) (rest := [(.ref q)]) rfl rfl ?_
  rintro _ h13_2 ⟨rfl, Kp, r, d, -, -, HQ⟩
  have Z0 := Nat.le_trans Z0 Kp.1
  have E_q := E_q.keep Kp
  have E_q := HQ.exa
  show N G K room_1 Q h13_2 ((0 + 1) + 2) ((0 + 5) + 8) 16 #[.val (.int p), .val (.int pre), .val (.int a), .val (.int b), .val (.int c), .val (.int fl), .val (.int n4), .unset, .unset, .unset, .unset, .unset, .unset, .unset] [(.ref q)]
  refine N.astore C (pc' := 18) (ls' := #[.val (.int p), .val (.int pre), .val (.int a), .val (.int b), .val (.int c), .val (.int fl), .val (.int n4), .val (.ref q), .unset, .unset, .unset, .unset, .unset, .unset]) at_16 rfl rfl rfl ?_
  refine N.iconst C (pc' := 19) (z := 1) at_18 rfl rfl ?_
  refine N.istore C (pc' := 21) (ls' := #[.val (.int p), .val (.int pre), .val (.int a), .val (.int b), .val (.int c), .val (.int fl), .val (.int n4), .val (.ref q), .val (.int (1 : Int32)), .unset, .unset, .unset, .unset, .unset]) at_19 rfl rfl ?_
  suffices j75 : ∀ (h2 : Heap) (x : Int32), 0 ≤ x.toInt ∧ x.toInt < n → G.n0 ≤ h2.size → Qh G h2 q r d n [] → N G K room_1 Q h2 ((0 + 1) + 2) ((0 + 5) + 8) 75 #[.val (.int p), .val (.int pre), .val (.int a), .val (.int b), .val (.int c), .val (.int fl), .val (.int n4), .val (.ref q), .val (.int (1 : Int32)), .val (.int x), .unset, .unset, .unset, .unset] [] by
    refine N.iload C (pc' := 23) at_21 rfl rfl ?_
    refine N.iconst C (pc' := 24) (z := 1) at_23 rfl rfl ?_
    refine N.iand C (pc' := 25) at_24 rfl ?_
    refine N.ifc C (pt := 66) (pf := 28) at_25 rfl rfl (fun (hc25 : (fl &&& (1 : Int32)) = (0 : Int32)) => ?_) (fun (hc25 : ¬ (fl &&& (1 : Int32)) = (0 : Int32)) => ?_)
    · have hi25 : (fl &&& (1 : Int32)).toInt = 0 := eqI hc25
      refine N.iloadN C (pc' := 67) at_66 rfl rfl ?_
      refine N.ldcI C (pc' := 69) (v := 2147483647) at_67 (C.w (i := 15) rfl) rfl ?_
      refine N.iand C (pc' := 70) at_69 rfl ?_
      refine N.iload C (pc' := 72) at_70 rfl rfl ?_
      have hnz_72 := own_nz hz h1
      refine N.irem C (pc' := 73) at_72 hnz_72 rfl ?_
      have hx_x := own_rem hz h1 a
      generalize hd_x : ((a &&& (2147483647 : Int32)) % n4) = x at *
      refine N.istore C (pc' := 75) (ls' := #[.val (.int p), .val (.int pre), .val (.int a), .val (.int b), .val (.int c), .val (.int fl), .val (.int n4), .val (.ref q), .val (.int (1 : Int32)), .val (.int x), .unset, .unset, .unset, .unset]) at_73 rfl rfl ?_
      exact j75 _ _ hx_x Z0 HQ
    · have hi25 : ¬ (fl &&& (1 : Int32)).toInt = 0 := neI hc25
      refine N.iloadN C (pc' := 29) at_28 rfl rfl ?_
      refine N.ldcI C (pc' := 31) (v := 2147483647) at_29 (C.w (i := 15) rfl) rfl ?_
      refine N.iand C (pc' := 32) at_31 rfl ?_
      refine N.iload C (pc' := 34) at_32 rfl rfl ?_
      have hnz_34 := own_nz hz h1
      refine N.irem C (pc' := 35) at_34 hnz_34 rfl ?_
      have hx_w := own_rem hz h1 pre
      generalize hd_w : ((pre &&& (2147483647 : Int32)) % n4) = w at *
      refine N.istore C (pc' := 37) (ls' := #[.val (.int p), .val (.int pre), .val (.int a), .val (.int b), .val (.int c), .val (.int fl), .val (.int n4), .val (.ref q), .val (.int (1 : Int32)), .val (.int w), .unset, .unset, .unset, .unset]) at_35 rfl rfl ?_
      refine N.aload C (pc' := 39) at_37 rfl rfl rfl ?_
      refine N.iload C (pc' := 41) at_39 rfl rfl ?_
      refine N.callV C (pc' := 44) q [(.int w)] at_41 (C.w (i := 16) rfl) (C.w (i := 17) rfl) (C.w (i := 19) rfl) (C.w (i := 18) rfl) (C.w (i := 2) rfl) (C.w (i := 20) rfl) (by decide) E_q (con3 G hw q r d n w [] h13_2 hx_w.1 hx_w.2 Z0 HQ) (lenOf pd__I_V rfl) rfl (by decide) (show 0 + (2 + 11) + _ ≤ _ from by decide) (by decide) (by decide) (rest := []) rfl rfl ?_
      rintro _ h41_3 ⟨rfl, Kp, HQ⟩
      have Z0 := Nat.le_trans Z0 Kp.1
      have E_q := HQ.exa
      rw [own_i0] at HQ
      show N G K room_1 Q h41_3 ((0 + 1) + 2) ((0 + 5) + 8) 44 #[.val (.int p), .val (.int pre), .val (.int a), .val (.int b), .val (.int c), .val (.int fl), .val (.int n4), .val (.ref q), .val (.int (1 : Int32)), .val (.int w), .unset, .unset, .unset, .unset] []
      refine N.iload C (pc' := 46) at_44 rfl rfl ?_
      refine N.ifc C (pt := 63) (pf := 49) at_46 rfl rfl (fun (q : (1 : Int32) = (0 : Int32)) => absurd q (by decide)) (fun _ => ?_)
      refine N.aload C (pc' := 51) at_49 rfl rfl rfl ?_
      refine N.callV C (pc' := 54) q [] at_51 (C.w (i := 29) rfl) (C.w (i := 30) rfl) (C.w (i := 32) rfl) (C.w (i := 31) rfl) (C.w (i := 2) rfl) (C.w (i := 33) rfl) (by decide) E_q (con5 G hw q r d n w [] h41_3 Z0 HQ) (lenOf pd___I rfl) rfl (by decide) (show 0 + (2 + 11) + _ ≤ _ from by decide) (by decide) (by decide) (rest := []) rfl rfl ?_
      rintro _ h51_4 ⟨rfl, Kp, HQ⟩
      have Z0 := Nat.le_trans Z0 Kp.1
      have E_q := HQ.exa
      show N G K room_1 Q h51_4 ((0 + 1) + 2) ((0 + 5) + 8) 54 #[.val (.int p), .val (.int pre), .val (.int a), .val (.int b), .val (.int c), .val (.int fl), .val (.int n4), .val (.ref q), .val (.int (1 : Int32)), .val (.int w), .unset, .unset, .unset, .unset] [(.int w)]
      refine N.iload C (pc' := 56) at_54 rfl rfl ?_
      refine N.icmp C (pt := 63) (pf := 59) at_56 rfl rfl (fun (hc56 : ¬ w = w) => absurd (show False from by exact hc56 rfl) id) (fun (hc56 : w = w) => ?_)
      refine N.iconst C (pc' := 60) (z := 1) at_59 rfl rfl ?_
      refine N.goto C (pc' := 64) at_60 rfl ?_
      refine N.istore C (pc' := 66) (ls' := #[.val (.int p), .val (.int pre), .val (.int a), .val (.int b), .val (.int c), .val (.int fl), .val (.int n4), .val (.ref q), .val (.int (1 : Int32)), .val (.int w), .unset, .unset, .unset, .unset]) at_64 rfl rfl ?_
      refine N.iloadN C (pc' := 67) at_66 rfl rfl ?_
      refine N.ldcI C (pc' := 69) (v := 2147483647) at_67 (C.w (i := 15) rfl) rfl ?_
      refine N.iand C (pc' := 70) at_69 rfl ?_
      refine N.iload C (pc' := 72) at_70 rfl rfl ?_
      have hnz_72 := own_nz hz h1
      refine N.irem C (pc' := 73) at_72 hnz_72 rfl ?_
      have hx_x := own_rem hz h1 a
      generalize hd_x : ((a &&& (2147483647 : Int32)) % n4) = x at *
      refine N.istore C (pc' := 75) (ls' := #[.val (.int p), .val (.int pre), .val (.int a), .val (.int b), .val (.int c), .val (.int fl), .val (.int n4), .val (.ref q), .val (.int (1 : Int32)), .val (.int x), .unset, .unset, .unset, .unset]) at_73 rfl rfl ?_
      exact j75 _ _ hx_x Z0 HQ
  intro h2 x hx_x Z0 HQ
  have E_q := HQ.exa
  show N G K room_1 Q h2 ((0 + 1) + 2) ((0 + 5) + 8) 75 #[.val (.int p), .val (.int pre), .val (.int a), .val (.int b), .val (.int c), .val (.int fl), .val (.int n4), .val (.ref q), .val (.int (1 : Int32)), .val (.int x), .unset, .unset, .unset, .unset] []
  refine N.iloadN C (pc' := 76) at_75 rfl rfl ?_
  refine N.ldcI C (pc' := 78) (v := 2147483647) at_76 (C.w (i := 15) rfl) rfl ?_
  refine N.iand C (pc' := 79) at_78 rfl ?_
  refine N.iload C (pc' := 81) at_79 rfl rfl ?_
  have hnz_81 := own_nz hz h1
  refine N.irem C (pc' := 82) at_81 hnz_81 rfl ?_
  have hx_y := own_rem hz h1 b
  generalize hd_y : ((b &&& (2147483647 : Int32)) % n4) = y at *
  refine N.istore C (pc' := 84) (ls' := #[.val (.int p), .val (.int pre), .val (.int a), .val (.int b), .val (.int c), .val (.int fl), .val (.int n4), .val (.ref q), .val (.int (1 : Int32)), .val (.int x), .val (.int y), .unset, .unset, .unset]) at_82 rfl rfl ?_
  refine N.iload C (pc' := 86) at_84 rfl rfl ?_
  refine N.ldcI C (pc' := 88) (v := 2147483647) at_86 (C.w (i := 15) rfl) rfl ?_
  refine N.iand C (pc' := 89) at_88 rfl ?_
  refine N.iload C (pc' := 91) at_89 rfl rfl ?_
  have hnz_91 := own_nz hz h1
  refine N.irem C (pc' := 92) at_91 hnz_91 rfl ?_
  have hx_z := own_rem hz h1 c
  generalize hd_z : ((c &&& (2147483647 : Int32)) % n4) = z at *
  refine N.istore C (pc' := 94) (ls' := #[.val (.int p), .val (.int pre), .val (.int a), .val (.int b), .val (.int c), .val (.int fl), .val (.int n4), .val (.ref q), .val (.int (1 : Int32)), .val (.int x), .val (.int y), .val (.int z), .unset, .unset]) at_92 rfl rfl ?_
  refine N.aload C (pc' := 96) at_94 rfl rfl rfl ?_
  refine N.iload C (pc' := 98) at_96 rfl rfl ?_
  refine N.callV C (pc' := 101) q [(.int x)] at_98 (C.w (i := 16) rfl) (C.w (i := 17) rfl) (C.w (i := 19) rfl) (C.w (i := 18) rfl) (C.w (i := 2) rfl) (C.w (i := 20) rfl) (by decide) E_q (con3 G hw q r d n x [] h2 hx_x.1 hx_x.2 Z0 HQ) (lenOf pd__I_V rfl) rfl (by decide) (show 0 + (2 + 11) + _ ≤ _ from by decide) (by decide) (by decide) (rest := []) rfl rfl ?_
  rintro _ h98_5 ⟨rfl, Kp, HQ⟩
  have Z0 := Nat.le_trans Z0 Kp.1
  have E_q := HQ.exa
  rw [own_i0] at HQ
  show N G K room_1 Q h98_5 ((0 + 1) + 2) ((0 + 5) + 8) 101 #[.val (.int p), .val (.int pre), .val (.int a), .val (.int b), .val (.int c), .val (.int fl), .val (.int n4), .val (.ref q), .val (.int (1 : Int32)), .val (.int x), .val (.int y), .val (.int z), .unset, .unset] []
  refine N.aload C (pc' := 103) at_101 rfl rfl rfl ?_
  refine N.iload C (pc' := 105) at_103 rfl rfl ?_
  refine N.callV C (pc' := 108) q [(.int y)] at_105 (C.w (i := 16) rfl) (C.w (i := 17) rfl) (C.w (i := 19) rfl) (C.w (i := 18) rfl) (C.w (i := 2) rfl) (C.w (i := 20) rfl) (by decide) E_q (con3 G hw q r d n y [x] h98_5 hx_y.1 hx_y.2 Z0 HQ) (lenOf pd__I_V rfl) rfl (by decide) (show 0 + (2 + 11) + _ ≤ _ from by decide) (by decide) (by decide) (rest := []) rfl rfl ?_
  rintro _ h105_6 ⟨rfl, Kp, HQ⟩
  have Z0 := Nat.le_trans Z0 Kp.1
  have E_q := HQ.exa
  show N G K room_1 Q h105_6 ((0 + 1) + 2) ((0 + 5) + 8) 108 #[.val (.int p), .val (.int pre), .val (.int a), .val (.int b), .val (.int c), .val (.int fl), .val (.int n4), .val (.ref q), .val (.int (1 : Int32)), .val (.int x), .val (.int y), .val (.int z), .unset, .unset] []
  refine N.aload C (pc' := 110) at_108 rfl rfl rfl ?_
  refine N.iload C (pc' := 112) at_110 rfl rfl ?_
  refine N.callV C (pc' := 115) q [(.int z)] at_112 (C.w (i := 16) rfl) (C.w (i := 17) rfl) (C.w (i := 19) rfl) (C.w (i := 18) rfl) (C.w (i := 2) rfl) (C.w (i := 20) rfl) (by decide) E_q (con3 G hw q r d n z (if y ∈ [x] then [x] else [x] ++ [y]) h105_6 hx_z.1 hx_z.2 Z0 HQ) (lenOf pd__I_V rfl) rfl (by decide) (show 0 + (2 + 11) + _ ≤ _ from by decide) (by decide) (by decide) (rest := []) rfl rfl ?_
  rintro _ h112_7 ⟨rfl, Kp, HQ⟩
  have Z0 := Nat.le_trans Z0 Kp.1
  have E_q := HQ.exa
  show N G K room_1 Q h112_7 ((0 + 1) + 2) ((0 + 5) + 8) 115 #[.val (.int p), .val (.int pre), .val (.int a), .val (.int b), .val (.int c), .val (.int fl), .val (.int n4), .val (.ref q), .val (.int (1 : Int32)), .val (.int x), .val (.int y), .val (.int z), .unset, .unset] []
  refine N.iconst C (pc' := 116) (z := 3) at_115 rfl rfl ?_
  have hlt := HQ.lts
  refine N.newP C (pc' := 118) (n := (3 : Int32)) 3 at_116 (C.w (i := 9) rfl) (by decide) (by decide) (by decide) (by decide) (by decide) rfl (fun h116_8 e hx_e Ex116 A'_e => ?_)
  have g_e : G.n0 ≤ e := by rw [hx_e]; exact Z0
  have Z0 := Nat.le_trans Z0 Ex116.1
  have A_e : Av G.Z h116_8 e .int [(.int (0 : Int32)), (.int (0 : Int32)), (.int (0 : Int32))] := A'_e
  have ne_e_q : e ≠ q := by rw [hx_e]; exact Nat.ne_of_gt hlt.1
  have ne_e_r : e ≠ r := by rw [hx_e]; exact Nat.ne_of_gt hlt.2.1
  have ne_e_d : e ≠ d := by rw [hx_e]; exact Nat.ne_of_gt hlt.2.2
  have HQ := HQ.ext Ex116
  have E_q := HQ.exa
  refine N.astore C (pc' := 120) (ls' := #[.val (.int p), .val (.int pre), .val (.int a), .val (.int b), .val (.int c), .val (.int fl), .val (.int n4), .val (.ref q), .val (.int (1 : Int32)), .val (.int x), .val (.int y), .val (.int z), .val (.ref e), .unset]) at_118 rfl rfl rfl ?_
  refine N.iconst C (pc' := 121) (z := 1) at_120 rfl rfl ?_
  refine N.istore C (pc' := 123) (ls' := #[.val (.int p), .val (.int pre), .val (.int a), .val (.int b), .val (.int c), .val (.int fl), .val (.int n4), .val (.ref q), .val (.int (1 : Int32)), .val (.int x), .val (.int y), .val (.int z), .val (.ref e), .val (.int (1 : Int32))]) at_121 rfl rfl ?_
  refine N.aload C (pc' := 125) at_123 rfl rfl rfl ?_
  refine N.iconst C (pc' := 126) (z := 0) at_125 rfl rfl ?_
  refine N.iload C (pc' := 128) at_126 rfl rfl ?_
  refine N.iastore C (pc' := 129) (i := 0) at_128 A_e rfl (show 0 < 3 from by decide) g_e rfl (fun h128_9 W128 A_e => ?_)
  have Z0 : G.n0 ≤ _ := (Wr.size W128).symm ▸ Z0
  have A_e : Av G.Z h128_9 e .int [(.int x), (.int (0 : Int32)), (.int (0 : Int32))] := A_e
  have HQ := HQ.other W128 (Ne.symm ne_e_q) (Ne.symm ne_e_r) (Ne.symm ne_e_d)
  have E_q := HQ.exa
  refine N.iload C (pc' := 131) at_129 rfl rfl ?_
  refine N.iload C (pc' := 133) at_131 rfl rfl ?_
  refine N.icmp C (pt := 146) (pf := 136) at_133 rfl rfl (fun (hc133 : y = x) => ?_) (fun (hc133 : ¬ y = x) => ?_)
  · have hi133 : y.toInt = x.toInt := eqI hc133
    refine N.iload C (pc' := 148) at_146 rfl rfl ?_
    refine N.iload C (pc' := 150) at_148 rfl rfl ?_
    refine N.icmp C (pt := 170) (pf := 153) at_150 rfl rfl (fun (hc150 : z = x) => ?_) (fun (hc150 : ¬ z = x) => ?_)
    · have hi150 : z.toInt = x.toInt := eqI hc150
      rw [own_i1e hc133] at HQ
      rw [own_i1e hc150] at HQ
      refine N.iload C (pc' := 172) at_170 rfl rfl ?_
      refine N.ifc C (pt := 187) (pf := 175) at_172 rfl rfl (fun (q : (1 : Int32) = (0 : Int32)) => absurd q (by decide)) (fun _ => ?_)
      refine N.aload C (pc' := 177) at_175 rfl rfl rfl ?_
      refine N.callV C (pc' := 180) q [] at_177 (C.w (i := 36) rfl) (C.w (i := 37) rfl) (C.w (i := 39) rfl) (C.w (i := 38) rfl) (C.w (i := 2) rfl) (C.w (i := 40) rfl) (by decide) E_q (con6 G hw q r d n [x] h128_9 HQ) (lenOf pd___Z rfl) rfl (by decide) (show 0 + (1 + 11) + _ ≤ _ from by decide) (by decide) (by decide) (rest := []) rfl rfl ?_
      rintro _ h177_10 ⟨ze, rfl, rfl, hze⟩
      show N G K room_1 Q h128_9 (((0 + 1) + 2) + 1) (((0 + 5) + 8) + 3) 180 #[.val (.int p), .val (.int pre), .val (.int a), .val (.int b), .val (.int c), .val (.int fl), .val (.int n4), .val (.ref q), .val (.int (1 : Int32)), .val (.int x), .val (.int y), .val (.int z), .val (.ref e), .val (.int (1 : Int32))] [(.int ze)]
      refine N.ifc C (pt := 187) (pf := 183) at_180 rfl rfl (fun (hc180 : ¬ ze = (0 : Int32)) => absurd (show False from by exact hc180 (own_e0 hze (by simp))) id) (fun (hc180 : ze = (0 : Int32)) => ?_)
      refine N.iconst C (pc' := 184) (z := 1) at_183 rfl rfl ?_
      refine N.goto C (pc' := 188) at_184 rfl ?_
      refine N.istore C (pc' := 190) (ls' := #[.val (.int p), .val (.int pre), .val (.int a), .val (.int b), .val (.int c), .val (.int fl), .val (.int n4), .val (.ref q), .val (.int (1 : Int32)), .val (.int x), .val (.int y), .val (.int z), .val (.ref e), .val (.int (1 : Int32))]) at_188 rfl rfl ?_
      refine N.iload C (pc' := 192) at_190 rfl rfl ?_
      refine N.ifc C (pt := 211) (pf := 195) at_192 rfl rfl (fun (q : (1 : Int32) = (0 : Int32)) => absurd q (by decide)) (fun _ => ?_)
      refine N.aload C (pc' := 197) at_195 rfl rfl rfl ?_
      refine N.callV C (pc' := 200) q [] at_197 (C.w (i := 29) rfl) (C.w (i := 30) rfl) (C.w (i := 32) rfl) (C.w (i := 31) rfl) (C.w (i := 2) rfl) (C.w (i := 33) rfl) (by decide) E_q (con5 G hw q r d n x [] h128_9 Z0 HQ) (lenOf pd___I rfl) rfl (by decide) (show 0 + (2 + 11) + _ ≤ _ from by decide) (by decide) (by decide) (rest := []) rfl rfl ?_
      rintro _ h197_11 ⟨rfl, Kp, HQ⟩
      have Z0 := Nat.le_trans Z0 Kp.1
      have A_e := A_e.keep Kp (ninS ne_e_q (ninS ne_e_r (ninS ne_e_d nin0)))
      have E_q := HQ.exa
      show N G K room_1 Q h197_11 (((0 + 1) + 2) + 1) (((0 + 5) + 8) + 3) 200 #[.val (.int p), .val (.int pre), .val (.int a), .val (.int b), .val (.int c), .val (.int fl), .val (.int n4), .val (.ref q), .val (.int (1 : Int32)), .val (.int x), .val (.int y), .val (.int z), .val (.ref e), .val (.int (1 : Int32))] [(.int x)]
      refine N.aload C (pc' := 202) at_200 rfl rfl rfl ?_
      refine N.iconst C (pc' := 203) (z := 0) at_202 rfl rfl ?_
      refine N.iaload C (pc' := 204) (i := 0) (v := (.int x)) at_203 A_e rfl rfl rfl ?_
      refine N.icmp C (pt := 211) (pf := 207) at_204 rfl rfl (fun (hc204 : ¬ x = x) => absurd (show False from by exact hc204 rfl) id) (fun (hc204 : x = x) => ?_)
      refine N.iconst C (pc' := 208) (z := 1) at_207 rfl rfl ?_
      refine N.goto C (pc' := 212) at_208 rfl ?_
      refine N.istore C (pc' := 214) (ls' := #[.val (.int p), .val (.int pre), .val (.int a), .val (.int b), .val (.int c), .val (.int fl), .val (.int n4), .val (.ref q), .val (.int (1 : Int32)), .val (.int x), .val (.int y), .val (.int z), .val (.ref e), .val (.int (1 : Int32))]) at_212 rfl rfl ?_
      refine N.iload C (pc' := 216) at_214 rfl rfl ?_
      refine N.iconst C (pc' := 217) (z := 2) at_216 rfl rfl ?_
      refine N.icmp C (pt := 244) (pf := 220) at_217 rfl rfl (fun _ => ?_) (fun (q : 2 ≤ 1) => absurd q (by decide))
      refine N.iload C (pc' := 246) at_244 rfl rfl ?_
      refine N.iconst C (pc' := 247) (z := 3) at_246 rfl rfl ?_
      refine N.icmp C (pt := 274) (pf := 250) at_247 rfl rfl (fun _ => ?_) (fun (q : 3 ≤ 1) => absurd q (by decide))
      refine N.iload C (pc' := 276) at_274 rfl rfl ?_
      refine N.ifc C (pt := 291) (pf := 279) at_276 rfl rfl (fun (q : (1 : Int32) = (0 : Int32)) => absurd q (by decide)) (fun _ => ?_)
      refine N.aload C (pc' := 281) at_279 rfl rfl rfl ?_
      refine N.callV C (pc' := 284) q [] at_281 (C.w (i := 36) rfl) (C.w (i := 37) rfl) (C.w (i := 39) rfl) (C.w (i := 38) rfl) (C.w (i := 2) rfl) (C.w (i := 40) rfl) (by decide) E_q (con6 G hw q r d n [] h197_11 HQ) (lenOf pd___Z rfl) rfl (by decide) (show 0 + (1 + 11) + _ ≤ _ from by decide) (by decide) (by decide) (rest := []) rfl rfl ?_
      rintro _ h281_12 ⟨ze, rfl, rfl, hze⟩
      show N G K room_1 Q h197_11 (((0 + 1) + 2) + 1) (((0 + 5) + 8) + 3) 284 #[.val (.int p), .val (.int pre), .val (.int a), .val (.int b), .val (.int c), .val (.int fl), .val (.int n4), .val (.ref q), .val (.int (1 : Int32)), .val (.int x), .val (.int y), .val (.int z), .val (.ref e), .val (.int (1 : Int32))] [(.int ze)]
      refine N.ifc C (pt := 291) (pf := 287) at_284 rfl rfl (fun (hc284 : ze = (0 : Int32)) => absurd (show False from by exact absurd (own_e1 hze rfl) (by rw [hc284]; decide)) id) (fun (hc284 : ¬ ze = (0 : Int32)) => ?_)
      refine N.iconst C (pc' := 288) (z := 1) at_287 rfl rfl ?_
      refine N.goto C (pc' := 292) at_288 rfl ?_
      refine N.istore C (pc' := 294) (ls' := #[.val (.int p), .val (.int pre), .val (.int a), .val (.int b), .val (.int c), .val (.int fl), .val (.int n4), .val (.ref q), .val (.int (1 : Int32)), .val (.int x), .val (.int y), .val (.int z), .val (.ref e), .val (.int (1 : Int32))]) at_292 rfl rfl ?_
      refine N.iload C (pc' := 296) at_294 rfl rfl ?_
      exact N.retN C (by simp) (z' := (1 : Int32)) rfl at_296 (by decide) (by decide) (by subst hQ; exact rfl)
    · have hi150 : ¬ z.toInt = x.toInt := neI hc150
      refine N.iload C (pc' := 155) at_153 rfl rfl ?_
      refine N.iload C (pc' := 157) at_155 rfl rfl ?_
      refine N.icmp C (pt := 170) (pf := 160) at_157 rfl rfl (fun (hc157 : z = y) => absurd (show False from by exact hc150 (hc157.trans hc133)) id) (fun (hc157 : ¬ z = y) => ?_)
      refine N.aload C (pc' := 162) at_160 rfl rfl rfl ?_
      refine N.iload C (pc' := 164) at_162 rfl rfl ?_
      refine N.iload C (pc' := 166) at_164 rfl rfl ?_
      refine N.iastore C (pc' := 167) (i := 1) at_166 A_e rfl (show 1 < 3 from by decide) g_e rfl (fun h166_13 W166 A_e => ?_)
      have Z0 : G.n0 ≤ _ := (Wr.size W166).symm ▸ Z0
      have A_e : Av G.Z h166_13 e .int [(.int x), (.int z), (.int (0 : Int32))] := A_e
      have HQ := HQ.other W166 (Ne.symm ne_e_q) (Ne.symm ne_e_r) (Ne.symm ne_e_d)
      have E_q := HQ.exa
      refine N.iinc C (pc' := 170) (z := 1) (ls' := #[.val (.int p), .val (.int pre), .val (.int a), .val (.int b), .val (.int c), .val (.int fl), .val (.int n4), .val (.ref q), .val (.int (1 : Int32)), .val (.int x), .val (.int y), .val (.int z), .val (.ref e), .val (.int (2 : Int32))]) at_167 rfl rfl rfl rfl ?_
      rw [own_i1e hc133] at HQ
      rw [own_i1n hc150] at HQ
      refine N.iload C (pc' := 172) at_170 rfl rfl ?_
      refine N.ifc C (pt := 187) (pf := 175) at_172 rfl rfl (fun (q : (1 : Int32) = (0 : Int32)) => absurd q (by decide)) (fun _ => ?_)
      refine N.aload C (pc' := 177) at_175 rfl rfl rfl ?_
      refine N.callV C (pc' := 180) q [] at_177 (C.w (i := 36) rfl) (C.w (i := 37) rfl) (C.w (i := 39) rfl) (C.w (i := 38) rfl) (C.w (i := 2) rfl) (C.w (i := 40) rfl) (by decide) E_q (con6 G hw q r d n [x, z] h166_13 HQ) (lenOf pd___Z rfl) rfl (by decide) (show 0 + (1 + 11) + _ ≤ _ from by decide) (by decide) (by decide) (rest := []) rfl rfl ?_
      rintro _ h177_14 ⟨ze, rfl, rfl, hze⟩
      show N G K room_1 Q h166_13 (((0 + 1) + 2) + 1) (((0 + 5) + 8) + 3) 180 #[.val (.int p), .val (.int pre), .val (.int a), .val (.int b), .val (.int c), .val (.int fl), .val (.int n4), .val (.ref q), .val (.int (1 : Int32)), .val (.int x), .val (.int y), .val (.int z), .val (.ref e), .val (.int (2 : Int32))] [(.int ze)]
      refine N.ifc C (pt := 187) (pf := 183) at_180 rfl rfl (fun (hc180 : ¬ ze = (0 : Int32)) => absurd (show False from by exact hc180 (own_e0 hze (by simp))) id) (fun (hc180 : ze = (0 : Int32)) => ?_)
      refine N.iconst C (pc' := 184) (z := 1) at_183 rfl rfl ?_
      refine N.goto C (pc' := 188) at_184 rfl ?_
      refine N.istore C (pc' := 190) (ls' := #[.val (.int p), .val (.int pre), .val (.int a), .val (.int b), .val (.int c), .val (.int fl), .val (.int n4), .val (.ref q), .val (.int (1 : Int32)), .val (.int x), .val (.int y), .val (.int z), .val (.ref e), .val (.int (2 : Int32))]) at_188 rfl rfl ?_
      refine N.iload C (pc' := 192) at_190 rfl rfl ?_
      refine N.ifc C (pt := 211) (pf := 195) at_192 rfl rfl (fun (q : (1 : Int32) = (0 : Int32)) => absurd q (by decide)) (fun _ => ?_)
      refine N.aload C (pc' := 197) at_195 rfl rfl rfl ?_
      refine N.callV C (pc' := 200) q [] at_197 (C.w (i := 29) rfl) (C.w (i := 30) rfl) (C.w (i := 32) rfl) (C.w (i := 31) rfl) (C.w (i := 2) rfl) (C.w (i := 33) rfl) (by decide) E_q (con5 G hw q r d n x [z] h166_13 Z0 HQ) (lenOf pd___I rfl) rfl (by decide) (show 0 + (2 + 11) + _ ≤ _ from by decide) (by decide) (by decide) (rest := []) rfl rfl ?_
      rintro _ h197_15 ⟨rfl, Kp, HQ⟩
      have Z0 := Nat.le_trans Z0 Kp.1
      have A_e := A_e.keep Kp (ninS ne_e_q (ninS ne_e_r (ninS ne_e_d nin0)))
      have E_q := HQ.exa
      show N G K room_1 Q h197_15 (((0 + 1) + 2) + 1) (((0 + 5) + 8) + 3) 200 #[.val (.int p), .val (.int pre), .val (.int a), .val (.int b), .val (.int c), .val (.int fl), .val (.int n4), .val (.ref q), .val (.int (1 : Int32)), .val (.int x), .val (.int y), .val (.int z), .val (.ref e), .val (.int (2 : Int32))] [(.int x)]
      refine N.aload C (pc' := 202) at_200 rfl rfl rfl ?_
      refine N.iconst C (pc' := 203) (z := 0) at_202 rfl rfl ?_
      refine N.iaload C (pc' := 204) (i := 0) (v := (.int x)) at_203 A_e rfl rfl rfl ?_
      refine N.icmp C (pt := 211) (pf := 207) at_204 rfl rfl (fun (hc204 : ¬ x = x) => absurd (show False from by exact hc204 rfl) id) (fun (hc204 : x = x) => ?_)
      refine N.iconst C (pc' := 208) (z := 1) at_207 rfl rfl ?_
      refine N.goto C (pc' := 212) at_208 rfl ?_
      refine N.istore C (pc' := 214) (ls' := #[.val (.int p), .val (.int pre), .val (.int a), .val (.int b), .val (.int c), .val (.int fl), .val (.int n4), .val (.ref q), .val (.int (1 : Int32)), .val (.int x), .val (.int y), .val (.int z), .val (.ref e), .val (.int (2 : Int32))]) at_212 rfl rfl ?_
      refine N.iload C (pc' := 216) at_214 rfl rfl ?_
      refine N.iconst C (pc' := 217) (z := 2) at_216 rfl rfl ?_
      refine N.icmp C (pt := 244) (pf := 220) at_217 rfl rfl (fun (q : 2 < 2) => absurd q (by decide)) (fun _ => ?_)
      refine N.iload C (pc' := 222) at_220 rfl rfl ?_
      refine N.ifc C (pt := 241) (pf := 225) at_222 rfl rfl (fun (q : (1 : Int32) = (0 : Int32)) => absurd q (by decide)) (fun _ => ?_)
      refine N.aload C (pc' := 227) at_225 rfl rfl rfl ?_
      refine N.callV C (pc' := 230) q [] at_227 (C.w (i := 29) rfl) (C.w (i := 30) rfl) (C.w (i := 32) rfl) (C.w (i := 31) rfl) (C.w (i := 2) rfl) (C.w (i := 33) rfl) (by decide) E_q (con5 G hw q r d n z [] h197_15 Z0 HQ) (lenOf pd___I rfl) rfl (by decide) (show 0 + (2 + 11) + _ ≤ _ from by decide) (by decide) (by decide) (rest := []) rfl rfl ?_
      rintro _ h227_16 ⟨rfl, Kp, HQ⟩
      have Z0 := Nat.le_trans Z0 Kp.1
      have A_e := A_e.keep Kp (ninS ne_e_q (ninS ne_e_r (ninS ne_e_d nin0)))
      have E_q := HQ.exa
      show N G K room_1 Q h227_16 (((0 + 1) + 2) + 1) (((0 + 5) + 8) + 3) 230 #[.val (.int p), .val (.int pre), .val (.int a), .val (.int b), .val (.int c), .val (.int fl), .val (.int n4), .val (.ref q), .val (.int (1 : Int32)), .val (.int x), .val (.int y), .val (.int z), .val (.ref e), .val (.int (2 : Int32))] [(.int z)]
      refine N.aload C (pc' := 232) at_230 rfl rfl rfl ?_
      refine N.iconst C (pc' := 233) (z := 1) at_232 rfl rfl ?_
      refine N.iaload C (pc' := 234) (i := 1) (v := (.int z)) at_233 A_e rfl rfl rfl ?_
      refine N.icmp C (pt := 241) (pf := 237) at_234 rfl rfl (fun (hc234 : ¬ z = z) => absurd (show False from by exact hc234 rfl) id) (fun (hc234 : z = z) => ?_)
      refine N.iconst C (pc' := 238) (z := 1) at_237 rfl rfl ?_
      refine N.goto C (pc' := 242) at_238 rfl ?_
      refine N.istore C (pc' := 244) (ls' := #[.val (.int p), .val (.int pre), .val (.int a), .val (.int b), .val (.int c), .val (.int fl), .val (.int n4), .val (.ref q), .val (.int (1 : Int32)), .val (.int x), .val (.int y), .val (.int z), .val (.ref e), .val (.int (2 : Int32))]) at_242 rfl rfl ?_
      refine N.iload C (pc' := 246) at_244 rfl rfl ?_
      refine N.iconst C (pc' := 247) (z := 3) at_246 rfl rfl ?_
      refine N.icmp C (pt := 274) (pf := 250) at_247 rfl rfl (fun _ => ?_) (fun (q : 3 ≤ 2) => absurd q (by decide))
      refine N.iload C (pc' := 276) at_274 rfl rfl ?_
      refine N.ifc C (pt := 291) (pf := 279) at_276 rfl rfl (fun (q : (1 : Int32) = (0 : Int32)) => absurd q (by decide)) (fun _ => ?_)
      refine N.aload C (pc' := 281) at_279 rfl rfl rfl ?_
      refine N.callV C (pc' := 284) q [] at_281 (C.w (i := 36) rfl) (C.w (i := 37) rfl) (C.w (i := 39) rfl) (C.w (i := 38) rfl) (C.w (i := 2) rfl) (C.w (i := 40) rfl) (by decide) E_q (con6 G hw q r d n [] h227_16 HQ) (lenOf pd___Z rfl) rfl (by decide) (show 0 + (1 + 11) + _ ≤ _ from by decide) (by decide) (by decide) (rest := []) rfl rfl ?_
      rintro _ h281_17 ⟨ze, rfl, rfl, hze⟩
      show N G K room_1 Q h227_16 (((0 + 1) + 2) + 1) (((0 + 5) + 8) + 3) 284 #[.val (.int p), .val (.int pre), .val (.int a), .val (.int b), .val (.int c), .val (.int fl), .val (.int n4), .val (.ref q), .val (.int (1 : Int32)), .val (.int x), .val (.int y), .val (.int z), .val (.ref e), .val (.int (2 : Int32))] [(.int ze)]
      refine N.ifc C (pt := 291) (pf := 287) at_284 rfl rfl (fun (hc284 : ze = (0 : Int32)) => absurd (show False from by exact absurd (own_e1 hze rfl) (by rw [hc284]; decide)) id) (fun (hc284 : ¬ ze = (0 : Int32)) => ?_)
      refine N.iconst C (pc' := 288) (z := 1) at_287 rfl rfl ?_
      refine N.goto C (pc' := 292) at_288 rfl ?_
      refine N.istore C (pc' := 294) (ls' := #[.val (.int p), .val (.int pre), .val (.int a), .val (.int b), .val (.int c), .val (.int fl), .val (.int n4), .val (.ref q), .val (.int (1 : Int32)), .val (.int x), .val (.int y), .val (.int z), .val (.ref e), .val (.int (2 : Int32))]) at_292 rfl rfl ?_
      refine N.iload C (pc' := 296) at_294 rfl rfl ?_
      exact N.retN C (by simp) (z' := (1 : Int32)) rfl at_296 (by decide) (by decide) (by subst hQ; exact rfl)
  · have hi133 : ¬ y.toInt = x.toInt := neI hc133
    refine N.aload C (pc' := 138) at_136 rfl rfl rfl ?_
    refine N.iload C (pc' := 140) at_138 rfl rfl ?_
    refine N.iload C (pc' := 142) at_140 rfl rfl ?_
    refine N.iastore C (pc' := 143) (i := 1) at_142 A_e rfl (show 1 < 3 from by decide) g_e rfl (fun h142_18 W142 A_e => ?_)
    have Z0 : G.n0 ≤ _ := (Wr.size W142).symm ▸ Z0
    have A_e : Av G.Z h142_18 e .int [(.int x), (.int y), (.int (0 : Int32))] := A_e
    have HQ := HQ.other W142 (Ne.symm ne_e_q) (Ne.symm ne_e_r) (Ne.symm ne_e_d)
    have E_q := HQ.exa
    refine N.iinc C (pc' := 146) (z := 1) (ls' := #[.val (.int p), .val (.int pre), .val (.int a), .val (.int b), .val (.int c), .val (.int fl), .val (.int n4), .val (.ref q), .val (.int (1 : Int32)), .val (.int x), .val (.int y), .val (.int z), .val (.ref e), .val (.int (2 : Int32))]) at_143 rfl rfl rfl rfl ?_
    refine N.iload C (pc' := 148) at_146 rfl rfl ?_
    refine N.iload C (pc' := 150) at_148 rfl rfl ?_
    refine N.icmp C (pt := 170) (pf := 153) at_150 rfl rfl (fun (hc150 : z = x) => ?_) (fun (hc150 : ¬ z = x) => ?_)
    · have hi150 : z.toInt = x.toInt := eqI hc150
      rw [own_i1n hc133] at HQ
      rw [own_i2x hc150] at HQ
      refine N.iload C (pc' := 172) at_170 rfl rfl ?_
      refine N.ifc C (pt := 187) (pf := 175) at_172 rfl rfl (fun (q : (1 : Int32) = (0 : Int32)) => absurd q (by decide)) (fun _ => ?_)
      refine N.aload C (pc' := 177) at_175 rfl rfl rfl ?_
      refine N.callV C (pc' := 180) q [] at_177 (C.w (i := 36) rfl) (C.w (i := 37) rfl) (C.w (i := 39) rfl) (C.w (i := 38) rfl) (C.w (i := 2) rfl) (C.w (i := 40) rfl) (by decide) E_q (con6 G hw q r d n [x, y] h142_18 HQ) (lenOf pd___Z rfl) rfl (by decide) (show 0 + (1 + 11) + _ ≤ _ from by decide) (by decide) (by decide) (rest := []) rfl rfl ?_
      rintro _ h177_19 ⟨ze, rfl, rfl, hze⟩
      show N G K room_1 Q h142_18 (((0 + 1) + 2) + 1) (((0 + 5) + 8) + 3) 180 #[.val (.int p), .val (.int pre), .val (.int a), .val (.int b), .val (.int c), .val (.int fl), .val (.int n4), .val (.ref q), .val (.int (1 : Int32)), .val (.int x), .val (.int y), .val (.int z), .val (.ref e), .val (.int (2 : Int32))] [(.int ze)]
      refine N.ifc C (pt := 187) (pf := 183) at_180 rfl rfl (fun (hc180 : ¬ ze = (0 : Int32)) => absurd (show False from by exact hc180 (own_e0 hze (by simp))) id) (fun (hc180 : ze = (0 : Int32)) => ?_)
      refine N.iconst C (pc' := 184) (z := 1) at_183 rfl rfl ?_
      refine N.goto C (pc' := 188) at_184 rfl ?_
      refine N.istore C (pc' := 190) (ls' := #[.val (.int p), .val (.int pre), .val (.int a), .val (.int b), .val (.int c), .val (.int fl), .val (.int n4), .val (.ref q), .val (.int (1 : Int32)), .val (.int x), .val (.int y), .val (.int z), .val (.ref e), .val (.int (2 : Int32))]) at_188 rfl rfl ?_
      refine N.iload C (pc' := 192) at_190 rfl rfl ?_
      refine N.ifc C (pt := 211) (pf := 195) at_192 rfl rfl (fun (q : (1 : Int32) = (0 : Int32)) => absurd q (by decide)) (fun _ => ?_)
      refine N.aload C (pc' := 197) at_195 rfl rfl rfl ?_
      refine N.callV C (pc' := 200) q [] at_197 (C.w (i := 29) rfl) (C.w (i := 30) rfl) (C.w (i := 32) rfl) (C.w (i := 31) rfl) (C.w (i := 2) rfl) (C.w (i := 33) rfl) (by decide) E_q (con5 G hw q r d n x [y] h142_18 Z0 HQ) (lenOf pd___I rfl) rfl (by decide) (show 0 + (2 + 11) + _ ≤ _ from by decide) (by decide) (by decide) (rest := []) rfl rfl ?_
      rintro _ h197_20 ⟨rfl, Kp, HQ⟩
      have Z0 := Nat.le_trans Z0 Kp.1
      have A_e := A_e.keep Kp (ninS ne_e_q (ninS ne_e_r (ninS ne_e_d nin0)))
      have E_q := HQ.exa
      show N G K room_1 Q h197_20 (((0 + 1) + 2) + 1) (((0 + 5) + 8) + 3) 200 #[.val (.int p), .val (.int pre), .val (.int a), .val (.int b), .val (.int c), .val (.int fl), .val (.int n4), .val (.ref q), .val (.int (1 : Int32)), .val (.int x), .val (.int y), .val (.int z), .val (.ref e), .val (.int (2 : Int32))] [(.int x)]
      refine N.aload C (pc' := 202) at_200 rfl rfl rfl ?_
      refine N.iconst C (pc' := 203) (z := 0) at_202 rfl rfl ?_
      refine N.iaload C (pc' := 204) (i := 0) (v := (.int x)) at_203 A_e rfl rfl rfl ?_
      refine N.icmp C (pt := 211) (pf := 207) at_204 rfl rfl (fun (hc204 : ¬ x = x) => absurd (show False from by exact hc204 rfl) id) (fun (hc204 : x = x) => ?_)
      refine N.iconst C (pc' := 208) (z := 1) at_207 rfl rfl ?_
      refine N.goto C (pc' := 212) at_208 rfl ?_
      refine N.istore C (pc' := 214) (ls' := #[.val (.int p), .val (.int pre), .val (.int a), .val (.int b), .val (.int c), .val (.int fl), .val (.int n4), .val (.ref q), .val (.int (1 : Int32)), .val (.int x), .val (.int y), .val (.int z), .val (.ref e), .val (.int (2 : Int32))]) at_212 rfl rfl ?_
      refine N.iload C (pc' := 216) at_214 rfl rfl ?_
      refine N.iconst C (pc' := 217) (z := 2) at_216 rfl rfl ?_
      refine N.icmp C (pt := 244) (pf := 220) at_217 rfl rfl (fun (q : 2 < 2) => absurd q (by decide)) (fun _ => ?_)
      refine N.iload C (pc' := 222) at_220 rfl rfl ?_
      refine N.ifc C (pt := 241) (pf := 225) at_222 rfl rfl (fun (q : (1 : Int32) = (0 : Int32)) => absurd q (by decide)) (fun _ => ?_)
      refine N.aload C (pc' := 227) at_225 rfl rfl rfl ?_
      refine N.callV C (pc' := 230) q [] at_227 (C.w (i := 29) rfl) (C.w (i := 30) rfl) (C.w (i := 32) rfl) (C.w (i := 31) rfl) (C.w (i := 2) rfl) (C.w (i := 33) rfl) (by decide) E_q (con5 G hw q r d n y [] h197_20 Z0 HQ) (lenOf pd___I rfl) rfl (by decide) (show 0 + (2 + 11) + _ ≤ _ from by decide) (by decide) (by decide) (rest := []) rfl rfl ?_
      rintro _ h227_21 ⟨rfl, Kp, HQ⟩
      have Z0 := Nat.le_trans Z0 Kp.1
      have A_e := A_e.keep Kp (ninS ne_e_q (ninS ne_e_r (ninS ne_e_d nin0)))
      have E_q := HQ.exa
      show N G K room_1 Q h227_21 (((0 + 1) + 2) + 1) (((0 + 5) + 8) + 3) 230 #[.val (.int p), .val (.int pre), .val (.int a), .val (.int b), .val (.int c), .val (.int fl), .val (.int n4), .val (.ref q), .val (.int (1 : Int32)), .val (.int x), .val (.int y), .val (.int z), .val (.ref e), .val (.int (2 : Int32))] [(.int y)]
      refine N.aload C (pc' := 232) at_230 rfl rfl rfl ?_
      refine N.iconst C (pc' := 233) (z := 1) at_232 rfl rfl ?_
      refine N.iaload C (pc' := 234) (i := 1) (v := (.int y)) at_233 A_e rfl rfl rfl ?_
      refine N.icmp C (pt := 241) (pf := 237) at_234 rfl rfl (fun (hc234 : ¬ y = y) => absurd (show False from by exact hc234 rfl) id) (fun (hc234 : y = y) => ?_)
      refine N.iconst C (pc' := 238) (z := 1) at_237 rfl rfl ?_
      refine N.goto C (pc' := 242) at_238 rfl ?_
      refine N.istore C (pc' := 244) (ls' := #[.val (.int p), .val (.int pre), .val (.int a), .val (.int b), .val (.int c), .val (.int fl), .val (.int n4), .val (.ref q), .val (.int (1 : Int32)), .val (.int x), .val (.int y), .val (.int z), .val (.ref e), .val (.int (2 : Int32))]) at_242 rfl rfl ?_
      refine N.iload C (pc' := 246) at_244 rfl rfl ?_
      refine N.iconst C (pc' := 247) (z := 3) at_246 rfl rfl ?_
      refine N.icmp C (pt := 274) (pf := 250) at_247 rfl rfl (fun _ => ?_) (fun (q : 3 ≤ 2) => absurd q (by decide))
      refine N.iload C (pc' := 276) at_274 rfl rfl ?_
      refine N.ifc C (pt := 291) (pf := 279) at_276 rfl rfl (fun (q : (1 : Int32) = (0 : Int32)) => absurd q (by decide)) (fun _ => ?_)
      refine N.aload C (pc' := 281) at_279 rfl rfl rfl ?_
      refine N.callV C (pc' := 284) q [] at_281 (C.w (i := 36) rfl) (C.w (i := 37) rfl) (C.w (i := 39) rfl) (C.w (i := 38) rfl) (C.w (i := 2) rfl) (C.w (i := 40) rfl) (by decide) E_q (con6 G hw q r d n [] h227_21 HQ) (lenOf pd___Z rfl) rfl (by decide) (show 0 + (1 + 11) + _ ≤ _ from by decide) (by decide) (by decide) (rest := []) rfl rfl ?_
      rintro _ h281_22 ⟨ze, rfl, rfl, hze⟩
      show N G K room_1 Q h227_21 (((0 + 1) + 2) + 1) (((0 + 5) + 8) + 3) 284 #[.val (.int p), .val (.int pre), .val (.int a), .val (.int b), .val (.int c), .val (.int fl), .val (.int n4), .val (.ref q), .val (.int (1 : Int32)), .val (.int x), .val (.int y), .val (.int z), .val (.ref e), .val (.int (2 : Int32))] [(.int ze)]
      refine N.ifc C (pt := 291) (pf := 287) at_284 rfl rfl (fun (hc284 : ze = (0 : Int32)) => absurd (show False from by exact absurd (own_e1 hze rfl) (by rw [hc284]; decide)) id) (fun (hc284 : ¬ ze = (0 : Int32)) => ?_)
      refine N.iconst C (pc' := 288) (z := 1) at_287 rfl rfl ?_
      refine N.goto C (pc' := 292) at_288 rfl ?_
      refine N.istore C (pc' := 294) (ls' := #[.val (.int p), .val (.int pre), .val (.int a), .val (.int b), .val (.int c), .val (.int fl), .val (.int n4), .val (.ref q), .val (.int (1 : Int32)), .val (.int x), .val (.int y), .val (.int z), .val (.ref e), .val (.int (2 : Int32))]) at_292 rfl rfl ?_
      refine N.iload C (pc' := 296) at_294 rfl rfl ?_
      exact N.retN C (by simp) (z' := (1 : Int32)) rfl at_296 (by decide) (by decide) (by subst hQ; exact rfl)
    · have hi150 : ¬ z.toInt = x.toInt := neI hc150
      refine N.iload C (pc' := 155) at_153 rfl rfl ?_
      refine N.iload C (pc' := 157) at_155 rfl rfl ?_
      refine N.icmp C (pt := 170) (pf := 160) at_157 rfl rfl (fun (hc157 : z = y) => ?_) (fun (hc157 : ¬ z = y) => ?_)
      · have hi157 : z.toInt = y.toInt := eqI hc157
        rw [own_i1n hc133] at HQ
        rw [own_i2y hc157] at HQ
        refine N.iload C (pc' := 172) at_170 rfl rfl ?_
        refine N.ifc C (pt := 187) (pf := 175) at_172 rfl rfl (fun (q : (1 : Int32) = (0 : Int32)) => absurd q (by decide)) (fun _ => ?_)
        refine N.aload C (pc' := 177) at_175 rfl rfl rfl ?_
        refine N.callV C (pc' := 180) q [] at_177 (C.w (i := 36) rfl) (C.w (i := 37) rfl) (C.w (i := 39) rfl) (C.w (i := 38) rfl) (C.w (i := 2) rfl) (C.w (i := 40) rfl) (by decide) E_q (con6 G hw q r d n [x, y] h142_18 HQ) (lenOf pd___Z rfl) rfl (by decide) (show 0 + (1 + 11) + _ ≤ _ from by decide) (by decide) (by decide) (rest := []) rfl rfl ?_
        rintro _ h177_23 ⟨ze, rfl, rfl, hze⟩
        show N G K room_1 Q h142_18 (((0 + 1) + 2) + 1) (((0 + 5) + 8) + 3) 180 #[.val (.int p), .val (.int pre), .val (.int a), .val (.int b), .val (.int c), .val (.int fl), .val (.int n4), .val (.ref q), .val (.int (1 : Int32)), .val (.int x), .val (.int y), .val (.int z), .val (.ref e), .val (.int (2 : Int32))] [(.int ze)]
        refine N.ifc C (pt := 187) (pf := 183) at_180 rfl rfl (fun (hc180 : ¬ ze = (0 : Int32)) => absurd (show False from by exact hc180 (own_e0 hze (by simp))) id) (fun (hc180 : ze = (0 : Int32)) => ?_)
        refine N.iconst C (pc' := 184) (z := 1) at_183 rfl rfl ?_
        refine N.goto C (pc' := 188) at_184 rfl ?_
        refine N.istore C (pc' := 190) (ls' := #[.val (.int p), .val (.int pre), .val (.int a), .val (.int b), .val (.int c), .val (.int fl), .val (.int n4), .val (.ref q), .val (.int (1 : Int32)), .val (.int x), .val (.int y), .val (.int z), .val (.ref e), .val (.int (2 : Int32))]) at_188 rfl rfl ?_
        refine N.iload C (pc' := 192) at_190 rfl rfl ?_
        refine N.ifc C (pt := 211) (pf := 195) at_192 rfl rfl (fun (q : (1 : Int32) = (0 : Int32)) => absurd q (by decide)) (fun _ => ?_)
        refine N.aload C (pc' := 197) at_195 rfl rfl rfl ?_
        refine N.callV C (pc' := 200) q [] at_197 (C.w (i := 29) rfl) (C.w (i := 30) rfl) (C.w (i := 32) rfl) (C.w (i := 31) rfl) (C.w (i := 2) rfl) (C.w (i := 33) rfl) (by decide) E_q (con5 G hw q r d n x [y] h142_18 Z0 HQ) (lenOf pd___I rfl) rfl (by decide) (show 0 + (2 + 11) + _ ≤ _ from by decide) (by decide) (by decide) (rest := []) rfl rfl ?_
        rintro _ h197_24 ⟨rfl, Kp, HQ⟩
        have Z0 := Nat.le_trans Z0 Kp.1
        have A_e := A_e.keep Kp (ninS ne_e_q (ninS ne_e_r (ninS ne_e_d nin0)))
        have E_q := HQ.exa
        show N G K room_1 Q h197_24 (((0 + 1) + 2) + 1) (((0 + 5) + 8) + 3) 200 #[.val (.int p), .val (.int pre), .val (.int a), .val (.int b), .val (.int c), .val (.int fl), .val (.int n4), .val (.ref q), .val (.int (1 : Int32)), .val (.int x), .val (.int y), .val (.int z), .val (.ref e), .val (.int (2 : Int32))] [(.int x)]
        refine N.aload C (pc' := 202) at_200 rfl rfl rfl ?_
        refine N.iconst C (pc' := 203) (z := 0) at_202 rfl rfl ?_
        refine N.iaload C (pc' := 204) (i := 0) (v := (.int x)) at_203 A_e rfl rfl rfl ?_
        refine N.icmp C (pt := 211) (pf := 207) at_204 rfl rfl (fun (hc204 : ¬ x = x) => absurd (show False from by exact hc204 rfl) id) (fun (hc204 : x = x) => ?_)
        refine N.iconst C (pc' := 208) (z := 1) at_207 rfl rfl ?_
        refine N.goto C (pc' := 212) at_208 rfl ?_
        refine N.istore C (pc' := 214) (ls' := #[.val (.int p), .val (.int pre), .val (.int a), .val (.int b), .val (.int c), .val (.int fl), .val (.int n4), .val (.ref q), .val (.int (1 : Int32)), .val (.int x), .val (.int y), .val (.int z), .val (.ref e), .val (.int (2 : Int32))]) at_212 rfl rfl ?_
        refine N.iload C (pc' := 216) at_214 rfl rfl ?_
        refine N.iconst C (pc' := 217) (z := 2) at_216 rfl rfl ?_
        refine N.icmp C (pt := 244) (pf := 220) at_217 rfl rfl (fun (q : 2 < 2) => absurd q (by decide)) (fun _ => ?_)
        refine N.iload C (pc' := 222) at_220 rfl rfl ?_
        refine N.ifc C (pt := 241) (pf := 225) at_222 rfl rfl (fun (q : (1 : Int32) = (0 : Int32)) => absurd q (by decide)) (fun _ => ?_)
        refine N.aload C (pc' := 227) at_225 rfl rfl rfl ?_
        refine N.callV C (pc' := 230) q [] at_227 (C.w (i := 29) rfl) (C.w (i := 30) rfl) (C.w (i := 32) rfl) (C.w (i := 31) rfl) (C.w (i := 2) rfl) (C.w (i := 33) rfl) (by decide) E_q (con5 G hw q r d n y [] h197_24 Z0 HQ) (lenOf pd___I rfl) rfl (by decide) (show 0 + (2 + 11) + _ ≤ _ from by decide) (by decide) (by decide) (rest := []) rfl rfl ?_
        rintro _ h227_25 ⟨rfl, Kp, HQ⟩
        have Z0 := Nat.le_trans Z0 Kp.1
        have A_e := A_e.keep Kp (ninS ne_e_q (ninS ne_e_r (ninS ne_e_d nin0)))
        have E_q := HQ.exa
        show N G K room_1 Q h227_25 (((0 + 1) + 2) + 1) (((0 + 5) + 8) + 3) 230 #[.val (.int p), .val (.int pre), .val (.int a), .val (.int b), .val (.int c), .val (.int fl), .val (.int n4), .val (.ref q), .val (.int (1 : Int32)), .val (.int x), .val (.int y), .val (.int z), .val (.ref e), .val (.int (2 : Int32))] [(.int y)]
        refine N.aload C (pc' := 232) at_230 rfl rfl rfl ?_
        refine N.iconst C (pc' := 233) (z := 1) at_232 rfl rfl ?_
        refine N.iaload C (pc' := 234) (i := 1) (v := (.int y)) at_233 A_e rfl rfl rfl ?_
        refine N.icmp C (pt := 241) (pf := 237) at_234 rfl rfl (fun (hc234 : ¬ y = y) => absurd (show False from by exact hc234 rfl) id) (fun (hc234 : y = y) => ?_)
        refine N.iconst C (pc' := 238) (z := 1) at_237 rfl rfl ?_
        refine N.goto C (pc' := 242) at_238 rfl ?_
        refine N.istore C (pc' := 244) (ls' := #[.val (.int p), .val (.int pre), .val (.int a), .val (.int b), .val (.int c), .val (.int fl), .val (.int n4), .val (.ref q), .val (.int (1 : Int32)), .val (.int x), .val (.int y), .val (.int z), .val (.ref e), .val (.int (2 : Int32))]) at_242 rfl rfl ?_
        refine N.iload C (pc' := 246) at_244 rfl rfl ?_
        refine N.iconst C (pc' := 247) (z := 3) at_246 rfl rfl ?_
        refine N.icmp C (pt := 274) (pf := 250) at_247 rfl rfl (fun _ => ?_) (fun (q : 3 ≤ 2) => absurd q (by decide))
        refine N.iload C (pc' := 276) at_274 rfl rfl ?_
        refine N.ifc C (pt := 291) (pf := 279) at_276 rfl rfl (fun (q : (1 : Int32) = (0 : Int32)) => absurd q (by decide)) (fun _ => ?_)
        refine N.aload C (pc' := 281) at_279 rfl rfl rfl ?_
        refine N.callV C (pc' := 284) q [] at_281 (C.w (i := 36) rfl) (C.w (i := 37) rfl) (C.w (i := 39) rfl) (C.w (i := 38) rfl) (C.w (i := 2) rfl) (C.w (i := 40) rfl) (by decide) E_q (con6 G hw q r d n [] h227_25 HQ) (lenOf pd___Z rfl) rfl (by decide) (show 0 + (1 + 11) + _ ≤ _ from by decide) (by decide) (by decide) (rest := []) rfl rfl ?_
        rintro _ h281_26 ⟨ze, rfl, rfl, hze⟩
        show N G K room_1 Q h227_25 (((0 + 1) + 2) + 1) (((0 + 5) + 8) + 3) 284 #[.val (.int p), .val (.int pre), .val (.int a), .val (.int b), .val (.int c), .val (.int fl), .val (.int n4), .val (.ref q), .val (.int (1 : Int32)), .val (.int x), .val (.int y), .val (.int z), .val (.ref e), .val (.int (2 : Int32))] [(.int ze)]
        refine N.ifc C (pt := 291) (pf := 287) at_284 rfl rfl (fun (hc284 : ze = (0 : Int32)) => absurd (show False from by exact absurd (own_e1 hze rfl) (by rw [hc284]; decide)) id) (fun (hc284 : ¬ ze = (0 : Int32)) => ?_)
        refine N.iconst C (pc' := 288) (z := 1) at_287 rfl rfl ?_
        refine N.goto C (pc' := 292) at_288 rfl ?_
        refine N.istore C (pc' := 294) (ls' := #[.val (.int p), .val (.int pre), .val (.int a), .val (.int b), .val (.int c), .val (.int fl), .val (.int n4), .val (.ref q), .val (.int (1 : Int32)), .val (.int x), .val (.int y), .val (.int z), .val (.ref e), .val (.int (2 : Int32))]) at_292 rfl rfl ?_
        refine N.iload C (pc' := 296) at_294 rfl rfl ?_
        exact N.retN C (by simp) (z' := (1 : Int32)) rfl at_296 (by decide) (by decide) (by subst hQ; exact rfl)
      · have hi157 : ¬ z.toInt = y.toInt := neI hc157
        refine N.aload C (pc' := 162) at_160 rfl rfl rfl ?_
        refine N.iload C (pc' := 164) at_162 rfl rfl ?_
        refine N.iload C (pc' := 166) at_164 rfl rfl ?_
        refine N.iastore C (pc' := 167) (i := 2) at_166 A_e rfl (show 2 < 3 from by decide) g_e rfl (fun h166_27 W166 A_e => ?_)
        have Z0 : G.n0 ≤ _ := (Wr.size W166).symm ▸ Z0
        have A_e : Av G.Z h166_27 e .int [(.int x), (.int y), (.int z)] := A_e
        have HQ := HQ.other W166 (Ne.symm ne_e_q) (Ne.symm ne_e_r) (Ne.symm ne_e_d)
        have E_q := HQ.exa
        refine N.iinc C (pc' := 170) (z := 1) (ls' := #[.val (.int p), .val (.int pre), .val (.int a), .val (.int b), .val (.int c), .val (.int fl), .val (.int n4), .val (.ref q), .val (.int (1 : Int32)), .val (.int x), .val (.int y), .val (.int z), .val (.ref e), .val (.int (3 : Int32))]) at_167 rfl rfl rfl rfl ?_
        rw [own_i1n hc133] at HQ
        rw [own_i2n hc150 hc157] at HQ
        refine N.iload C (pc' := 172) at_170 rfl rfl ?_
        refine N.ifc C (pt := 187) (pf := 175) at_172 rfl rfl (fun (q : (1 : Int32) = (0 : Int32)) => absurd q (by decide)) (fun _ => ?_)
        refine N.aload C (pc' := 177) at_175 rfl rfl rfl ?_
        refine N.callV C (pc' := 180) q [] at_177 (C.w (i := 36) rfl) (C.w (i := 37) rfl) (C.w (i := 39) rfl) (C.w (i := 38) rfl) (C.w (i := 2) rfl) (C.w (i := 40) rfl) (by decide) E_q (con6 G hw q r d n [x, y, z] h166_27 HQ) (lenOf pd___Z rfl) rfl (by decide) (show 0 + (1 + 11) + _ ≤ _ from by decide) (by decide) (by decide) (rest := []) rfl rfl ?_
        rintro _ h177_28 ⟨ze, rfl, rfl, hze⟩
        show N G K room_1 Q h166_27 (((0 + 1) + 2) + 1) (((0 + 5) + 8) + 3) 180 #[.val (.int p), .val (.int pre), .val (.int a), .val (.int b), .val (.int c), .val (.int fl), .val (.int n4), .val (.ref q), .val (.int (1 : Int32)), .val (.int x), .val (.int y), .val (.int z), .val (.ref e), .val (.int (3 : Int32))] [(.int ze)]
        refine N.ifc C (pt := 187) (pf := 183) at_180 rfl rfl (fun (hc180 : ¬ ze = (0 : Int32)) => absurd (show False from by exact hc180 (own_e0 hze (by simp))) id) (fun (hc180 : ze = (0 : Int32)) => ?_)
        refine N.iconst C (pc' := 184) (z := 1) at_183 rfl rfl ?_
        refine N.goto C (pc' := 188) at_184 rfl ?_
        refine N.istore C (pc' := 190) (ls' := #[.val (.int p), .val (.int pre), .val (.int a), .val (.int b), .val (.int c), .val (.int fl), .val (.int n4), .val (.ref q), .val (.int (1 : Int32)), .val (.int x), .val (.int y), .val (.int z), .val (.ref e), .val (.int (3 : Int32))]) at_188 rfl rfl ?_
        refine N.iload C (pc' := 192) at_190 rfl rfl ?_
        refine N.ifc C (pt := 211) (pf := 195) at_192 rfl rfl (fun (q : (1 : Int32) = (0 : Int32)) => absurd q (by decide)) (fun _ => ?_)
        refine N.aload C (pc' := 197) at_195 rfl rfl rfl ?_
        refine N.callV C (pc' := 200) q [] at_197 (C.w (i := 29) rfl) (C.w (i := 30) rfl) (C.w (i := 32) rfl) (C.w (i := 31) rfl) (C.w (i := 2) rfl) (C.w (i := 33) rfl) (by decide) E_q (con5 G hw q r d n x [y, z] h166_27 Z0 HQ) (lenOf pd___I rfl) rfl (by decide) (show 0 + (2 + 11) + _ ≤ _ from by decide) (by decide) (by decide) (rest := []) rfl rfl ?_
        rintro _ h197_29 ⟨rfl, Kp, HQ⟩
        have Z0 := Nat.le_trans Z0 Kp.1
        have A_e := A_e.keep Kp (ninS ne_e_q (ninS ne_e_r (ninS ne_e_d nin0)))
        have E_q := HQ.exa
        show N G K room_1 Q h197_29 (((0 + 1) + 2) + 1) (((0 + 5) + 8) + 3) 200 #[.val (.int p), .val (.int pre), .val (.int a), .val (.int b), .val (.int c), .val (.int fl), .val (.int n4), .val (.ref q), .val (.int (1 : Int32)), .val (.int x), .val (.int y), .val (.int z), .val (.ref e), .val (.int (3 : Int32))] [(.int x)]
        refine N.aload C (pc' := 202) at_200 rfl rfl rfl ?_
        refine N.iconst C (pc' := 203) (z := 0) at_202 rfl rfl ?_
        refine N.iaload C (pc' := 204) (i := 0) (v := (.int x)) at_203 A_e rfl rfl rfl ?_
        refine N.icmp C (pt := 211) (pf := 207) at_204 rfl rfl (fun (hc204 : ¬ x = x) => absurd (show False from by exact hc204 rfl) id) (fun (hc204 : x = x) => ?_)
        refine N.iconst C (pc' := 208) (z := 1) at_207 rfl rfl ?_
        refine N.goto C (pc' := 212) at_208 rfl ?_
        refine N.istore C (pc' := 214) (ls' := #[.val (.int p), .val (.int pre), .val (.int a), .val (.int b), .val (.int c), .val (.int fl), .val (.int n4), .val (.ref q), .val (.int (1 : Int32)), .val (.int x), .val (.int y), .val (.int z), .val (.ref e), .val (.int (3 : Int32))]) at_212 rfl rfl ?_
        refine N.iload C (pc' := 216) at_214 rfl rfl ?_
        refine N.iconst C (pc' := 217) (z := 2) at_216 rfl rfl ?_
        refine N.icmp C (pt := 244) (pf := 220) at_217 rfl rfl (fun (q : 3 < 2) => absurd q (by decide)) (fun _ => ?_)
        refine N.iload C (pc' := 222) at_220 rfl rfl ?_
        refine N.ifc C (pt := 241) (pf := 225) at_222 rfl rfl (fun (q : (1 : Int32) = (0 : Int32)) => absurd q (by decide)) (fun _ => ?_)
        refine N.aload C (pc' := 227) at_225 rfl rfl rfl ?_
        refine N.callV C (pc' := 230) q [] at_227 (C.w (i := 29) rfl) (C.w (i := 30) rfl) (C.w (i := 32) rfl) (C.w (i := 31) rfl) (C.w (i := 2) rfl) (C.w (i := 33) rfl) (by decide) E_q (con5 G hw q r d n y [z] h197_29 Z0 HQ) (lenOf pd___I rfl) rfl (by decide) (show 0 + (2 + 11) + _ ≤ _ from by decide) (by decide) (by decide) (rest := []) rfl rfl ?_
        rintro _ h227_30 ⟨rfl, Kp, HQ⟩
        have Z0 := Nat.le_trans Z0 Kp.1
        have A_e := A_e.keep Kp (ninS ne_e_q (ninS ne_e_r (ninS ne_e_d nin0)))
        have E_q := HQ.exa
        show N G K room_1 Q h227_30 (((0 + 1) + 2) + 1) (((0 + 5) + 8) + 3) 230 #[.val (.int p), .val (.int pre), .val (.int a), .val (.int b), .val (.int c), .val (.int fl), .val (.int n4), .val (.ref q), .val (.int (1 : Int32)), .val (.int x), .val (.int y), .val (.int z), .val (.ref e), .val (.int (3 : Int32))] [(.int y)]
        refine N.aload C (pc' := 232) at_230 rfl rfl rfl ?_
        refine N.iconst C (pc' := 233) (z := 1) at_232 rfl rfl ?_
        refine N.iaload C (pc' := 234) (i := 1) (v := (.int y)) at_233 A_e rfl rfl rfl ?_
        refine N.icmp C (pt := 241) (pf := 237) at_234 rfl rfl (fun (hc234 : ¬ y = y) => absurd (show False from by exact hc234 rfl) id) (fun (hc234 : y = y) => ?_)
        refine N.iconst C (pc' := 238) (z := 1) at_237 rfl rfl ?_
        refine N.goto C (pc' := 242) at_238 rfl ?_
        refine N.istore C (pc' := 244) (ls' := #[.val (.int p), .val (.int pre), .val (.int a), .val (.int b), .val (.int c), .val (.int fl), .val (.int n4), .val (.ref q), .val (.int (1 : Int32)), .val (.int x), .val (.int y), .val (.int z), .val (.ref e), .val (.int (3 : Int32))]) at_242 rfl rfl ?_
        refine N.iload C (pc' := 246) at_244 rfl rfl ?_
        refine N.iconst C (pc' := 247) (z := 3) at_246 rfl rfl ?_
        refine N.icmp C (pt := 274) (pf := 250) at_247 rfl rfl (fun (q : 3 < 3) => absurd q (by decide)) (fun _ => ?_)
        refine N.iload C (pc' := 252) at_250 rfl rfl ?_
        refine N.ifc C (pt := 271) (pf := 255) at_252 rfl rfl (fun (q : (1 : Int32) = (0 : Int32)) => absurd q (by decide)) (fun _ => ?_)
        refine N.aload C (pc' := 257) at_255 rfl rfl rfl ?_
        refine N.callV C (pc' := 260) q [] at_257 (C.w (i := 29) rfl) (C.w (i := 30) rfl) (C.w (i := 32) rfl) (C.w (i := 31) rfl) (C.w (i := 2) rfl) (C.w (i := 33) rfl) (by decide) E_q (con5 G hw q r d n z [] h227_30 Z0 HQ) (lenOf pd___I rfl) rfl (by decide) (show 0 + (2 + 11) + _ ≤ _ from by decide) (by decide) (by decide) (rest := []) rfl rfl ?_
        rintro _ h257_31 ⟨rfl, Kp, HQ⟩
        have Z0 := Nat.le_trans Z0 Kp.1
        have A_e := A_e.keep Kp (ninS ne_e_q (ninS ne_e_r (ninS ne_e_d nin0)))
        have E_q := HQ.exa
        show N G K room_1 Q h257_31 (((0 + 1) + 2) + 1) (((0 + 5) + 8) + 3) 260 #[.val (.int p), .val (.int pre), .val (.int a), .val (.int b), .val (.int c), .val (.int fl), .val (.int n4), .val (.ref q), .val (.int (1 : Int32)), .val (.int x), .val (.int y), .val (.int z), .val (.ref e), .val (.int (3 : Int32))] [(.int z)]
        refine N.aload C (pc' := 262) at_260 rfl rfl rfl ?_
        refine N.iconst C (pc' := 263) (z := 2) at_262 rfl rfl ?_
        refine N.iaload C (pc' := 264) (i := 2) (v := (.int z)) at_263 A_e rfl rfl rfl ?_
        refine N.icmp C (pt := 271) (pf := 267) at_264 rfl rfl (fun (hc264 : ¬ z = z) => absurd (show False from by exact hc264 rfl) id) (fun (hc264 : z = z) => ?_)
        refine N.iconst C (pc' := 268) (z := 1) at_267 rfl rfl ?_
        refine N.goto C (pc' := 272) at_268 rfl ?_
        refine N.istore C (pc' := 274) (ls' := #[.val (.int p), .val (.int pre), .val (.int a), .val (.int b), .val (.int c), .val (.int fl), .val (.int n4), .val (.ref q), .val (.int (1 : Int32)), .val (.int x), .val (.int y), .val (.int z), .val (.ref e), .val (.int (3 : Int32))]) at_272 rfl rfl ?_
        refine N.iload C (pc' := 276) at_274 rfl rfl ?_
        refine N.ifc C (pt := 291) (pf := 279) at_276 rfl rfl (fun (q : (1 : Int32) = (0 : Int32)) => absurd q (by decide)) (fun _ => ?_)
        refine N.aload C (pc' := 281) at_279 rfl rfl rfl ?_
        refine N.callV C (pc' := 284) q [] at_281 (C.w (i := 36) rfl) (C.w (i := 37) rfl) (C.w (i := 39) rfl) (C.w (i := 38) rfl) (C.w (i := 2) rfl) (C.w (i := 40) rfl) (by decide) E_q (con6 G hw q r d n [] h257_31 HQ) (lenOf pd___Z rfl) rfl (by decide) (show 0 + (1 + 11) + _ ≤ _ from by decide) (by decide) (by decide) (rest := []) rfl rfl ?_
        rintro _ h281_32 ⟨ze, rfl, rfl, hze⟩
        show N G K room_1 Q h257_31 (((0 + 1) + 2) + 1) (((0 + 5) + 8) + 3) 284 #[.val (.int p), .val (.int pre), .val (.int a), .val (.int b), .val (.int c), .val (.int fl), .val (.int n4), .val (.ref q), .val (.int (1 : Int32)), .val (.int x), .val (.int y), .val (.int z), .val (.ref e), .val (.int (3 : Int32))] [(.int ze)]
        refine N.ifc C (pt := 291) (pf := 287) at_284 rfl rfl (fun (hc284 : ze = (0 : Int32)) => absurd (show False from by exact absurd (own_e1 hze rfl) (by rw [hc284]; decide)) id) (fun (hc284 : ¬ ze = (0 : Int32)) => ?_)
        refine N.iconst C (pc' := 288) (z := 1) at_287 rfl rfl ?_
        refine N.goto C (pc' := 292) at_288 rfl ?_
        refine N.istore C (pc' := 294) (ls' := #[.val (.int p), .val (.int pre), .val (.int a), .val (.int b), .val (.int c), .val (.int fl), .val (.int n4), .val (.ref q), .val (.int (1 : Int32)), .val (.int x), .val (.int y), .val (.int z), .val (.ref e), .val (.int (3 : Int32))]) at_292 rfl rfl ?_
        refine N.iload C (pc' := 296) at_294 rfl rfl ?_
        exact N.retN C (by simp) (z' := (1 : Int32)) rfl at_296 (by decide) (by decide) (by subst hQ; exact rfl)
set_option maxRecDepth 65536 in
set_option maxHeartbeats 40000000 in
theorem comes_1 {Post : Tables → Env → Array Value → State → Outcome → State → Prop} (hpost : ∀ tb e args s v u, (limb_1_1.after args s (.returned v) u = true ∧ limb_1_2.after args s (.returned v) u = true ∧ True) → FrameEnd s (.returned v) u (Jvm.fieldLocs frame_1_writes args s ++ Jvm.arrayLocs frame_1_arrays args s ++ Jvm.staticLocs frame_1_statics s) 16 128 → Post tb e args s (.returned v) u) :
    ArmFor flags0 classFile x code maxLocals ret World_1 tables_1 room_1 Calls_1 rest_1 Pre_1 Post := by
  intro l hfl _ _ p e ha hc hk s m args below hf hA hF happ hP
  obtain ⟨hcalls, hrest, hpre⟩ := hP
  obtain ⟨-, -, -, hnamed, -, -, -, hat⟩ := (Spec.applies_iff hf).mp happ
  obtain ⟨hg, hn⟩ := and_e (Cond.before_iff.mp (show (Jvm.Cond.and given_1 narrow_1).before args s = true from hpre))
  obtain ⟨hcount, hrow⟩ := and_e hg
  obtain ⟨ha0, hrow⟩ := and_e hrow
  obtain ⟨ha1, hrow⟩ := and_e hrow
  obtain ⟨ha2, hrow⟩ := and_e hrow
  obtain ⟨ha3, hrow⟩ := and_e hrow
  obtain ⟨ha4, hrow⟩ := and_e hrow
  have ha5 := hrow
  obtain ⟨w0, w1, w2, w3, w4, w5, rfl⟩ : ∃ w0 w1 w2 w3 w4 w5 : Value, args = #[w0, w1, w2, w3, w4, w5] := by
    have hs : args.size = 6 := by simpa [Cond.value, given_1] using hcount
    obtain ⟨L⟩ := args
    match L, hs with
    | [w0, w1, w2, w3, w4, w5], _ => exact ⟨w0, w1, w2, w3, w4, w5, rfl⟩
  have hw := fun d (hd : d ∈ tables_1) => atoms_spec (ws := Jvm.Cond.code x code maxLocals ret :: tables_1) hat d (List.mem_cons_of_mem _ hd)
  have hfit : Fit s := fun {y c} hc i hi => by
    obtain ⟨ha, rfl⟩ := Array.getElem?_eq_some_iff.mp hc
    have q := List.all_eq_true.mp ((Array.all_eq_true_iff_forall_mem.mp hF) _ (Array.getElem_mem ha)) i (List.mem_range.mpr hi)
    simpa [Array.getElem?_eq_getElem hi] using q
  obtain ⟨i0, ei0⟩ := is_v ha0
  obtain rfl : w0 = (.int i0) := Option.some.inj ei0
  obtain ⟨i1, ei1⟩ := is_v ha1
  obtain rfl : w1 = (.int i1) := Option.some.inj ei1
  obtain ⟨i2, ei2⟩ := is_v ha2
  obtain rfl : w2 = (.int i2) := Option.some.inj ei2
  obtain ⟨i3, ei3⟩ := is_v ha3
  obtain rfl : w3 = (.int i3) := Option.some.inj ei3
  obtain ⟨i4, ei4⟩ := is_v ha4
  obtain rfl : w4 = (.int i4) := Option.some.inj ei4
  obtain ⟨i5, ei5⟩ := is_v ha5
  obtain rfl : w5 = (.int i5) := Option.some.inj ei5
  obtain ⟨n, o, h1, h2, h3, _, L, rfl, ⟨rfl, N⟩, hq⟩ := con0 (l, s, _, s.heap.size) hw i0 i1 i2 i3 i4 i5 s.heap (Nat.le_refl _) tables_1 p e ha hc hk s m _ below hf ((Spec.applies_iff_loose hf).mp happ).1 ⟨rfl, State.Warmed39.refl s, rfl⟩ trivial
  refine ⟨n, _, h1, h2, h3, hpost _ _ _ _ _ _ ⟨Cond.after_iff.mpr rfl, Cond.after_iff.mpr (eq_i res_at (Term.int_eval (1)) rfl), trivial⟩ ⟨hq.1, hq.2.1, (hq.2.2.sift fun y hy => Or.inr (N y hy)).mono (by decide) (by decide)⟩⟩
theorem main_1_1 : Claimed_1_1 := comes_1 fun _ _ _ _ _ _ h hF => ⟨h.1, hF⟩
theorem main_1_2 : Claimed_1_2 := comes_1 fun _ _ _ _ _ _ h hF => ⟨h.2.1, hF⟩
end Jvm.Pilot.@@N@@
namespace Jvm.Pilot.@@N@@
open Jvm Jvm.ClassFile Sem Op Lib Jvm.Free Jvm.Stand Jvm.Pilot.@@N@@.Jvm.D
/-! MADE BY PROGRAM (witnessworld.py) out of the Statement's table words and the real class files: 11 classes; the members and pool entries that the words name. The judged class is class 1, her method 1. -/
namespace start1
open Jvm.ClassFile
def u (s : String) : CpInfo := .utf8 (stringToUtf16 s)
/-- a pool by its gaps: so many unusable entries, then the entry; so many at the end -/
def gap : Nat → List CpInfo → List CpInfo
  | 0, r => r
  | n + 1, r => .unusable :: gap n r
def poolList (es : List (Nat × CpInfo)) (last : Nat) : List CpInfo := es.foldr (fun e r => gap e.1 (e.2 :: r)) (gap last [])
def pool (es : List (Nat × CpInfo)) (last : Nat) : Array CpInfo := ⟨poolList es last⟩
def fileOf (pool : Array CpInfo) (this : Nat) (attrs : Array Attribute := #[]) (ms : Array MethodInfo := #[]) (fl : Nat := 33) (sup : Nat := 0) (ifs : Array Nat := #[]) (fds : Array FieldInfo := #[]) : ClassFile where
  minorVersion := 0
  majorVersion := 65
  constantPool := pool
  accessFlags := fl
  thisClass := this
  superClass := sup
  interfaces := ifs
  fields := fds
  methods := ms
  attributes := attrs
def plain (name : String) (sup : Option ClassId) : Class where
  name := name
  kind := .ordinary
  loader := none
  accessFlags := 33
  super := sup
  interfaces := #[]
  cf := none
  fields := #[]
  methods := #[]
  instanceTypes := #[]
  staticTypes := #[]
  resolved := #[]
  callSites := []
  init := .initialized
  statics := none
  mirror := none

def pool0 : Array CpInfo := pool [(5, u "<init>"), (0, u "()V"), (1, .class_ 10), (1, u "java/lang/Object")] 113

def k0c0 : Code := { maxStack := 0, maxLocals := 1, code := object_method_1_code, exceptionTable := #[], attributes := #[] }
def k0m0 : Method := { name := "<init>", desc := "()V", sig := { parameters := [], returnType := none }, accessFlags := 1, code := some k0c0 }
/-- java/lang/Object -/
def k0 : Class := { plain "java/lang/Object" none with
  accessFlags := 33
  interfaces := #[]
  cf := some (fileOf pool0 8 #[] #[{ accessFlags := 1, nameIndex := 5, descriptorIndex := 6, attributes := #[] }] 33 0 #[] #[])
  fields := #[]
  methods := #[k0m0]
  instanceTypes := #[]
  staticTypes := #[]
  resolved := Array.replicate 124 none
  statics := none }

def pool1 : Array CpInfo := pool [(2, .class_ 4), (1, u "java/lang/Object"), (0, u "<init>"), (0, u "()V"), (0, .class_ 8), (0, u "com/example/ravel/ravel/search/NodeQueue"), (0, .methodref 7 10), (0, .nameAndType 5 11), (0, u "(I)V"), (0, .integer 2147483647), (0, .methodref 7 14), (0, .nameAndType 15 11), (0, u "add"), (0, .methodref 7 17), (0, .nameAndType 18 19), (0, u "poll"), (0, u "()I"), (0, .methodref 7 21), (0, .nameAndType 22 23), (0, u "isEmpty"), (0, u "()Z"), (0, .class_ 25), (0, u "com/example/ravel/ravel/search/NodeQueueAddPinLaw"), (2, u "law"), (0, u "(IIIIII)Z")] 5

def k1m0 : Method := { name := "<init>", desc := "()V", sig := { parameters := [], returnType := none }, accessFlags := 1, code := none }
def k1c1 : Code := { maxStack := 3, maxLocals := 14, code := code, exceptionTable := #[], attributes := #[] }
def k1m1 : Method := { name := "law", desc := "(IIIIII)Z", sig := { parameters := [.int, .int, .int, .int, .int, .int], returnType := some .boolean }, accessFlags := 9, code := some k1c1 }
/-- com/example/ravel/ravel/search/NodeQueueAddPinLaw -/
def k1 : Class := { plain "com/example/ravel/ravel/search/NodeQueueAddPinLaw" (some 0) with
  accessFlags := 49
  interfaces := #[]
  cf := some (fileOf pool1 24 #[] #[{ accessFlags := 1, nameIndex := 5, descriptorIndex := 6, attributes := #[] }, { accessFlags := 9, nameIndex := 28, descriptorIndex := 29, attributes := #[] }] 49 2 #[] #[])
  fields := #[]
  methods := #[k1m0, k1m1]
  instanceTypes := #[]
  staticTypes := #[]
  resolved := Array.replicate 35 none
  statics := none }

def pool2 : Array CpInfo := pool [(1, .methodref 2 3), (0, .class_ 4), (0, .nameAndType 5 6), (0, u "java/lang/Object"), (0, u "<init>"), (0, u "()V"), (0, .fieldref 8 9), (0, .class_ 10), (0, .nameAndType 11 12), (0, u "com/example/ravel/ravel/search/NodeQueue"), (0, u "ring"), (0, u "[I"), (0, .fieldref 8 14), (0, .nameAndType 15 16), (0, u "held"), (0, u "[Z"), (0, .fieldref 8 18), (0, .nameAndType 19 20), (0, u "size"), (0, u "I"), (0, .fieldref 8 22), (0, .nameAndType 23 20), (0, u "tail"), (0, .methodref 8 25), (0, .nameAndType 26 27), (0, u "next"), (0, u "(I)I"), (0, .fieldref 8 29), (0, .nameAndType 30 20), (0, u "head"), (0, u "(I)V"), (2, u "isEmpty"), (0, u "()Z"), (1, u "add"), (0, u "poll"), (0, u "()I")] 2

def k2c0 : Code := { maxStack := 2, maxLocals := 2, code := prog_51_method_1_code, exceptionTable := #[], attributes := #[] }
def k2m0 : Method := { name := "<init>", desc := "(I)V", sig := { parameters := [.int], returnType := none }, accessFlags := 0, code := some k2c0 }
def k2c1 : Code := { maxStack := 1, maxLocals := 1, code := prog_51_method_2_code, exceptionTable := #[], attributes := #[] }
def k2m1 : Method := { name := "isEmpty", desc := "()Z", sig := { parameters := [], returnType := some .boolean }, accessFlags := 0, code := some k2c1 }
def k2c2 : Code := { maxStack := 3, maxLocals := 2, code := prog_51_method_3_code, exceptionTable := #[], attributes := #[] }
def k2m2 : Method := { name := "add", desc := "(I)V", sig := { parameters := [.int], returnType := none }, accessFlags := 0, code := some k2c2 }
def k2c3 : Code := { maxStack := 3, maxLocals := 2, code := prog_51_method_4_code, exceptionTable := #[], attributes := #[] }
def k2m3 : Method := { name := "poll", desc := "()I", sig := { parameters := [], returnType := some .int }, accessFlags := 0, code := some k2c3 }
def k2c4 : Code := { maxStack := 2, maxLocals := 2, code := prog_51_method_5_code, exceptionTable := #[], attributes := #[] }
def k2m4 : Method := { name := "next", desc := "(I)I", sig := { parameters := [.int], returnType := some .int }, accessFlags := 2, code := some k2c4 }
/-- com/example/ravel/ravel/search/NodeQueue -/
def k2 : Class := { plain "com/example/ravel/ravel/search/NodeQueue" (some 0) with
  accessFlags := 48
  interfaces := #[]
  cf := some (fileOf pool2 8 #[] #[{ accessFlags := 0, nameIndex := 5, descriptorIndex := 31, attributes := #[] }, { accessFlags := 0, nameIndex := 34, descriptorIndex := 35, attributes := #[] }, { accessFlags := 0, nameIndex := 37, descriptorIndex := 31, attributes := #[] }, { accessFlags := 0, nameIndex := 38, descriptorIndex := 39, attributes := #[] }, { accessFlags := 2, nameIndex := 26, descriptorIndex := 27, attributes := #[] }] 48 2 #[] #[{ accessFlags := 18, nameIndex := 11, descriptorIndex := 12, attributes := #[] }, { accessFlags := 18, nameIndex := 15, descriptorIndex := 16, attributes := #[] }, { accessFlags := 2, nameIndex := 30, descriptorIndex := 20, attributes := #[] }, { accessFlags := 2, nameIndex := 23, descriptorIndex := 20, attributes := #[] }, { accessFlags := 2, nameIndex := 19, descriptorIndex := 20, attributes := #[] }])
  fields := #[{ name := "ring", type := (.array .int), accessFlags := 18, slot := 0, constantValue := 0 }, { name := "held", type := (.array .boolean), accessFlags := 18, slot := 1, constantValue := 0 }, { name := "head", type := .int, accessFlags := 2, slot := 2, constantValue := 0 }, { name := "tail", type := .int, accessFlags := 2, slot := 3, constantValue := 0 }, { name := "size", type := .int, accessFlags := 2, slot := 4, constantValue := 0 }]
  methods := #[k2m0, k2m1, k2m2, k2m3, k2m4]
  instanceTypes := #[(.array .int), (.array .boolean), .int, .int, .int]
  staticTypes := #[]
  resolved := Array.replicate 42 none
  statics := none }

def pool3 : Array CpInfo := pool [(1, u "java/lang/Cloneable"), (0, .class_ 1), (0, u "java/lang/Object"), (0, .class_ 3)] 3

/-- java/lang/Cloneable -/
def k3 : Class := { plain "java/lang/Cloneable" (some 0) with
  accessFlags := 1537
  interfaces := #[]
  cf := some (fileOf pool3 2 #[] #[] 1537 4 #[] #[])
  fields := #[]
  methods := #[]
  instanceTypes := #[]
  staticTypes := #[]
  resolved := Array.replicate 8 none
  statics := none }

def pool4 : Array CpInfo := pool [(1, u "java/io/Serializable"), (0, .class_ 1), (0, u "java/lang/Object"), (0, .class_ 3)] 3

/-- java/io/Serializable -/
def k4 : Class := { plain "java/io/Serializable" (some 0) with
  accessFlags := 1537
  interfaces := #[]
  cf := some (fileOf pool4 2 #[] #[] 1537 4 #[] #[])
  fields := #[]
  methods := #[]
  instanceTypes := #[]
  staticTypes := #[]
  resolved := Array.replicate 8 none
  statics := none }

/-- the primitive boolean -/
def k5 : Class := { plain "boolean" none with kind := .primitive 'Z', accessFlags := 0x411 }
/-- [Z -/
def k6 : Class := { plain "[Z" (some 0) with kind := .array 5 .boolean, interfaces := #[3, 4], accessFlags := 1041 }

/-- the primitive byte -/
def k7 : Class := { plain "byte" none with kind := .primitive 'B', accessFlags := 0x411 }
/-- [B -/
def k8 : Class := { plain "[B" (some 0) with kind := .array 7 .byte, interfaces := #[3, 4], accessFlags := 1041 }

/-- the primitive int -/
def k9 : Class := { plain "int" none with kind := .primitive 'I', accessFlags := 0x411 }
/-- [I -/
def k10 : Class := { plain "[I" (some 0) with kind := .array 9 .int, interfaces := #[3, 4], accessFlags := 1041 }

def heap : Heap := #[]
def classes : Array Class := #[k0, k1, k2, k3, k4, k5, k6, k7, k8, k9, k10]
def interned : List (Array UInt16 × Addr) := []
def slotsUsed : Nat := 0
def theMethod : MethodId := ⟨1, 1⟩
def args0 : Array Value := #[.int 5, .int 6, .int 7, .int 1, .int 2, .int 3]
def aboutOver (below : List Frame) : State where
  vm := { classes := classes, interned := interned.toArray }
  heap := heap
  slotsUsed := slotsUsed
  threads := #[{ frames := .invoking theMethod args0 :: below }]
def below0 : List Frame := [.native { method := ⟨0, 0⟩, args := #[] }]
def about1 : State := aboutOver below0
def p0 : Program := .bare "" "" ""
def e0 : Env := launch0.env 0 0 0
theorem w_frames : about1.frames = Frame.invoking theMethod args0 :: below0 := rfl
set_option maxRecDepth 65536 in
theorem w_args : argsFit about1.vm theMethod args0 = true := by decide +kernel
set_option maxRecDepth 65536 in
theorem w_heap : heapFits about1 = true := by decide +kernel
set_option maxRecDepth 65536 in
theorem w_runnable : about1.curStatus? = some .runnable := by decide +kernel
set_option maxRecDepth 65536 in
theorem w_alone : about1.alone = true := by decide +kernel
set_option maxRecDepth 65536 in
theorem w_named : about1.methodNamed? x = some theMethod := by decide +kernel
set_option maxRecDepth 65536 in
theorem w_hears : about1.hears theMethod below0 = true := by decide +kernel
set_option maxRecDepth 65536 in
theorem w_ripe : about1.ripe theMethod args0 below0 = true := by decide +kernel
theorem w_running : about1.status = .running := rfl
set_option maxRecDepth 65536 in
theorem w_room : about1.hasRoom e0.platform room_1 = true :=
  launch0.hasRoom_least _ room_1 (by decide +kernel) (by decide +kernel) (by decide +kernel) (by decide +kernel) (by decide +kernel) (by decide +kernel)
theorem allAtoms_all (ts : List Jvm.Cond) (a : Array Jvm.Value) (st : Jvm.State) : (allAtoms ts).before a st = ts.all (fun c => c.before a st) := by
  induction ts with
  | nil => rfl
  | cons c t ih =>
    show (Jvm.Cond.and c (allAtoms t)).before a st = _
    rw [Jvm.Cond.before_and, ih, List.all_cons]
def words1 : List Jvm.Cond := Jvm.Cond.code x code maxLocals ret :: tables_1
/-- a 'code' word, met by the world's own term for the bytes: nothing is compared byte by byte -/
theorem code_word {y : MethodName} {bytes : ByteArray} {mx : Nat} {rt : Option FieldType} {a : Array Value} {s : State} {m : MethodId} {meth : Method} {c : Code} (h1 : s.methodNamed? y = some m) (h2 : s.vm.method? m = some meth) (h3 : meth.code = some c) (h4 : c.code = bytes)
    (h5 : (c.maxLocals == mx && c.exceptionTable.isEmpty && decide (c.maxStack ≤ mostOperands) && decide (meth.sig.returnType = rt) && !meth.locks && decide (parseMethodDescriptor y.desc = some meth.sig)) = true) : (Jvm.Cond.code y bytes mx rt).before a s = true := by
  simp only [Bool.and_eq_true, beq_iff_eq, Bool.not_eq_true', decide_eq_true_eq] at h5
  obtain ⟨⟨⟨⟨⟨g1, g2⟩, g3⟩, g4⟩, g5⟩, g6⟩ := h5
  simp [Cond.before, Cond.holds, Cond.value, h1, h2, h3, h4, g1, g2, g3, g4, g5, g6]
def isCode : Jvm.Cond → Bool
  | .code _ _ _ _ => true
  | _ => false
theorem all_split {L : List Jvm.Cond} {P : Jvm.Cond → Bool} (h1 : L.all (fun c => isCode c || P c) = true) (h2 : ∀ c ∈ L.filter isCode, P c = true) : L.all P = true := by
  refine List.all_eq_true.mpr fun c hc => ?_
  have h := List.all_eq_true.mp h1 c hc
  rcases Bool.eq_false_or_eq_true (isCode c) with hi | hi
  · exact h2 c (List.mem_filter.mpr ⟨hc, hi⟩)
  · simpa [hi] using h
set_option maxRecDepth 65536 in
theorem w_c0 : (Jvm.Cond.code x code maxLocals ret).before args0 about1 = true := code_word (m := ⟨1, 1⟩) (meth := k1m1) (c := k1c1) (by decide +kernel) rfl rfl rfl (by decide +kernel)
set_option maxRecDepth 65536 in
theorem w_c1 : (Jvm.Cond.code ({ cls := "com/example/ravel/ravel/search/NodeQueue", name := "<init>", desc := "(I)V" } : Jvm.MethodName) prog_51_method_1_code (2 : Nat) (Option.none : Option Jvm.ClassFile.FieldType)).before args0 about1 = true := code_word (m := ⟨2, 0⟩) (meth := k2m0) (c := k2c0) (by decide +kernel) rfl rfl rfl (by decide +kernel)
set_option maxRecDepth 65536 in
theorem w_c2 : (Jvm.Cond.code ({ cls := "java/lang/Object", name := "<init>", desc := "()V" } : Jvm.MethodName) object_method_1_code (1 : Nat) (Option.none : Option Jvm.ClassFile.FieldType)).before args0 about1 = true := code_word (m := ⟨0, 0⟩) (meth := k0m0) (c := k0c0) (by decide +kernel) rfl rfl rfl (by decide +kernel)
set_option maxRecDepth 65536 in
theorem w_c3 : (Jvm.Cond.code ({ cls := "com/example/ravel/ravel/search/NodeQueue", name := "add", desc := "(I)V" } : Jvm.MethodName) prog_51_method_3_code (2 : Nat) (Option.none : Option Jvm.ClassFile.FieldType)).before args0 about1 = true := code_word (m := ⟨2, 2⟩) (meth := k2m2) (c := k2c2) (by decide +kernel) rfl rfl rfl (by decide +kernel)
set_option maxRecDepth 65536 in
theorem w_c4 : (Jvm.Cond.code ({ cls := "com/example/ravel/ravel/search/NodeQueue", name := "next", desc := "(I)I" } : Jvm.MethodName) prog_51_method_5_code (2 : Nat) (Option.some Jvm.ClassFile.FieldType.int)).before args0 about1 = true := code_word (m := ⟨2, 4⟩) (meth := k2m4) (c := k2c4) (by decide +kernel) rfl rfl rfl (by decide +kernel)
set_option maxRecDepth 65536 in
theorem w_c5 : (Jvm.Cond.code ({ cls := "com/example/ravel/ravel/search/NodeQueue", name := "poll", desc := "()I" } : Jvm.MethodName) prog_51_method_4_code (2 : Nat) (Option.some Jvm.ClassFile.FieldType.int)).before args0 about1 = true := code_word (m := ⟨2, 3⟩) (meth := k2m3) (c := k2c3) (by decide +kernel) rfl rfl rfl (by decide +kernel)
set_option maxRecDepth 65536 in
theorem w_c6 : (Jvm.Cond.code ({ cls := "com/example/ravel/ravel/search/NodeQueue", name := "isEmpty", desc := "()Z" } : Jvm.MethodName) prog_51_method_2_code (1 : Nat) (Option.some Jvm.ClassFile.FieldType.boolean)).before args0 about1 = true := code_word (m := ⟨2, 1⟩) (meth := k2m1) (c := k2c1) (by decide +kernel) rfl rfl rfl (by decide +kernel)
def codes1 : List Jvm.Cond := [Jvm.Cond.code x code maxLocals ret, Jvm.Cond.code ({ cls := "com/example/ravel/ravel/search/NodeQueue", name := "<init>", desc := "(I)V" } : Jvm.MethodName) prog_51_method_1_code (2 : Nat) (Option.none : Option Jvm.ClassFile.FieldType), Jvm.Cond.code ({ cls := "java/lang/Object", name := "<init>", desc := "()V" } : Jvm.MethodName) object_method_1_code (1 : Nat) (Option.none : Option Jvm.ClassFile.FieldType), Jvm.Cond.code ({ cls := "com/example/ravel/ravel/search/NodeQueue", name := "add", desc := "(I)V" } : Jvm.MethodName) prog_51_method_3_code (2 : Nat) (Option.none : Option Jvm.ClassFile.FieldType), Jvm.Cond.code ({ cls := "com/example/ravel/ravel/search/NodeQueue", name := "next", desc := "(I)I" } : Jvm.MethodName) prog_51_method_5_code (2 : Nat) (Option.some Jvm.ClassFile.FieldType.int), Jvm.Cond.code ({ cls := "com/example/ravel/ravel/search/NodeQueue", name := "poll", desc := "()I" } : Jvm.MethodName) prog_51_method_4_code (2 : Nat) (Option.some Jvm.ClassFile.FieldType.int), Jvm.Cond.code ({ cls := "com/example/ravel/ravel/search/NodeQueue", name := "isEmpty", desc := "()Z" } : Jvm.MethodName) prog_51_method_2_code (1 : Nat) (Option.some Jvm.ClassFile.FieldType.boolean)]
set_option maxRecDepth 65536 in
theorem codes_eq : words1.filter isCode = codes1 := rfl
theorem w_codes : ∀ c ∈ words1.filter isCode, c.before args0 about1 = true := by
  rw [codes_eq]
  intro c hc
  simp only [codes1, List.mem_cons, List.not_mem_nil, or_false] at hc
  rcases hc with rfl | rfl | rfl | rfl | rfl | rfl | rfl
  · exact w_c0
  · exact w_c1
  · exact w_c2
  · exact w_c3
  · exact w_c4
  · exact w_c5
  · exact w_c6
set_option maxRecDepth 65536 in
theorem w_t1 : (words1.take 24).all (fun c => isCode c || c.before args0 about1) = true := by decide +kernel
set_option maxRecDepth 65536 in
theorem w_t2 : (words1.drop 24).all (fun c => isCode c || c.before args0 about1) = true := by decide +kernel
theorem w_tables : (allAtoms (Jvm.Cond.code x code maxLocals ret :: tables_1)).before args0 about1 = true := by
  rw [allAtoms_all]
  show words1.all (fun c => c.before args0 about1) = true
  refine all_split ?_ w_codes
  rw [← List.take_append_drop 24 words1, List.all_append, w_t1, w_t2]
  rfl
set_option maxRecDepth 65536 in
theorem w_case : (Jvm.Cond.and given_1 narrow_1).before args0 about1 = true := by decide +kernel
theorem w_applies : (headSpec (Jvm.Cond.code x code maxLocals ret :: tables_1) room_1).applies x e0.platform about1 = true :=
  (Spec.applies_iff w_frames).mpr ⟨w_running, w_runnable, w_alone, w_named, w_hears, w_ripe, w_room, w_tables⟩
theorem atStart : AtStart classFile x code maxLocals ret World_1 tables_1 room_1 Calls_1 rest_1 Pre_1 launch0 p0 e0 about1 theMethod args0 below0 :=
  ⟨lists_1, trivial, launch0.admits_env _ _ _, launch0.least_env, fairChoices_fair.cas, fairChoices_fair.clock, w_frames, w_args, w_heap, w_applies, trivial, trivial, w_case⟩
end start1
theorem witness_1 : WitnessClaimed_1 := ⟨start1.p0, start1.e0, start1.about1, start1.theMethod, start1.args0, start1.below0, start1.atStart⟩
end Jvm.Pilot.@@N@@
