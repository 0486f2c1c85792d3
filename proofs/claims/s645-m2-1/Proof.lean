import JvmDerived
import JvmDerived.Pilot.@@N@@Statement
import JvmDerived.Pilot.@@N@@Code
set_option linter.unusedVariables false
set_option linter.unusedSimpArgs false

namespace Jvm.Pilot.@@N@@
open Jvm Jvm.ClassFile Sem Op Lib Jvm.Free Jvm.Stand Jvm.LawKit Jvm.RoadKit Bundle Jvm.Pilot.@@N@@.Jvm.D
/-! from S the run comes to an end that A accepts -/
def own_R (tb : Tables) (e : Env) (below : List Frame) (A : State → Outcome → Prop) (S : State) : Prop := ∃ t o, Steps tb e below S t ∧ A t o
theorem own_by {tb : Tables} {e : Env} {below : List Frame} {A : State → Outcome → Prop} {S S' : State} (st : ∀ t, Steps tb e below S' t → Steps tb e below S t) (k : own_R tb e below A S') : own_R tb e below A S := by
  obtain ⟨t, o, k1, k2⟩ := k
  exact ⟨t, o, st t k1, k2⟩
theorem own_join {α : Type} {tb : Tables} {e : Env} {below : List Frame} {A : State → Outcome → Prop} {S : State} (F : α → State) (P : α → Prop) (h1 : (∀ x, P x → own_R tb e below A (F x)) → own_R tb e below A S) (h2 : ∀ x, P x → own_R tb e below A (F x)) : own_R tb e below A S := h1 h2
theorem own_end {tb : Tables} {e : Env} {below : List Frame} {A : State → Outcome → Prop} {S : State} (k : ∃ t o, Steps tb e below S t ∧ A t o) : own_R tb e below A S := k
theorem own_retI {p : Program} {l : Launch} {e : Env} {R : Room} {s : State} {m : MethodId} {args : Array Value} {below : List Frame} {meth : Method} {c : Code} {T : State} {locs : List Loc} {cells slots : Nat} (X : Stand p l e R s m args below meth c T locs cells slots) (hx : p.tables.exec = Jvm.exec) {pc : Nat} {Ls : Array Slot} {z : Int32} {rest : List Value} (hret : meth.sig.returnType = some .int) (hd : decode c.code pc = .ok (.ireturn, 1)) {fs : List Frame}
    (hl : ∀ (f : JFrame) (acts : List Action), f.method = m → f.locked = none → f.entered = [] → (doReturn e (T.setTop f) acts (some (.int z))).1 = T.setFrames fs) : Steps p.tables e below (T.setTop (mkF m pc Ls (.int z :: rest))) (T.setFrames fs) :=
  retOut X hx hret rfl (Or.inl ⟨rfl, Or.inl rfl, z, rfl⟩) hd hl
theorem own_retJ {p : Program} {l : Launch} {e : Env} {R : Room} {s : State} {m : MethodId} {args : Array Value} {below : List Frame} {meth : Method} {c : Code} {T : State} {locs : List Loc} {cells slots : Nat} (X : Stand p l e R s m args below meth c T locs cells slots) (hx : p.tables.exec = Jvm.exec) {pc : Nat} {Ls : Array Slot} {z : Int64} {rest : List Value} (hret : meth.sig.returnType = some .long) (hd : decode c.code pc = .ok (.lreturn, 1)) {fs : List Frame}
    (hl : ∀ (f : JFrame) (acts : List Action), f.method = m → f.locked = none → f.entered = [] → (doReturn e (T.setTop f) acts (some (.long z))).1 = T.setFrames fs) : Steps p.tables e below (T.setTop (mkF m pc Ls (.long z :: rest))) (T.setFrames fs) :=
  retOut X hx hret rfl (Or.inr (Or.inl ⟨rfl, rfl, z, rfl⟩)) hd hl
/-! doubles: single steps -/
section OwnD
variable {tb : Tables} [Ours tb] {e : Env} {below : List Frame} {T target : State} {m : MethodId} {c : Code} {g : JFrame}
theorem own_dloadN (h : At T m c below) (hx : tb.exec = Jvm.exec) (hg : g.method = m) {k : Fin 4} {v : UInt64} (hd : decode c.code g.pc = .ok (.dload_n k, 1)) (hl : g.locals[k.val]? = some (.val (.double v)))
    (hr : Steps tb e below (T.setTop { g with pc := g.pc + 1, stack := .double v :: g.stack }) target) : Steps tb e below (T.setTop g) target := by
  subst hg
  jvm_step h [h.top, hx, hd, hl]
  exact hr
theorem own_dload (h : At T m c below) (hx : tb.exec = Jvm.exec) (hg : g.method = m) {k : Nat} {v : UInt64} (hd : decode c.code g.pc = .ok (.dload k, 2)) (hl : g.locals[k]? = some (.val (.double v)))
    (hr : Steps tb e below (T.setTop { g with pc := g.pc + 2, stack := .double v :: g.stack }) target) : Steps tb e below (T.setTop g) target := by
  subst hg
  jvm_step h [h.top, hx, hd, hl]
  exact hr
theorem own_dstoreN (h : At T m c below) (hx : tb.exec = Jvm.exec) (hg : g.method = m) {k : Fin 4} {x : UInt64} {rest : List Value} {l' : Array Slot} (hd : decode c.code g.pc = .ok (.dstore_n k, 1)) (hs : g.stack = .double x :: rest) (hl : storeLocals g.locals k.val (.double x) = some l')
    (hr : Steps tb e below (T.setTop { g with pc := g.pc + 1, stack := rest, locals := l' }) target) : Steps tb e below (T.setTop g) target := by
  subst hg
  jvm_step h [h.top, hx, hd, hs, hl]
  exact hr
theorem own_dstore (h : At T m c below) (hx : tb.exec = Jvm.exec) (hg : g.method = m) {k : Nat} {x : UInt64} {rest : List Value} {l' : Array Slot} (hd : decode c.code g.pc = .ok (.dstore k, 2)) (hs : g.stack = .double x :: rest) (hl : storeLocals g.locals k (.double x) = some l')
    (hr : Steps tb e below (T.setTop { g with pc := g.pc + 2, stack := rest, locals := l' }) target) : Steps tb e below (T.setTop g) target := by
  subst hg
  jvm_step h [h.top, hx, hd, hs, hl]
  exact hr
theorem own_i2d (h : At T m c below) (hx : tb.exec = Jvm.exec) (hg : g.method = m) {x : Int32} {rest : List Value} (hd : decode c.code g.pc = .ok (.i2d, 1)) (hs : g.stack = .int x :: rest)
    (hr : Steps tb e below (T.setTop { g with pc := g.pc + 1, stack := .double (FP.i2d x) :: rest }) target) : Steps tb e below (T.setTop g) target := by
  subst hg
  jvm_step h [h.top, hx, hd, hs]
  exact hr
theorem own_l2d (h : At T m c below) (hx : tb.exec = Jvm.exec) (hg : g.method = m) {x : Int64} {rest : List Value} (hd : decode c.code g.pc = .ok (.l2d, 1)) (hs : g.stack = .long x :: rest)
    (hr : Steps tb e below (T.setTop { g with pc := g.pc + 1, stack := .double (FP.l2d x) :: rest }) target) : Steps tb e below (T.setTop g) target := by
  subst hg
  jvm_step h [h.top, hx, hd, hs]
  exact hr
theorem own_dcmp (h : At T m c below) (hx : tb.exec = Jvm.exec) (hg : g.method = m) {op : CmpOp} {x y : UInt64} {rest : List Value} (hd : decode c.code g.pc = .ok (.dcmp op, 1)) (hs : g.stack = .double y :: .double x :: rest)
    (hr : Steps tb e below (T.setTop { g with pc := g.pc + 1, stack := .int (cmpValue (FP.dcmp x y) op) :: rest }) target) : Steps tb e below (T.setTop g) target := by
  subst hg
  jvm_step h [h.top, hx, hd, dcmp.wp_sem, hs]
  exact hr
end OwnD
section OwnD2
variable {p : Program} {l : Launch} {e : Env} {R : Room} {s : State} {m : MethodId} {args : Array Value} {below : List Frame} {meth : Method} {c : Code} {T : State} {locs : List Loc} {cells slots : Nat}
theorem own_daload (X : Stand p l e R s m args below meth c T locs cells slots) (hexec : p.tables.exec = Jvm.exec) {a : Addr} {cell : Cell} {j : Int32} {v : Value} (hcell : T.heap[a]? = some cell) (harr : s.isArrayOf cell .double) (hknown : cell.vm ≠ .unknown)
    (hin : ¬ (j < 0 ∨ cell.slots.size ≤ j.toNatClampNeg)) (hv : cell.slots[j.toNatClampNeg]? = some v)
    {g : JFrame} (hg : g.method = m) {rest : List Value} (hstack : g.stack = .int j :: .ref a :: rest) (hdg : decode c.code g.pc = .ok (.daload, 1)) (target : State)
    (hrest : Steps p.tables e below (T.setTop { g with pc := g.pc + 1, stack := v :: rest }) target) : Steps p.tables e below (T.setTop g) target := by
  have hT := State.isArrayOf_alike X.warmed.alike harr
  subst hg
  jvm_step X.here [hexec, hdg, daload.wp_sem, hstack, hcell, hT.isArray, hin, hknown, hv]
  exact ⟨hT, hrest⟩
theorem own_dastore (X : Stand p l e R s m args below meth c T locs cells slots) (hexec : p.tables.exec = Jvm.exec) {a : Addr} {cell : Cell} {j : Int32} {x : UInt64} (hcell : T.heap[a]? = some cell) (harr : s.isArrayOf cell .double) (hknown : cell.vm ≠ .unknown)
    (hin : ¬ (j < 0 ∨ cell.slots.size ≤ j.toNatClampNeg))
    {g : JFrame} (hg : g.method = m) {rest : List Value} (hstack : g.stack = .double x :: .int j :: .ref a :: rest) (hdg : decode c.code g.pc = .ok (.dastore, 1)) :
    Stand p l e R s m args below meth c (T.setCell a (cell.setSlot j.toNatClampNeg (.double x))) (locs ++ [⟨a, j.toNatClampNeg⟩]) cells slots ∧
      ∀ target, Steps p.tables e below ((T.setCell a (cell.setSlot j.toNatClampNeg (.double x))).setTop { g with pc := g.pc + 1, stack := rest }) target → Steps p.tables e below (T.setTop g) target := by
  have hT := State.isArrayOf_alike X.warmed.alike harr
  have hfit : T.fitsSlot cell.cls cell.vm j.toNatClampNeg (.double x) = true := by
    obtain ⟨hobj, k, hk, comp, hkind⟩ := hT
    cases hvm : cell.vm <;> first | exact absurd hvm (hobj _) | simp [State.fitsSlot, State.slotType?, hk, hkind, fits]
  refine ⟨X.stored hcell _ _, fun target hrest => ?_⟩
  subst hg
  jvm_step X.here [hexec, hdg, dastore.wp_sem, hstack, hcell, hT.isArray, hin, hknown, hfit]
  refine ⟨x, j, .ref a, rest, ⟨rfl, rfl, rfl, rfl⟩, cell, hcell, hT.isArray, ?_⟩
  rw [if_neg hin]
  exact ⟨hT, hknown, hfit, hrest⟩
theorem own_stD {Z : State} {h : Heap} (X : Stand p l e R s m args below meth c T locs cells slots) (hx : p.tables.exec = Jvm.exec) (hZ : Z.Warmed39 s.vm) (eT : T.heap = h) {a : Addr} {cl : Cell} (A : Arr Z h a cl .double) {j : Int32} {x : UInt64} (hj : ¬ (j < 0 ∨ cl.slots.size ≤ j.toNatClampNeg)) {g : JFrame} (hg : g.method = m) {rest : List Value} (hs : g.stack = .double x :: .int j :: .ref a :: rest) (hd : decode c.code g.pc = .ok (.dastore, 1)) :
    ∃ T' h', Stand p l e R s m args below meth c T' (locs ++ [⟨a, j.toNatClampNeg⟩]) cells slots ∧ T'.heap = h' ∧ Wr h h' a j.toNatClampNeg (.double x) ∧ ∀ target, Steps p.tables e below (T'.setTop { g with pc := g.pc + 1, stack := rest }) target → Steps p.tables e below (T.setTop g) target := by
  obtain ⟨X', st⟩ := own_dastore X hx (by rw [eT]; exact A.1) (State.isArrayOf_alike hZ.alike A.2.1) A.2.2 hj hg hs hd
  exact ⟨_, _, X', rfl, ⟨cl, A.1, A.plain, Nat.lt_of_not_le fun q => hj (Or.inr q), by rw [← eT]; rfl⟩, st⟩
theorem own_retD (X : Stand p l e R s m args below meth c T locs cells slots) (hx : p.tables.exec = Jvm.exec) {pc : Nat} {Ls : Array Slot} {z : UInt64} {rest : List Value} (hret : meth.sig.returnType = some .double) (hd : decode c.code pc = .ok (.dreturn, 1)) {fs : List Frame}
    (hl : ∀ (f : JFrame) (acts : List Action), f.method = m → f.locked = none → f.entered = [] → (doReturn e (T.setTop f) acts (some (.double z))).1 = T.setFrames fs) : Steps p.tables e below (T.setTop (mkF m pc Ls (.double z :: rest))) (T.setFrames fs) :=
  retOut X hx hret rfl (Or.inr (Or.inr (Or.inl ⟨rfl, rfl, z, rfl⟩))) hd hl
end OwnD2
/-! doubles: arithmetic, where no NaN comes of it -/
section OwnDA
variable {tb : Tables} [Ours tb] {e : Env} {below : List Frame} {T target : State} {m : MethodId} {c : Code} {g : JFrame}
theorem own_dadd (h : At T m c below) (hx : tb.exec = Jvm.exec) (hg : g.method = m) {x y : UInt64} {rest : List Value} (hd : decode c.code g.pc = .ok (.dadd, 1)) (hs : g.stack = .double y :: .double x :: rest) (hn : Jvm.Free.Fl.NoNaN64 (FP.dadd x y))
    (hr : Steps tb e below (T.setTop { g with pc := g.pc + 1, stack := .double (FP.dadd x y) :: rest }) target) : Steps tb e below (T.setTop g) target := by
  subst hg
  obtain ⟨gm, gp, gl, gs, gk, gn, gr⟩ := g
  dsimp only at h hd hs hr ⊢
  subst hs
  jvm_step h [h.top, hx, hd, Op.dadd.at_number h.top hn]
  exact hr
theorem own_dsub (h : At T m c below) (hx : tb.exec = Jvm.exec) (hg : g.method = m) {x y : UInt64} {rest : List Value} (hd : decode c.code g.pc = .ok (.dsub, 1)) (hs : g.stack = .double y :: .double x :: rest) (hn : Jvm.Free.Fl.NoNaN64 (FP.dsub x y))
    (hr : Steps tb e below (T.setTop { g with pc := g.pc + 1, stack := .double (FP.dsub x y) :: rest }) target) : Steps tb e below (T.setTop g) target := by
  subst hg
  obtain ⟨gm, gp, gl, gs, gk, gn, gr⟩ := g
  dsimp only at h hd hs hr ⊢
  subst hs
  jvm_step h [h.top, hx, hd, Op.dsub.at_number h.top hn]
  exact hr
theorem own_dmul (h : At T m c below) (hx : tb.exec = Jvm.exec) (hg : g.method = m) {x y : UInt64} {rest : List Value} (hd : decode c.code g.pc = .ok (.dmul, 1)) (hs : g.stack = .double y :: .double x :: rest) (hn : Jvm.Free.Fl.NoNaN64 (FP.dmul x y))
    (hr : Steps tb e below (T.setTop { g with pc := g.pc + 1, stack := .double (FP.dmul x y) :: rest }) target) : Steps tb e below (T.setTop g) target := by
  subst hg
  obtain ⟨gm, gp, gl, gs, gk, gn, gr⟩ := g
  dsimp only at h hd hs hr ⊢
  subst hs
  jvm_step h [h.top, hx, hd, Op.dmul.at_number h.top hn]
  exact hr
theorem own_ddiv (h : At T m c below) (hx : tb.exec = Jvm.exec) (hg : g.method = m) {x y : UInt64} {rest : List Value} (hd : decode c.code g.pc = .ok (.ddiv, 1)) (hs : g.stack = .double y :: .double x :: rest) (hn : Jvm.Free.Fl.NoNaN64 (FP.ddiv x y))
    (hr : Steps tb e below (T.setTop { g with pc := g.pc + 1, stack := .double (FP.ddiv x y) :: rest }) target) : Steps tb e below (T.setTop g) target := by
  subst hg
  obtain ⟨gm, gp, gl, gs, gk, gn, gr⟩ := g
  dsimp only at h hd hs hr ⊢
  subst hs
  jvm_step h [h.top, hx, hd, Op.ddiv.at_number h.top hn]
  exact hr
theorem own_dconst0 (h : At T m c below) (hx : tb.exec = Jvm.exec) (hg : g.method = m) (hd : decode c.code g.pc = .ok (.dconst 0, 1))
    (hr : Steps tb e below (T.setTop { g with pc := g.pc + 1, stack := .double FP.dconst0 :: g.stack }) target) : Steps tb e below (T.setTop g) target := by
  subst hg
  jvm_step h [h.top, hx, hd]
  exact hr
theorem own_dconst1 (h : At T m c below) (hx : tb.exec = Jvm.exec) (hg : g.method = m) (hd : decode c.code g.pc = .ok (.dconst 1, 1))
    (hr : Steps tb e below (T.setTop { g with pc := g.pc + 1, stack := .double FP.dconst1 :: g.stack }) target) : Steps tb e below (T.setTop g) target := by
  subst hg
  jvm_step h [h.top, hx, hd]
  exact hr
end OwnDA
theorem own_toInt {n : Nat} (h : n < 2 ^ 31) : (Int32.ofNat n).toInt = n := Int32.toInt_ofNat_of_lt h
theorem own_ltI {a b : Nat} (ha : a < 2 ^ 31) (hb : b < 2 ^ 31) : Int32.ofNat a < Int32.ofNat b ↔ a < b := by
  rw [Int32.lt_iff_toInt_lt, own_toInt ha, own_toInt hb]; omega
theorem own_inj {a b : Nat} (ha : a < 2 ^ 31) (hb : b < 2 ^ 31) : Int32.ofNat a = Int32.ofNat b ↔ a = b := by
  rw [← Int32.toInt_inj, own_toInt ha, own_toInt hb]; omega
theorem own_add1 (a : Nat) : Int32.ofNat a + 1 = Int32.ofNat (a + 1) := by
  rw [Int32.ofNat_add]; rfl
theorem own_addI (a b : Nat) : Int32.ofNat a + Int32.ofNat b = Int32.ofNat (a + b) := by
  rw [Int32.ofNat_add]
theorem own_sub1 (a : Nat) : Int32.ofNat (a + 1) - 1 = Int32.ofNat a := by
  rw [← own_add1]; exact Int32.add_sub_cancel _ _
theorem own_clamp {a : Nat} (h : a < 2 ^ 31) : (Int32.ofNat a).toNatClampNeg = a := by
  rw [Int32.toNatClampNeg, own_toInt h]; rfl
theorem own_nn {a : Nat} (h : a < 2 ^ 31) : ¬ Int32.ofNat a < 0 := by
  rw [Int32.lt_iff_toInt_lt, own_toInt h]; show ¬ (a : Int) < 0; omega
theorem own_ofInt (x : Int32) (h : 0 ≤ x.toInt) : ∃ n : Nat, x = Int32.ofNat n ∧ (n : Int) = x.toInt := by
  refine ⟨x.toInt.toNat, ?_, Int.toNat_of_nonneg h⟩
  rw [← Int32.toInt_inj, own_toInt (by have := x.toInt_lt; omega)]
  omega
theorem own_cn (y : Int64) : (y >>> ((18 : Int32) &&& 0x3f).toInt64).toInt = y.toInt / 262144 := by
  rw [← Int64.toInt_toBitVec, Int64.toBitVec_shiftRight]
  rw [show ((((18 : Int32) &&& 0x3f).toInt64).toBitVec.smod 64) = 18#64 from by decide]
  rw [BitVec.sshiftRight_eq', BitVec.toInt_sshiftRight]
  rw [Int.shiftRight_eq_div_pow]
  rfl
theorem own_cb (y : Int64) : (y >>> ((18 : Int32) &&& 0x3f).toInt64).toInt.natAbs ≤ 2 ^ 45 := by
  rw [own_cn]
  have h1 := y.toInt_lt
  have h2 := y.le_toInt
  omega
theorem own_td (P t : Int) : (0 < P - P.tdiv 8 * 8 → (t < P.tdiv 8 + 1 ↔ 8 * t < P)) ∧ (¬ 0 < P - P.tdiv 8 * 8 → (t < P.tdiv 8 ↔ 8 * t < P)) := by
  by_cases h : 0 ≤ P
  · rw [Int.tdiv_eq_ediv_of_nonneg h]; omega
  · have : P.tdiv 8 = -((-P) / 8) := by
      rw [← Int.tdiv_eq_ediv_of_nonneg (by omega), Int.neg_tdiv, Int.neg_neg]
    rw [this]; omega
theorem own_P (b : Int32) (cn : Int64) (hb : 0 ≤ b.toInt ∧ b.toInt ≤ 31) (hc : cn.toInt.natAbs ≤ 2 ^ 45) : (((5 : Int64) * b.toInt64) * cn).toInt = 5 * b.toInt * cn.toInt ∧ (5 * b.toInt * cn.toInt).natAbs < 2 ^ 53 := by
  have h5 : ((5 : Int64) * b.toInt64).toInt = 5 * b.toInt := by
    have e : (5 : Int64).toInt * b.toInt64.toInt = 5 * b.toInt := by rw [Int32.toInt_toInt64]; rfl
    rw [Jvm.FP.Core.int64_mul (by rw [e]; omega) (by rw [e]; omega), e]
  have hP : (5 * b.toInt * cn.toInt).natAbs < 2 ^ 53 := by
    rw [Int.natAbs_mul]
    have h1 : (5 * b.toInt).natAbs ≤ 155 := by omega
    exact Nat.lt_of_le_of_lt (Nat.mul_le_mul h1 hc) (by decide)
  refine ⟨?_, hP⟩
  rw [Jvm.FP.Core.int64_mul (by rw [h5]; omega) (by rw [h5]; omega), h5]
theorem own_ceil (P sv cl : Int64) (hP : P.toInt.natAbs < 2 ^ 53) (hcl : cl = if (0 : Int32) < lcmpW (P - (P / (8 : Int64)) * (8 : Int64)) (0 : Int64) then P / (8 : Int64) + (1 : Int64) else P / (8 : Int64)) : lcmpW sv cl < 0 ↔ 8 * sv.toInt < P.toInt := by
  have hd : (P / (8 : Int64)).toInt = P.toInt.tdiv 8 := by
    rw [Int64.toInt_div_of_ne_left P 8 (fun q => by rw [q] at hP; exact absurd hP (by decide))]
    rfl
  have hq : (P.toInt.tdiv 8).natAbs ≤ 2 ^ 53 := by
    have := Int.natAbs_tdiv_le_natAbs P.toInt 8
    omega
  have h8 : ((P / (8 : Int64)) * (8 : Int64)).toInt = P.toInt.tdiv 8 * 8 := by
    have e : (P / (8 : Int64)).toInt * (8 : Int64).toInt = P.toInt.tdiv 8 * 8 := by rw [hd]; rfl
    rw [Jvm.FP.Core.int64_mul (by rw [e]; omega) (by rw [e]; omega), e]
  have hr : (P - (P / (8 : Int64)) * (8 : Int64)).toInt = P.toInt - P.toInt.tdiv 8 * 8 := by
    rw [Jvm.FP.Core.int64_sub (by rw [h8]; omega) (by rw [h8]; omega), h8]
  have h1 : (P / (8 : Int64) + (1 : Int64)).toInt = P.toInt.tdiv 8 + 1 := by
    have e : (P / (8 : Int64)).toInt + (1 : Int64).toInt = P.toInt.tdiv 8 + 1 := by rw [hd]; rfl
    rw [Jvm.FP.Core.int64_add (by rw [e]; omega) (by rw [e]; omega), e]
  rw [lcW, lc_lt, Int64.lt_iff_toInt_lt, hcl]
  have ht := own_td P.toInt sv.toInt
  have z0 : (0 : Int64).toInt = 0 := rfl
  simp only [lcW, lc_gt, Int64.lt_iff_toInt_lt, hr, z0]
  split
  · rw [h1]; exact ht.1 (by omega)
  · rw [hd]; exact ht.2 (by omega)
section OwnF
open Jvm.FP.Core
theorem own_mulx {x y V : UInt64} (hx : DFin x) (hy : DFin y) (hV : val64 V ≠ .nan) (h : zval b64 (val64 x) * zval b64 (val64 y) = zval b64 (val64 V) * (one64 : Int)) : zval b64 (val64 (Jvm.FP.Core.dmul x y)) = zval b64 (val64 V) := by
  obtain ⟨s, c, q, ex⟩ := hx
  obtain ⟨t, d, r, ey⟩ := hy
  have fx := val64_fits x
  have fy := val64_fits y
  rw [ex] at fx
  rw [ey] at fy
  obtain ⟨h1, h2, h3⟩ := product_units fx fy
  rw [val64_dmul, ex, ey, h1]
  rw [ex, ey] at h
  have hu : signed (s != t) (inUnits (c * d) (q + r) (2 * b64.qmin)) = zval b64 (val64 V) * ((2 ^ (b64.qmin - 2 * b64.qmin).toNat : Nat) : Int) := by
    rw [h3, signed_xor, show (b64.qmin - 2 * b64.qmin).toNat = (-b64.qmin).toNat from by decide, pow_qmin64]
    exact h
  exact Int.le_antisymm (zval_round_le good_b64 (val64_fits V) hV (e0 := 2 * b64.qmin) (by decide) h2 (Int.le_of_eq hu)) (zval_round_ge good_b64 (val64_fits V) hV (e0 := 2 * b64.qmin) (by decide) h2 (Int.le_of_eq hu.symm))
theorem own_eighth (p : Int) (h : p.natAbs < 2 ^ 53) : ∃ V : UInt64, val64 V ≠ .nan ∧ 8 * zval b64 (val64 V) = p * (one64 : Int) := by
  obtain ⟨c', q', h1, h2⟩ := round_exact good_b64 (decide (p < 0)) (c := p.natAbs) (q := -3) h (by decide) (by decide)
  have hf := round_fits good_b64 (.fin (decide (p < 0)) p.natAbs (-3))
  refine ⟨of64 (Jvm.FP.Core.round b64 (.fin (decide (p < 0)) p.natAbs (-3))), ?_, ?_⟩
  · rw [val64_of64 hf, h1]; exact Datum.noConfusion
  · rw [val64_of64 hf, h1]
    have e : zval b64 (.fin (decide (p < 0)) c' q') = signed (decide (p < 0)) (p.natAbs * 2 ^ 1071) := by
      show signed (decide (p < 0)) (inUnits c' q' b64.qmin) = _
      rw [h2]
      rfl
    rw [e, signed_mul]
    have hs : signed (decide (p < 0)) p.natAbs = p := by
      unfold signed
      by_cases h : p < 0 <;> simp [h] <;> omega
    have ho : (one64 : Int) = 8 * ((2 ^ 1071 : Nat) : Int) := by decide +kernel
    rw [hs, ho, ← Int.mul_assoc, ← Int.mul_assoc, Int.mul_comm 8 p]
theorem own_betas : ∀ n : Fin 32, (Jvm.FP.Core.ddiv (Jvm.FP.Core.i2d (Int32.ofNat n.val)) 4616189618054758400).toNat % 2 ^ 63 < 9218868437227405312 ∧ (Jvm.FP.Core.dmul 4612811918334230528 (Jvm.FP.Core.ddiv (Jvm.FP.Core.i2d (Int32.ofNat n.val)) 4616189618054758400)).toNat % 2 ^ 63 < 9218868437227405312 ∧ 8 * zval b64 (val64 (Jvm.FP.Core.dmul 4612811918334230528 (Jvm.FP.Core.ddiv (Jvm.FP.Core.i2d (Int32.ofNat n.val)) 4616189618054758400))) = 5 * (n.val : Int) * (one64 : Int) ∧ 0 ≤ zval b64 (val64 (Jvm.FP.Core.ddiv (Jvm.FP.Core.i2d (Int32.ofNat n.val)) 4616189618054758400)) := by decide +kernel
def own_bt (b : Int32) : UInt64 := Jvm.FP.ddiv (Jvm.FP.i2d b) 4616189618054758400
theorem own_beta (b : Int32) (hb : 0 ≤ b.toInt ∧ b.toInt ≤ 31) : DFin (own_bt b) ∧ DFin (Jvm.FP.dmul 4612811918334230528 (own_bt b)) ∧ 8 * zval b64 (val64 (Jvm.FP.dmul 4612811918334230528 (own_bt b))) = 5 * b.toInt * (one64 : Int) ∧ 0 ≤ zval b64 (val64 (own_bt b)) := by
  obtain ⟨n, rfl, hn⟩ := own_ofInt b hb.1
  have h := own_betas ⟨n, by omega⟩
  rw [← hn]
  exact ⟨(fin_bits _).mpr h.1, (fin_bits _).mpr h.2.1, h.2.2.1, h.2.2.2⟩
theorem own_no {x : UInt64} (h : DFin x) : Jvm.Free.Fl.NoNaN64 x := Jvm.Free.Fl.val64_no.mpr (by obtain ⟨s, c, q, e⟩ := h; rw [e]; exact Datum.noConfusion)
theorem own_cv (x y : UInt64) (hx : val64 x ≠ .nan) (hy : val64 y ≠ .nan) : cmpValue (Jvm.FP.dcmp x y) .l < 0 ↔ zval b64 (val64 x) < zval b64 (val64 y) := by
  rw [show Jvm.FP.dcmp x y = some (compare (zval b64 (val64 x)) (zval b64 (val64 y))) from dcmp_zval hx hy]
  generalize zval b64 (val64 x) = i
  generalize zval b64 (val64 y) = j
  rcases Int.lt_trichotomy i j with h | h | h
  · rw [Int.compare_eq_lt.mpr h]; exact ⟨fun _ => h, fun _ => by decide⟩
  · rw [Int.compare_eq_eq.mpr h]; exact ⟨fun q => absurd q (by decide), fun q => by omega⟩
  · rw [Int.compare_eq_gt.mpr h]; exact ⟨fun q => absurd q (by decide), fun q => by omega⟩
theorem own_cg (x y : UInt64) (hx : val64 x ≠ .nan) (hy : val64 y ≠ .nan) : (0 : Int32) < cmpValue (Jvm.FP.dcmp x y) .l ↔ zval b64 (val64 y) < zval b64 (val64 x) := by
  rw [show Jvm.FP.dcmp x y = some (compare (zval b64 (val64 x)) (zval b64 (val64 y))) from dcmp_zval hx hy]
  generalize zval b64 (val64 x) = i
  generalize zval b64 (val64 y) = j
  rcases Int.lt_trichotomy i j with h | h | h
  · rw [Int.compare_eq_lt.mpr h]; exact ⟨fun q => absurd q (by decide), fun q => by omega⟩
  · rw [Int.compare_eq_eq.mpr h]; exact ⟨fun q => absurd q (by decide), fun q => by omega⟩
  · rw [Int.compare_eq_gt.mpr h]; exact ⟨fun _ => h, fun _ => by decide⟩
theorem own_zc : val64 Jvm.FP.dconst0 ≠ .nan ∧ zval b64 (val64 Jvm.FP.dconst0) = 0 := by decide +kernel
theorem own_inf {x : UInt64} (h : DFin x) : ¬ (0 : Int32) < cmpValue (Jvm.FP.dcmp (x &&& 0x7fffffffffffffff) 9218868437227405311) .l := by
  rcases (le_max ((notNaN_iff x).mpr (Jvm.Free.Fl.val64_no.mp (own_no h)))).mpr h with q | q
  · rw [show Jvm.FP.dcmp (x &&& 0x7fffffffffffffff) 9218868437227405311 = some .lt from q]; decide
  · rw [show Jvm.FP.dcmp (x &&& 0x7fffffffffffffff) 9218868437227405311 = some .eq from q]; decide
theorem own_alpha (a : Int32) (h : 0 < a.toInt) : (0 : Int32) < cmpValue (Jvm.FP.dcmp (Jvm.FP.i2d a) Jvm.FP.dconst0) .l := by
  have hd := i2d_int a
  rw [own_cg _ _ (DInt_ne_nan hd) own_zc.1, own_zc.2, DInt_zval hd]
  exact Int.mul_pos h (by have := one64_pos; omega)
theorem own_bnn (b : Int32) (hb : 0 ≤ b.toInt ∧ b.toInt ≤ 31) : ¬ cmpValue (Jvm.FP.dcmp (own_bt b) Jvm.FP.dconst0) .l < 0 := by
  obtain ⟨f1, -, -, h⟩ := own_beta b hb
  rw [own_cv _ _ (Jvm.Free.Fl.val64_no.mp (own_no f1)) own_zc.1, own_zc.2]
  omega
theorem own_worth (b : Int32) (cn sv : Int64) (hb : 0 ≤ b.toInt ∧ b.toInt ≤ 31) (hc : cn.toInt.natAbs ≤ 2 ^ 45) : Jvm.Free.Fl.NoNaN64 (Jvm.FP.dmul (Jvm.FP.dmul 4612811918334230528 (own_bt b)) (Jvm.FP.l2d cn)) ∧ (cmpValue (Jvm.FP.dcmp (Jvm.FP.l2d sv) (Jvm.FP.dmul (Jvm.FP.dmul 4612811918334230528 (own_bt b)) (Jvm.FP.l2d cn))) .l < 0 ↔ 8 * sv.toInt < 5 * b.toInt * cn.toInt) := by
  obtain ⟨f1, f2, hz, -⟩ := own_beta b hb
  have hP := (own_P b cn hb hc).2
  have fc := l2d_fin cn
  have hN := dmul_out f2 fc
  have hN' := (notNaN_iff _).mp hN
  refine ⟨Jvm.Free.Fl.noNaN64_no.mpr hN, ?_⟩
  have lc : zval b64 (val64 (Jvm.FP.Core.l2d cn)) = cn.toInt * (one64 : Int) := DInt_zval (l2d_int (by omega))
  obtain ⟨V, hV, eV⟩ := own_eighth _ hP
  have hD := own_mulx f2 fc hV (by
    apply Int.eq_of_mul_eq_mul_left (by decide : (8 : Int) ≠ 0)
    rw [← Int.mul_assoc, ← Int.mul_assoc, hz, eV, lc]
    simp only [Int.mul_assoc, Int.mul_comm, Int.mul_left_comm])
  have ho : (0 : Int) < (one64 : Int) := by have := one64_pos; omega
  rw [own_cv _ _ ((notNaN_iff _).mp (l2d_notNaN sv)) hN', hD]
  generalize 5 * b.toInt * cn.toInt = P at *
  constructor
  · intro hlt
    refine Int.not_le.mp fun hle => ?_
    have h1 : P * (one64 : Int) ≤ 8 * sv.toInt * (one64 : Int) := Int.mul_le_mul_of_nonneg_right hle (Int.le_of_lt ho)
    rw [Int.mul_assoc] at h1
    have := l2d_zval_ge (n := sv) hV (by omega)
    omega
  · intro hlt
    by_cases hs : -9007199254740992 ≤ sv.toInt
    · have e : zval b64 (val64 (Jvm.FP.Core.l2d sv)) = sv.toInt * (one64 : Int) := DInt_zval (l2d_int (by omega))
      have h1 : 8 * sv.toInt * (one64 : Int) < P * (one64 : Int) := Int.mul_lt_mul_of_pos_right hlt ho
      rw [Int.mul_assoc] at h1
      show zval b64 (val64 (Jvm.FP.Core.l2d sv)) < _
      rw [e]
      omega
    · have e : zval b64 (val64 (Jvm.FP.Core.l2d (-9007199254740992))) = (-9007199254740992) * (one64 : Int) := by
        have q := DInt_zval (l2d_int (a := (-9007199254740992 : Int64)) (by decide))
        rw [show (-9007199254740992 : Int64).toInt = -9007199254740992 from by decide] at q
        exact q
      have h0 : sv.toInt * (one64 : Int) ≤ (-9007199254740992) * (one64 : Int) := Int.mul_le_mul_of_nonneg_right (by omega) (Int.le_of_lt ho)
      have h2 := l2d_zval_le (n := sv) (V := Jvm.FP.Core.l2d (-9007199254740992)) ((notNaN_iff _).mp (l2d_notNaN _)) (by rw [e]; exact h0)
      rw [e] at h2
      have h3 : (-9007199254740992) * (one64 : Int) < P * (one64 : Int) := Int.mul_lt_mul_of_pos_right (by omega) ho
      show zval b64 (val64 (Jvm.FP.Core.l2d sv)) < _
      omega
end OwnF
theorem d2_0 : decode jdk_30_method_1_code 0 = .ok (.aload_n 0, 1) := by decide +kernel
theorem d2_1 : decode jdk_30_method_1_code 1 = .ok (.invokespecial 1, 3) := by decide +kernel
theorem d2_4 : decode jdk_30_method_1_code 4 = .ok (.return_, 1) := by decide +kernel
theorem d4_0 : decode jdk_117_method_7_code 0 = .ok (.dload_n 0, 1) := by decide +kernel
theorem d4_1 : decode jdk_117_method_7_code 1 = .ok (.invokestatic 38, 3) := by decide +kernel
theorem d4_4 : decode jdk_117_method_7_code 4 = .ok (.ldc2_w 111, 3) := by decide +kernel
theorem d4_7 : decode jdk_117_method_7_code 7 = .ok (.dcmp .l, 1) := by decide +kernel
theorem d4_8 : decode jdk_117_method_7_code 8 = .ok (.ifCond .le 7, 3) := by decide +kernel
theorem d4_11 : decode jdk_117_method_7_code 11 = .ok (.iconst 1, 1) := by decide +kernel
theorem d4_12 : decode jdk_117_method_7_code 12 = .ok (.goto 4, 3) := by decide +kernel
theorem d4_15 : decode jdk_117_method_7_code 15 = .ok (.iconst 0, 1) := by decide +kernel
theorem d4_16 : decode jdk_117_method_7_code 16 = .ok (.ireturn, 1) := by decide +kernel
theorem d1_0 : decode prog_13_method_1_code 0 = .ok (.aload_n 0, 1) := by decide +kernel
theorem d1_1 : decode prog_13_method_1_code 1 = .ok (.invokespecial 1, 3) := by decide +kernel
theorem d1_4 : decode prog_13_method_1_code 4 = .ok (.dload_n 2, 1) := by decide +kernel
theorem d1_5 : decode prog_13_method_1_code 5 = .ok (.dconst 0, 1) := by decide +kernel
theorem d1_6 : decode prog_13_method_1_code 6 = .ok (.dcmp .l, 1) := by decide +kernel
theorem d1_7 : decode prog_13_method_1_code 7 = .ok (.ifCond .le 10, 3) := by decide +kernel
theorem d1_10 : decode prog_13_method_1_code 10 = .ok (.dload_n 2, 1) := by decide +kernel
theorem d1_11 : decode prog_13_method_1_code 11 = .ok (.invokestatic 7, 3) := by decide +kernel
theorem d1_14 : decode prog_13_method_1_code 14 = .ok (.ifCond .eq 17, 3) := by decide +kernel
theorem d1_17 : decode prog_13_method_1_code 17 = .ok (.new 13, 3) := by decide +kernel
theorem d1_20 : decode prog_13_method_1_code 20 = .ok (.dup, 1) := by decide +kernel
theorem d1_21 : decode prog_13_method_1_code 21 = .ok (.dload_n 2, 1) := by decide +kernel
theorem d1_22 : decode prog_13_method_1_code 22 = .ok (.invokedynamic 15, 5) := by decide +kernel
theorem d1_27 : decode prog_13_method_1_code 27 = .ok (.invokespecial 19, 3) := by decide +kernel
theorem d1_30 : decode prog_13_method_1_code 30 = .ok (.athrow, 1) := by decide +kernel
theorem d1_31 : decode prog_13_method_1_code 31 = .ok (.dload 4, 2) := by decide +kernel
theorem d1_33 : decode prog_13_method_1_code 33 = .ok (.dconst 0, 1) := by decide +kernel
theorem d1_34 : decode prog_13_method_1_code 34 = .ok (.dcmp .l, 1) := by decide +kernel
theorem d1_35 : decode prog_13_method_1_code 35 = .ok (.ifCond .lt 11, 3) := by decide +kernel
theorem d1_38 : decode prog_13_method_1_code 38 = .ok (.dload 4, 2) := by decide +kernel
theorem d1_40 : decode prog_13_method_1_code 40 = .ok (.invokestatic 7, 3) := by decide +kernel
theorem d1_43 : decode prog_13_method_1_code 43 = .ok (.ifCond .eq 18, 3) := by decide +kernel
theorem d1_46 : decode prog_13_method_1_code 46 = .ok (.new 13, 3) := by decide +kernel
theorem d1_49 : decode prog_13_method_1_code 49 = .ok (.dup, 1) := by decide +kernel
theorem d1_50 : decode prog_13_method_1_code 50 = .ok (.dload 4, 2) := by decide +kernel
theorem d1_52 : decode prog_13_method_1_code 52 = .ok (.invokedynamic 22, 5) := by decide +kernel
theorem d1_57 : decode prog_13_method_1_code 57 = .ok (.invokespecial 19, 3) := by decide +kernel
theorem d1_60 : decode prog_13_method_1_code 60 = .ok (.athrow, 1) := by decide +kernel
theorem d1_61 : decode prog_13_method_1_code 61 = .ok (.aload_n 0, 1) := by decide +kernel
theorem d1_62 : decode prog_13_method_1_code 62 = .ok (.iload_n 1, 1) := by decide +kernel
theorem d1_63 : decode prog_13_method_1_code 63 = .ok (.putfield 23, 3) := by decide +kernel
theorem d1_66 : decode prog_13_method_1_code 66 = .ok (.aload_n 0, 1) := by decide +kernel
theorem d1_67 : decode prog_13_method_1_code 67 = .ok (.dload_n 2, 1) := by decide +kernel
theorem d1_68 : decode prog_13_method_1_code 68 = .ok (.putfield 29, 3) := by decide +kernel
theorem d1_71 : decode prog_13_method_1_code 71 = .ok (.aload_n 0, 1) := by decide +kernel
theorem d1_72 : decode prog_13_method_1_code 72 = .ok (.dload 4, 2) := by decide +kernel
theorem d1_74 : decode prog_13_method_1_code 74 = .ok (.putfield 33, 3) := by decide +kernel
theorem d1_77 : decode prog_13_method_1_code 77 = .ok (.return_, 1) := by decide +kernel
theorem d6_0 : decode prog_13_method_7_code 0 = .ok (.lload_n 1, 1) := by decide +kernel
theorem d6_1 : decode prog_13_method_7_code 1 = .ok (.l2d, 1) := by decide +kernel
theorem d6_2 : decode prog_13_method_7_code 2 = .ok (.ldc2_w 51, 3) := by decide +kernel
theorem d6_5 : decode prog_13_method_7_code 5 = .ok (.aload_n 0, 1) := by decide +kernel
theorem d6_6 : decode prog_13_method_7_code 6 = .ok (.getfield 33, 3) := by decide +kernel
theorem d6_9 : decode prog_13_method_7_code 9 = .ok (.dmul, 1) := by decide +kernel
theorem d6_10 : decode prog_13_method_7_code 10 = .ok (.lload_n 3, 1) := by decide +kernel
theorem d6_11 : decode prog_13_method_7_code 11 = .ok (.l2d, 1) := by decide +kernel
theorem d6_12 : decode prog_13_method_7_code 12 = .ok (.dmul, 1) := by decide +kernel
theorem d6_13 : decode prog_13_method_7_code 13 = .ok (.dcmp .l, 1) := by decide +kernel
theorem d6_14 : decode prog_13_method_7_code 14 = .ok (.ifCond .lt 7, 3) := by decide +kernel
theorem d6_17 : decode prog_13_method_7_code 17 = .ok (.iconst 1, 1) := by decide +kernel
theorem d6_18 : decode prog_13_method_7_code 18 = .ok (.goto 4, 3) := by decide +kernel
theorem d6_21 : decode prog_13_method_7_code 21 = .ok (.iconst 0, 1) := by decide +kernel
theorem d6_22 : decode prog_13_method_7_code 22 = .ok (.ireturn, 1) := by decide +kernel
theorem own_pd0 : parseMethodDescriptor "(D)D" = some ⟨[.double], some .double⟩ := by decide +kernel
theorem own_pd1 : parseMethodDescriptor "()V" = some ⟨[], none⟩ := by decide +kernel
theorem own_pd2 : parseMethodDescriptor "(D)Z" = some ⟨[.double], some .boolean⟩ := by decide +kernel
theorem own_pd3 : parseMethodDescriptor "(ZDD)V" = some ⟨[.boolean, .double, .double], none⟩ := by decide +kernel
theorem own_pd4 : parseMethodDescriptor "(JJ)Z" = some ⟨[.long, .long], some .boolean⟩ := by decide +kernel
theorem pn_0 : plainName "com/example/ordinal/ordinal/core/AdaptationWorthSwappingPinLaw" = true := by first | (simp [plainName, overriddenIn]; done) | decide +kernel
theorem pn_2 : plainName "java/lang/Record" = true := by first | (simp [plainName, overriddenIn]; done) | decide +kernel
theorem pn_4 : plainName "java/lang/Double" = true := by first | (simp [plainName, overriddenIn]; done) | decide +kernel
theorem pn_1 : plainName "com/example/ordinal/ordinal/core/Adaptation" = true := by first | (simp [plainName, overriddenIn]; done) | decide +kernel
theorem pn_6 : plainName "com/example/ordinal/ordinal/core/Adaptation" = true := by first | (simp [plainName, overriddenIn]; done) | decide +kernel
theorem ef_2 (m : MethodId) (a1 : Addr) : entryFrame m #[(.ref a1)] 1 = mkF m 0 #[.val (.ref a1)] [] := by first | (simp [entryFrame, mkF, argsToLocals, Value.category]; done) | rfl
def Q2 (Z : State) (a1 : Addr)  (h0 : Heap) (n0 : Nat) (v : Option Value) (h : Heap) (L : List Loc) : Prop := v = none ∧ Fr n0 L ∧ h = h0
set_option maxRecDepth 65536 in
set_option maxHeartbeats 40000000 in
theorem rm2 (l : Launch) (Z : State) (a0 : Array Value) (hw : ∀ d ∈ tables_1, d.before a0 Z = true) (ws : List Jvm.Cond) (a1 : Addr)  (h0 : Heap) (n0 : Nat) (Z0 : n0 ≤ h0.size)  :
    MetFree l (⟨"java/lang/Record", "<init>", "()V"⟩ : MethodName) (head1 (Jvm.Cond.code (⟨"java/lang/Record", "<init>", "()V"⟩ : MethodName) jdk_30_method_1_code 1 none :: ws) ({ frames := 1, cells := 0, slots := 0, locals := 12 } : Room)) (fun a U => a = #[(.ref a1)] ∧ Z.Warmed39 U.vm ∧ U.heap = h0) (fun _ _ _ _ _ => True) (fun _ U o U' => ∃ v L, o = .returned v ∧ Q2 Z a1 h0 n0 v U'.heap L ∧ FrameEnd U o U' L ({ frames := 1, cells := 0, slots := 0, locals := 12 } : Room).cells ({ frames := 1, cells := 0, slots := 0, locals := 12 } : Room).slots) := by
  refine MetFree.of_bodySF (plainFor_of_name pn_2) hisR ?_
  intro p e s m args below meth cd s₁ Bd hml0 hP hK
  obtain ⟨rfl, hZ, hh⟩ := hP
  have hx := Bd.exec
  have hby := Bd.bytes
  have hml : cd.maxLocals = 1 := hml0
  have hown : s.vm.findClass "java/lang/Record" = some m.cls := findClass_of_methodNamed Bd.named
  have hnm := (name_of_methodNamed Bd.named Bd.method).1
  have X0 : Stand p l e ({ frames := 1, cells := 0, slots := 0, locals := 12 } : Room) s m #[(.ref a1)] below meth cd s₁ [] 0 0 := Stand.of_body Bd
  have e0 : s₁.heap = h0 := by rw [← hh, Bd.state]; rfl
  have N0 := Fr.nil n0
  show own_R p.tables e below _ (s₁.setTop (entryFrame m #[(.ref a1)] 1))
  refine own_by (fun t kZ => castTop (ef_2 m a1) kZ) ?_
  show own_R p.tables e below _ (s₁.setTop (mkF m 0 #[.val (.ref a1)] []))
  refine own_by (fun _ kZ => XS.aloadN X0.here hx rfl (hb hby d2_0) rfl rfl kZ) ?_
  show own_R p.tables e below _ (s₁.setTop (mkF m 1 #[.val (.ref a1)] [(.ref a1)]))
  obtain ⟨T1, X1, e1, st1⟩ := initO X0 hx hZ hown (hw _ (List.mem_of_getElem? (i := 14) rfl)) (hw _ (List.mem_of_getElem? (i := 15) rfl)) (hw _ (List.mem_of_getElem? (i := 16) rfl)) e0 (g := (mkF m 1 #[.val (.ref a1)] [(.ref a1)])) rfl (by rw [hml]; rfl) rfl (hb hby d2_1) (by decide) (W := 0) (by show 2 * 0 + _ ≤ _; exact Nat.le_of_eq rfl) (by decide)
  refine own_by st1 ?_
  show own_R p.tables e below _ (T1.setTop (mkF m 4 #[.val (.ref a1)] []))
  obtain ⟨fs, hr, hrun, hended, hW, hsame⟩ := X1.leave (v := none) (fun _ => rfl)
  refine own_end ⟨_, _, ?_, hrun, hended, _, _, rfl, ?_, ⟨_, rfl⟩, hW, hsame.mono (by decide) (by decide)⟩
  · exact X1.returnOut hx Bd.returns (hb hby d2_4) hr
  · show Q2 Z a1 h0 n0 _ T1.heap _
    rw [e1]
    exact ⟨rfl, N0, rfl⟩
theorem ef_4 (m : MethodId) (x1 : UInt64) : entryFrame m #[(.double x1)] 2 = mkF m 0 #[.val (.double x1), .second] [] := by first | (simp [entryFrame, mkF, argsToLocals, Value.category]; done) | rfl
def Q4 (Z : State) (x1 : UInt64)  (h0 : Heap) (n0 : Nat) (v : Option Value) (h : Heap) (L : List Loc) : Prop := v = some (.int (0 : Int32)) ∧ Fr n0 L ∧ h = h0
set_option maxRecDepth 65536 in
set_option maxHeartbeats 40000000 in
theorem rm4 (l : Launch) (Z : State) (a0 : Array Value) (hw : ∀ d ∈ tables_1, d.before a0 Z = true) (ws : List Jvm.Cond) (x1 : UInt64)  (h0 : Heap) (n0 : Nat) (Z0 : n0 ≤ h0.size) (hf : FP.Core.DFin x1) :
    MetFree l (⟨"java/lang/Double", "isInfinite", "(D)Z"⟩ : MethodName) (head1 (Jvm.Cond.code (⟨"java/lang/Double", "isInfinite", "(D)Z"⟩ : MethodName) jdk_117_method_7_code 2 (some .boolean) :: ws) ({ frames := 1, cells := 0, slots := 0, locals := 13 } : Room)) (fun a U => a = #[(.double x1)] ∧ Z.Warmed39 U.vm ∧ U.heap = h0) (fun _ _ _ _ _ => True) (fun _ U o U' => ∃ v L, o = .returned v ∧ Q4 Z x1 h0 n0 v U'.heap L ∧ FrameEnd U o U' L ({ frames := 1, cells := 0, slots := 0, locals := 13 } : Room).cells ({ frames := 1, cells := 0, slots := 0, locals := 13 } : Room).slots) := by
  refine MetFree.of_bodySF (plainFor_of_name pn_4) hisR ?_
  intro p e s m args below meth cd s₁ Bd hml0 hP hK
  obtain ⟨rfl, hZ, hh⟩ := hP
  have hx := Bd.exec
  have hby := Bd.bytes
  have hml : cd.maxLocals = 2 := hml0
  have hown : s.vm.findClass "java/lang/Double" = some m.cls := findClass_of_methodNamed Bd.named
  have hnm := (name_of_methodNamed Bd.named Bd.method).1
  have X0 : Stand p l e ({ frames := 1, cells := 0, slots := 0, locals := 13 } : Room) s m #[(.double x1)] below meth cd s₁ [] 0 0 := Stand.of_body Bd
  have e0 : s₁.heap = h0 := by rw [← hh, Bd.state]; rfl
  have N0 := Fr.nil n0
  show own_R p.tables e below _ (s₁.setTop (entryFrame m #[(.double x1)] 2))
  refine own_by (fun t kZ => castTop (ef_4 m x1) kZ) ?_
  show own_R p.tables e below _ (s₁.setTop (mkF m 0 #[.val (.double x1), .second] []))
  refine own_by (fun _ kZ => own_dloadN X0.here hx rfl (hb hby d4_0) rfl kZ) ?_
  show own_R p.tables e below _ (s₁.setTop (mkF m 1 #[.val (.double x1), .second] [(.double x1)]))
  obtain ⟨_, vm2, ⟨T2, L2, k2, n2⟩, -, X2, ⟨rfl, hB2⟩, st2⟩ := Jvm.LawKit.callS X0 hx (y := (⟨"java/lang/Math", "abs", "(D)D"⟩ : MethodName)) hown (mvT hZ (hw _ (List.mem_of_getElem? (i := 21) rfl))) (mvT hZ (hw _ (List.mem_of_getElem? (i := 22) rfl))) (mvT hZ (hw _ (List.mem_of_getElem? (i := 23) rfl))) (mvT hZ (hw _ (List.mem_of_getElem? (i := 24) rfl))) (by decide) (Jvm.Free.Fl.Abs.absD_pays (W := 0) x1 (mvT hZ (hw _ (List.mem_of_getElem? (i := 24) rfl))) (by decide) (by decide)) (g := (mkF m 1 #[.val (.double x1), .second] [(.double x1)])) rfl (by rw [hml]; rfl) (argsL := [(.double x1)]) (rest := []) (lenOf own_pd0 rfl) rfl (by show 2 * 0 + _ ≤ _; exact Nat.le_of_eq rfl) (hb hby d4_1) (fun _ _ => ⟨Nat.zero_le _, Nat.zero_le _, rfl, own_no hf⟩)
  cases hB2
  dsimp only [Pt.U, Pt.locs, Pt.cells, Pt.slots] at X2 st2
  have e2 : (s₁.setVm vm2).heap = h0 := e0
  refine own_by st2 ?_
  show own_R p.tables e below _ ((s₁.setVm vm2).setTop (mkF m 4 #[.val (.double x1), .second] [(.double (x1 &&& 0x7fffffffffffffff))]))
  refine own_by (fun _ kZ => X2.ldc2DoubleC hx hown (mvT hZ (hw _ (List.mem_of_getElem? (i := 25) rfl))) (g := (mkF m 4 #[.val (.double x1), .second] [(.double (x1 &&& 0x7fffffffffffffff))])) rfl (hb hby d4_4) _ kZ) ?_
  show own_R p.tables e below _ ((s₁.setVm vm2).setTop (mkF m 7 #[.val (.double x1), .second] [(.double (9218868437227405311 : UInt64)), (.double (x1 &&& 0x7fffffffffffffff))]))
  refine own_by (fun _ kZ => own_dcmp X2.here hx rfl (hb hby d4_7) rfl kZ) ?_
  show own_R p.tables e below _ ((s₁.setVm vm2).setTop (mkF m 8 #[.val (.double x1), .second] [(.int (cmpValue (FP.dcmp (x1 &&& 0x7fffffffffffffff) (9218868437227405311 : UInt64)) .l))]))
  refine own_by (fun _ kZ => XS.ifYes X2.here hx rfl (pc0 := 8) (pc' := 15) rfl (hb hby d4_8) rfl ((if0 _ _).trans (flt (own_inf hf)).2.2.2) (by decide) (by decide) kZ) ?_
  show own_R p.tables e below _ ((s₁.setVm vm2).setTop (mkF m 15 #[.val (.double x1), .second] []))
  refine own_by (fun _ kZ => XS.iconst X2.here hx rfl (hb hby d4_15) kZ) ?_
  show own_R p.tables e below _ ((s₁.setVm vm2).setTop (mkF m 16 #[.val (.double x1), .second] [(.int (0 : Int32))]))
  obtain ⟨fs, hr, hrun, hended, hW, hsame⟩ := X2.leave (v := some (.int (0 : Int32))) (fun h => by rw [Bd.returns] at h; cases h)
  refine own_end ⟨_, _, ?_, hrun, hended, _, _, rfl, ?_, ⟨_, rfl⟩, hW, hsame.mono (by decide) (by decide)⟩
  · exact retN X2 hx (t := .boolean) Bd.returns (by simp) (hb hby d4_16) hr
  · show Q4 Z x1 h0 n0 _ (s₁.setVm vm2).heap _
    rw [e2]
    exact ⟨rfl, N0, rfl⟩
theorem ef_1 (m : MethodId) (a1 : Addr) (p2 : Int32) (x3 : UInt64) (x4 : UInt64) : entryFrame m #[(.ref a1), (.int p2), (.double x3), (.double x4)] 6 = mkF m 0 #[.val (.ref a1), .val (.int p2), .val (.double x3), .second, .val (.double x4), .second] [] := by first | (simp [entryFrame, mkF, argsToLocals, Value.category]; done) | rfl
def Q1 (Z : State) (a1 : Addr) (p2 : Int32) (x3 : UInt64) (x4 : UInt64)  (h0 : Heap) (n0 : Nat) (v : Option Value) (h : Heap) (L : List Loc) : Prop := v = none ∧ Fr n0 L ∧ Keep h0 h [a1] ∧ Fld Z h a1 "com/example/ordinal/ordinal/core/Adaptation" "beta" "D" (.double x4)
set_option maxRecDepth 65536 in
set_option maxHeartbeats 40000000 in
theorem rm1 (l : Launch) (Z : State) (a0 : Array Value) (hw : ∀ d ∈ tables_1, d.before a0 Z = true) (ws : List Jvm.Cond) (a1 : Addr) (p2 : Int32) (x3 : UInt64) (x4 : UInt64)  (h0 : Heap) (n0 : Nat) (Z0 : n0 ≤ h0.size) (ge1 : n0 ≤ a1) (f3 : FP.Core.DFin x3) (f4 : FP.Core.DFin x4) (hp : (0 : Int32) < cmpValue (FP.dcmp x3 FP.dconst0) .l) (hq : ¬ cmpValue (FP.dcmp x4 FP.dconst0) .l < (0 : Int32)) (Ex : Exa Z h0 a1 "com/example/ordinal/ordinal/core/Adaptation") (F_enabled : Fld Z h0 a1 "com/example/ordinal/ordinal/core/Adaptation" "enabled" "Z" (.int (0 : Int32))) (F_alpha : Fld Z h0 a1 "com/example/ordinal/ordinal/core/Adaptation" "alpha" "D" (.double (0 : UInt64))) (F_beta : Fld Z h0 a1 "com/example/ordinal/ordinal/core/Adaptation" "beta" "D" (.double (0 : UInt64))) :
    MetFree l (⟨"com/example/ordinal/ordinal/core/Adaptation", "<init>", "(ZDD)V"⟩ : MethodName) (head1 (Jvm.Cond.code (⟨"com/example/ordinal/ordinal/core/Adaptation", "<init>", "(ZDD)V"⟩ : MethodName) prog_13_method_1_code 6 none :: ws) ({ frames := 2, cells := 0, slots := 0, locals := 40 } : Room)) (fun a U => a = #[(.ref a1), (.int p2), (.double x3), (.double x4)] ∧ Z.Warmed39 U.vm ∧ U.heap = h0) (fun _ _ _ _ _ => True) (fun _ U o U' => ∃ v L, o = .returned v ∧ Q1 Z a1 p2 x3 x4 h0 n0 v U'.heap L ∧ FrameEnd U o U' L ({ frames := 2, cells := 0, slots := 0, locals := 40 } : Room).cells ({ frames := 2, cells := 0, slots := 0, locals := 40 } : Room).slots) := by
  refine MetFree.of_bodySF (plainFor_of_name pn_1) hisR ?_
  intro p e s m args below meth cd s₁ Bd hml0 hP hK
  obtain ⟨rfl, hZ, hh⟩ := hP
  have hx := Bd.exec
  have hby := Bd.bytes
  have hml : cd.maxLocals = 6 := hml0
  have hown : s.vm.findClass "com/example/ordinal/ordinal/core/Adaptation" = some m.cls := findClass_of_methodNamed Bd.named
  have hnm := (name_of_methodNamed Bd.named Bd.method).1
  have X0 : Stand p l e ({ frames := 2, cells := 0, slots := 0, locals := 40 } : Room) s m #[(.ref a1), (.int p2), (.double x3), (.double x4)] below meth cd s₁ [] 0 0 := Stand.of_body Bd
  have e0 : s₁.heap = h0 := by rw [← hh, Bd.state]; rfl
  have N0 := Fr.nil n0
  show own_R p.tables e below _ (s₁.setTop (entryFrame m #[(.ref a1), (.int p2), (.double x3), (.double x4)] 6))
  refine own_by (fun t kZ => castTop (ef_1 m a1 p2 x3 x4) kZ) ?_
  show own_R p.tables e below _ (s₁.setTop (mkF m 0 #[.val (.ref a1), .val (.int p2), .val (.double x3), .second, .val (.double x4), .second] []))
  refine own_by (fun _ kZ => XS.aloadN X0.here hx rfl (hb hby d1_0) rfl rfl kZ) ?_
  show own_R p.tables e below _ (s₁.setTop (mkF m 1 #[.val (.ref a1), .val (.int p2), .val (.double x3), .second, .val (.double x4), .second] [(.ref a1)]))
  obtain ⟨_, _, ⟨T3, L3, k3, n3⟩, -, X3, ⟨Lc3, hQ3, l3, y3, z3⟩, st3⟩ := X0.specialBack hx (y := (⟨"java/lang/Record", "<init>", "()V"⟩ : MethodName)) rfl hown (mvT hZ (hw _ (List.mem_of_getElem? (i := 9) rfl))) (mvT hZ (hw _ (List.mem_of_getElem? (i := 10) rfl))) (mvT hZ (hw _ (List.mem_of_getElem? (i := 13) rfl))) (by decide) (backOf (W := 0) (rm2 l Z a0 hw [] a1 h0 n0 Z0) hZ (hw _ (List.mem_of_getElem? (i := 13) rfl)) (hw _ (List.mem_of_getElem? (i := 12) rfl)) (by decide) (by decide)) (g := (mkF m 1 #[.val (.ref a1), .val (.int p2), .val (.double x3), .second, .val (.double x4), .second] [(.ref a1)])) rfl (by rw [hml]; rfl) (Steps.refl _) (a := a1) (argsL := []) (rest := []) (lenOf own_pd1 rfl) rfl (by show 2 * 0 + _ ≤ _; exact Nat.le_of_eq rfl) (hb hby d1_1) (fun _ _ => ⟨rfl, e0, (by decide : 0 + 0 ≤ _), (by decide : 0 + 0 ≤ _)⟩)
  dsimp only [Pt.U, Pt.locs, Pt.cells, Pt.slots] at X3 l3 y3 z3 st3 hQ3
  subst l3 y3 z3
  obtain ⟨rfl, Nq3, e3⟩ := hQ3
  have N3 := Fr.app N0 Nq3
  refine own_by (fun _ kZ => st3.trans kZ) ?_
  show own_R p.tables e below _ (T3.setTop (mkF m 4 #[.val (.ref a1), .val (.int p2), .val (.double x3), .second, .val (.double x4), .second] []))
  refine own_by (fun _ kZ => own_dloadN X3.here hx rfl (hb hby d1_4) rfl kZ) ?_
  show own_R p.tables e below _ (T3.setTop (mkF m 5 #[.val (.ref a1), .val (.int p2), .val (.double x3), .second, .val (.double x4), .second] [(.double x3)]))
  refine own_by (fun _ kZ => own_dconst0 X3.here hx rfl (hb hby d1_5) kZ) ?_
  show own_R p.tables e below _ (T3.setTop (mkF m 6 #[.val (.ref a1), .val (.int p2), .val (.double x3), .second, .val (.double x4), .second] [(.double FP.dconst0), (.double x3)]))
  refine own_by (fun _ kZ => own_dcmp X3.here hx rfl (hb hby d1_6) rfl kZ) ?_
  show own_R p.tables e below _ (T3.setTop (mkF m 7 #[.val (.ref a1), .val (.int p2), .val (.double x3), .second, .val (.double x4), .second] [(.int (cmpValue (FP.dcmp x3 FP.dconst0) .l))]))
  refine own_by (fun _ kZ => XS.ifNo X3.here hx rfl (hb hby d1_7) rfl ((if0 _ _).trans (tlt hp).2.2.2) kZ) ?_
  show own_R p.tables e below _ (T3.setTop (mkF m 10 #[.val (.ref a1), .val (.int p2), .val (.double x3), .second, .val (.double x4), .second] []))
  refine own_by (fun _ kZ => own_dloadN X3.here hx rfl (hb hby d1_10) rfl kZ) ?_
  show own_R p.tables e below _ (T3.setTop (mkF m 11 #[.val (.ref a1), .val (.int p2), .val (.double x3), .second, .val (.double x4), .second] [(.double x3)]))
  obtain ⟨_, _, ⟨T4, L4, k4, n4⟩, -, X4, ⟨Lc4, hQ4, l4, y4, z4⟩, st4⟩ := Jvm.LawKit.callS X3 hx (y := (⟨"java/lang/Double", "isInfinite", "(D)Z"⟩ : MethodName)) hown (mvT hZ (hw _ (List.mem_of_getElem? (i := 17) rfl))) (mvT hZ (hw _ (List.mem_of_getElem? (i := 18) rfl))) (mvT hZ (hw _ (List.mem_of_getElem? (i := 19) rfl))) (mvT hZ (hw _ (List.mem_of_getElem? (i := 20) rfl))) (by decide) (backOf (W := 0) (rm4 l Z a0 hw [] x3 h0 n0 Z0 f3) hZ (hw _ (List.mem_of_getElem? (i := 20) rfl)) (hw _ (List.mem_of_getElem? (i := 19) rfl)) (by decide) (by decide)) (g := (mkF m 11 #[.val (.ref a1), .val (.int p2), .val (.double x3), .second, .val (.double x4), .second] [(.double x3)])) rfl (by rw [hml]; rfl) (argsL := [(.double x3)]) (rest := []) (lenOf own_pd2 rfl) rfl (by show 2 * 0 + _ ≤ _; exact Nat.le_of_eq rfl) (hb hby d1_11) (fun _ _ => ⟨rfl, e3, (by decide : 0 + 0 ≤ _), (by decide : 0 + 0 ≤ _)⟩)
  dsimp only [Pt.U, Pt.locs, Pt.cells, Pt.slots] at X4 l4 y4 z4 st4 hQ4
  subst l4 y4 z4
  obtain ⟨rfl, Nq4, e4⟩ := hQ4
  have N4 := Fr.app N3 Nq4
  refine own_by st4 ?_
  show own_R p.tables e below _ (T4.setTop (mkF m 14 #[.val (.ref a1), .val (.int p2), .val (.double x3), .second, .val (.double x4), .second] [(.int (0 : Int32))]))
  refine own_by (fun _ kZ => XS.ifYes X4.here hx rfl (pc0 := 14) (pc' := 31) rfl (hb hby d1_14) rfl ((if0 _ _).trans (teq (rfl : (0 : Int32) = 0)).1) (by decide) (by decide) kZ) ?_
  show own_R p.tables e below _ (T4.setTop (mkF m 31 #[.val (.ref a1), .val (.int p2), .val (.double x3), .second, .val (.double x4), .second] []))
  refine own_by (fun _ kZ => own_dload X4.here hx rfl (hb hby d1_31) rfl kZ) ?_
  show own_R p.tables e below _ (T4.setTop (mkF m 33 #[.val (.ref a1), .val (.int p2), .val (.double x3), .second, .val (.double x4), .second] [(.double x4)]))
  refine own_by (fun _ kZ => own_dconst0 X4.here hx rfl (hb hby d1_33) kZ) ?_
  show own_R p.tables e below _ (T4.setTop (mkF m 34 #[.val (.ref a1), .val (.int p2), .val (.double x3), .second, .val (.double x4), .second] [(.double FP.dconst0), (.double x4)]))
  refine own_by (fun _ kZ => own_dcmp X4.here hx rfl (hb hby d1_34) rfl kZ) ?_
  show own_R p.tables e below _ (T4.setTop (mkF m 35 #[.val (.ref a1), .val (.int p2), .val (.double x3), .second, .val (.double x4), .second] [(.int (cmpValue (FP.dcmp x4 FP.dconst0) .l))]))
  refine own_by (fun _ kZ => XS.ifNo X4.here hx rfl (hb hby d1_35) rfl ((if0 _ _).trans (flt hq).1) kZ) ?_
  show own_R p.tables e below _ (T4.setTop (mkF m 38 #[.val (.ref a1), .val (.int p2), .val (.double x3), .second, .val (.double x4), .second] []))
  refine own_by (fun _ kZ => own_dload X4.here hx rfl (hb hby d1_38) rfl kZ) ?_
  show own_R p.tables e below _ (T4.setTop (mkF m 40 #[.val (.ref a1), .val (.int p2), .val (.double x3), .second, .val (.double x4), .second] [(.double x4)]))
  obtain ⟨_, _, ⟨T5, L5, k5, n5⟩, -, X5, ⟨Lc5, hQ5, l5, y5, z5⟩, st5⟩ := Jvm.LawKit.callS X4 hx (y := (⟨"java/lang/Double", "isInfinite", "(D)Z"⟩ : MethodName)) hown (mvT hZ (hw _ (List.mem_of_getElem? (i := 17) rfl))) (mvT hZ (hw _ (List.mem_of_getElem? (i := 18) rfl))) (mvT hZ (hw _ (List.mem_of_getElem? (i := 19) rfl))) (mvT hZ (hw _ (List.mem_of_getElem? (i := 20) rfl))) (by decide) (backOf (W := 0) (rm4 l Z a0 hw [] x4 h0 n0 Z0 f4) hZ (hw _ (List.mem_of_getElem? (i := 20) rfl)) (hw _ (List.mem_of_getElem? (i := 19) rfl)) (by decide) (by decide)) (g := (mkF m 40 #[.val (.ref a1), .val (.int p2), .val (.double x3), .second, .val (.double x4), .second] [(.double x4)])) rfl (by rw [hml]; rfl) (argsL := [(.double x4)]) (rest := []) (lenOf own_pd2 rfl) rfl (by show 2 * 0 + _ ≤ _; exact Nat.le_of_eq rfl) (hb hby d1_40) (fun _ _ => ⟨rfl, e4, (by decide : 0 + 0 ≤ _), (by decide : 0 + 0 ≤ _)⟩)
  dsimp only [Pt.U, Pt.locs, Pt.cells, Pt.slots] at X5 l5 y5 z5 st5 hQ5
  subst l5 y5 z5
  obtain ⟨rfl, Nq5, e5⟩ := hQ5
  have N5 := Fr.app N4 Nq5
  refine own_by st5 ?_
  show own_R p.tables e below _ (T5.setTop (mkF m 43 #[.val (.ref a1), .val (.int p2), .val (.double x3), .second, .val (.double x4), .second] [(.int (0 : Int32))]))
  refine own_by (fun _ kZ => XS.ifYes X5.here hx rfl (pc0 := 43) (pc' := 61) rfl (hb hby d1_43) rfl ((if0 _ _).trans (teq (rfl : (0 : Int32) = 0)).1) (by decide) (by decide) kZ) ?_
  show own_R p.tables e below _ (T5.setTop (mkF m 61 #[.val (.ref a1), .val (.int p2), .val (.double x3), .second, .val (.double x4), .second] []))
  refine own_by (fun _ kZ => XS.aloadN X5.here hx rfl (hb hby d1_61) rfl rfl kZ) ?_
  show own_R p.tables e below _ (T5.setTop (mkF m 62 #[.val (.ref a1), .val (.int p2), .val (.double x3), .second, .val (.double x4), .second] [(.ref a1)]))
  refine own_by (fun _ kZ => XS.iloadN X5.here hx rfl (hb hby d1_62) rfl kZ) ?_
  show own_R p.tables e below _ (T5.setTop (mkF m 63 #[.val (.ref a1), .val (.int p2), .val (.double x3), .second, .val (.double x4), .second] [(.int p2), (.ref a1)]))
  obtain ⟨T6, h6, X6, e6, W6, st6⟩ := putFN X5 hx hZ hown (hw _ (List.mem_of_getElem? (i := 26) rfl)) Via.refl e5 F_enabled Ex (Or.inr ⟨(hw _ (List.mem_of_getElem? (i := 27) rfl)), rfl, hnm⟩) (hw _ (List.mem_of_getElem? (i := 3) rfl)) (ty := .boolean) (v' := (.int (nar .boolean p2))) (by decide) rfl (fits_nar_bool _) (g := (mkF m 63 #[.val (.ref a1), .val (.int p2), .val (.double x3), .second, .val (.double x4), .second] [(.int p2), (.ref a1)])) rfl rfl (hb hby d1_63)
  have f7_a1 : Exa Z h6 a1 "com/example/ordinal/ordinal/core/Adaptation" := Ex.wr W6
  have f8_a1 : Fld Z h6 a1 "com/example/ordinal/ordinal/core/Adaptation" "enabled" "Z" (.int (nar .boolean p2)) := F_enabled.same W6
  have f9_a1 : Fld Z h6 a1 "com/example/ordinal/ordinal/core/Adaptation" "alpha" "D" (.double (0 : UInt64)) := F_alpha.other W6 (Or.inr (slot_ne (Or.inr (hw _ (List.mem_of_getElem? (i := 29) rfl))) (Or.inr (hw _ (List.mem_of_getElem? (i := 27) rfl))) (by decide) (t := .double) (t' := .boolean) (by decide) (by decide)))
  have f10_a1 : Fld Z h6 a1 "com/example/ordinal/ordinal/core/Adaptation" "beta" "D" (.double (0 : UInt64)) := F_beta.other W6 (Or.inr (slot_ne (Or.inr (hw _ (List.mem_of_getElem? (i := 31) rfl))) (Or.inr (hw _ (List.mem_of_getElem? (i := 27) rfl))) (by decide) (t := .double) (t' := .boolean) (by decide) (by decide)))
  have Z11 : n0 ≤ h6.size := Nat.le_trans Z0 (Keep.of_wr W6).1
  have K11 : Keep h0 h6 [a1] := (Keep.refl h0 [a1]).wr W6 (Or.inl (List.mem_of_getElem? (i := 0) rfl))
  have N11 := Fr.snoc X6 N5 ge1
  refine own_by st6 ?_
  show own_R p.tables e below _ (T6.setTop (mkF m 66 #[.val (.ref a1), .val (.int p2), .val (.double x3), .second, .val (.double x4), .second] []))
  refine own_by (fun _ kZ => XS.aloadN X6.here hx rfl (hb hby d1_66) rfl rfl kZ) ?_
  show own_R p.tables e below _ (T6.setTop (mkF m 67 #[.val (.ref a1), .val (.int p2), .val (.double x3), .second, .val (.double x4), .second] [(.ref a1)]))
  refine own_by (fun _ kZ => own_dloadN X6.here hx rfl (hb hby d1_67) rfl kZ) ?_
  show own_R p.tables e below _ (T6.setTop (mkF m 68 #[.val (.ref a1), .val (.int p2), .val (.double x3), .second, .val (.double x4), .second] [(.double x3), (.ref a1)]))
  obtain ⟨T12, h12, X12, e12, W12, st12⟩ := putF X6 hx hZ hown (host := "") (Or.inl (hw _ (List.mem_of_getElem? (i := 28) rfl))) Via.refl e6 f9_a1 f7_a1 (Or.inr ⟨(hw _ (List.mem_of_getElem? (i := 29) rfl)), rfl, hnm⟩) (hw _ (List.mem_of_getElem? (i := 3) rfl)) (ty := .double) (by decide) rfl rfl (g := (mkF m 68 #[.val (.ref a1), .val (.int p2), .val (.double x3), .second, .val (.double x4), .second] [(.double x3), (.ref a1)])) rfl rfl (hb hby d1_68)
  have f13_a1 : Exa Z h12 a1 "com/example/ordinal/ordinal/core/Adaptation" := f7_a1.wr W12
  have f14_a1 : Fld Z h12 a1 "com/example/ordinal/ordinal/core/Adaptation" "enabled" "Z" (.int (nar .boolean p2)) := f8_a1.other W12 (Or.inr (slot_ne (Or.inr (hw _ (List.mem_of_getElem? (i := 27) rfl))) (Or.inr (hw _ (List.mem_of_getElem? (i := 29) rfl))) (by decide) (t := .boolean) (t' := .double) (by decide) (by decide)))
  have f15_a1 : Fld Z h12 a1 "com/example/ordinal/ordinal/core/Adaptation" "alpha" "D" (.double x3) := f9_a1.same W12
  have f16_a1 : Fld Z h12 a1 "com/example/ordinal/ordinal/core/Adaptation" "beta" "D" (.double (0 : UInt64)) := f10_a1.other W12 (Or.inr (slot_ne (Or.inr (hw _ (List.mem_of_getElem? (i := 31) rfl))) (Or.inr (hw _ (List.mem_of_getElem? (i := 29) rfl))) (by decide) (t := .double) (t' := .double) (by decide) (by decide)))
  have Z17 : n0 ≤ h12.size := Nat.le_trans Z11 (Keep.of_wr W12).1
  have K17 : Keep h0 h12 [a1] := K11.wr W12 (Or.inl (List.mem_of_getElem? (i := 0) rfl))
  have N17 := Fr.snoc X12 N11 ge1
  refine own_by st12 ?_
  show own_R p.tables e below _ (T12.setTop (mkF m 71 #[.val (.ref a1), .val (.int p2), .val (.double x3), .second, .val (.double x4), .second] []))
  refine own_by (fun _ kZ => XS.aloadN X12.here hx rfl (hb hby d1_71) rfl rfl kZ) ?_
  show own_R p.tables e below _ (T12.setTop (mkF m 72 #[.val (.ref a1), .val (.int p2), .val (.double x3), .second, .val (.double x4), .second] [(.ref a1)]))
  refine own_by (fun _ kZ => own_dload X12.here hx rfl (hb hby d1_72) rfl kZ) ?_
  show own_R p.tables e below _ (T12.setTop (mkF m 74 #[.val (.ref a1), .val (.int p2), .val (.double x3), .second, .val (.double x4), .second] [(.double x4), (.ref a1)]))
  obtain ⟨T18, h18, X18, e18, W18, st18⟩ := putF X12 hx hZ hown (host := "") (Or.inl (hw _ (List.mem_of_getElem? (i := 30) rfl))) Via.refl e12 f16_a1 f13_a1 (Or.inr ⟨(hw _ (List.mem_of_getElem? (i := 31) rfl)), rfl, hnm⟩) (hw _ (List.mem_of_getElem? (i := 3) rfl)) (ty := .double) (by decide) rfl rfl (g := (mkF m 74 #[.val (.ref a1), .val (.int p2), .val (.double x3), .second, .val (.double x4), .second] [(.double x4), (.ref a1)])) rfl rfl (hb hby d1_74)
  have f19_a1 : Exa Z h18 a1 "com/example/ordinal/ordinal/core/Adaptation" := f13_a1.wr W18
  have f20_a1 : Fld Z h18 a1 "com/example/ordinal/ordinal/core/Adaptation" "enabled" "Z" (.int (nar .boolean p2)) := f14_a1.other W18 (Or.inr (slot_ne (Or.inr (hw _ (List.mem_of_getElem? (i := 27) rfl))) (Or.inr (hw _ (List.mem_of_getElem? (i := 31) rfl))) (by decide) (t := .boolean) (t' := .double) (by decide) (by decide)))
  have f21_a1 : Fld Z h18 a1 "com/example/ordinal/ordinal/core/Adaptation" "alpha" "D" (.double x3) := f15_a1.other W18 (Or.inr (slot_ne (Or.inr (hw _ (List.mem_of_getElem? (i := 29) rfl))) (Or.inr (hw _ (List.mem_of_getElem? (i := 31) rfl))) (by decide) (t := .double) (t' := .double) (by decide) (by decide)))
  have f22_a1 : Fld Z h18 a1 "com/example/ordinal/ordinal/core/Adaptation" "beta" "D" (.double x4) := f16_a1.same W18
  have Z23 : n0 ≤ h18.size := Nat.le_trans Z17 (Keep.of_wr W18).1
  have K23 : Keep h0 h18 [a1] := K17.wr W18 (Or.inl (List.mem_of_getElem? (i := 0) rfl))
  have N23 := Fr.snoc X18 N17 ge1
  refine own_by st18 ?_
  show own_R p.tables e below _ (T18.setTop (mkF m 77 #[.val (.ref a1), .val (.int p2), .val (.double x3), .second, .val (.double x4), .second] []))
  obtain ⟨fs, hr, hrun, hended, hW, hsame⟩ := X18.leave (v := none) (fun _ => rfl)
  refine own_end ⟨_, _, ?_, hrun, hended, _, _, rfl, ?_, ⟨_, rfl⟩, hW, hsame.mono (by decide) (by decide)⟩
  · exact X18.returnOut hx Bd.returns (hb hby d1_77) hr
  · show Q1 Z a1 p2 x3 x4 h0 n0 _ T18.heap _
    rw [e18]
    exact ⟨rfl, N23, K23, f22_a1⟩
theorem ef_6 (m : MethodId) (a1 : Addr) (q2 : Int64) (q3 : Int64) : entryFrame m #[(.ref a1), (.long q2), (.long q3)] 5 = mkF m 0 #[.val (.ref a1), .val (.long q2), .second, .val (.long q3), .second] [] := by first | (simp [entryFrame, mkF, argsToLocals, Value.category]; done) | rfl
def Q6 (Z : State) (a1 : Addr) (q2 : Int64) (q3 : Int64) (b : Int32) (h0 : Heap) (n0 : Nat) (v : Option Value) (h : Heap) (L : List Loc) : Prop := v = some (.int (if 8 * q2.toInt < 5 * b.toInt * q3.toInt then (0 : Int32) else 1)) ∧ Fr n0 L ∧ h = h0
set_option maxRecDepth 65536 in
set_option maxHeartbeats 40000000 in
theorem rm6 (l : Launch) (Z : State) (a0 : Array Value) (hw : ∀ d ∈ tables_1, d.before a0 Z = true) (ws : List Jvm.Cond) (a1 : Addr) (q2 : Int64) (q3 : Int64) (b : Int32) (h0 : Heap) (n0 : Nat) (Z0 : n0 ≤ h0.size) (hbb : 0 ≤ b.toInt ∧ b.toInt ≤ 31) (hc : q3.toInt.natAbs ≤ 2 ^ 45) (Fb : Fld Z h0 a1 "com/example/ordinal/ordinal/core/Adaptation" "beta" "D" (.double (own_bt b))) :
    MetFree l (⟨"com/example/ordinal/ordinal/core/Adaptation", "worthSwapping", "(JJ)Z"⟩ : MethodName) (head1 (Jvm.Cond.code (⟨"com/example/ordinal/ordinal/core/Adaptation", "worthSwapping", "(JJ)Z"⟩ : MethodName) prog_13_method_7_code 5 (some .boolean) :: ws) ({ frames := 0, cells := 0, slots := 0, locals := 0 } : Room)) (fun a U => a = #[(.ref a1), (.long q2), (.long q3)] ∧ Z.Warmed39 U.vm ∧ U.heap = h0) (fun _ _ _ _ _ => True) (fun _ U o U' => ∃ v L, o = .returned v ∧ Q6 Z a1 q2 q3 b h0 n0 v U'.heap L ∧ FrameEnd U o U' L ({ frames := 0, cells := 0, slots := 0, locals := 0 } : Room).cells ({ frames := 0, cells := 0, slots := 0, locals := 0 } : Room).slots) := by
  refine MetFree.of_bodySF (plainFor_of_name pn_6) hisR ?_
  intro p e s m args below meth cd s₁ Bd hml0 hP hK
  obtain ⟨rfl, hZ, hh⟩ := hP
  have hx := Bd.exec
  have hby := Bd.bytes
  have hml : cd.maxLocals = 5 := hml0
  have hown : s.vm.findClass "com/example/ordinal/ordinal/core/Adaptation" = some m.cls := findClass_of_methodNamed Bd.named
  have hnm := (name_of_methodNamed Bd.named Bd.method).1
  have X0 : Stand p l e ({ frames := 0, cells := 0, slots := 0, locals := 0 } : Room) s m #[(.ref a1), (.long q2), (.long q3)] below meth cd s₁ [] 0 0 := Stand.of_body Bd
  have e0 : s₁.heap = h0 := by rw [← hh, Bd.state]; rfl
  have N0 := Fr.nil n0
  show own_R p.tables e below _ (s₁.setTop (entryFrame m #[(.ref a1), (.long q2), (.long q3)] 5))
  refine own_by (fun t kZ => castTop (ef_6 m a1 q2 q3) kZ) ?_
  show own_R p.tables e below _ (s₁.setTop (mkF m 0 #[.val (.ref a1), .val (.long q2), .second, .val (.long q3), .second] []))
  refine own_by (fun _ kZ => XS.lloadN X0.here hx rfl (hb hby d6_0) rfl kZ) ?_
  show own_R p.tables e below _ (s₁.setTop (mkF m 1 #[.val (.ref a1), .val (.long q2), .second, .val (.long q3), .second] [(.long q2)]))
  refine own_by (fun _ kZ => own_l2d X0.here hx rfl (hb hby d6_1) rfl kZ) ?_
  show own_R p.tables e below _ (s₁.setTop (mkF m 2 #[.val (.ref a1), .val (.long q2), .second, .val (.long q3), .second] [(.double (FP.l2d q2))]))
  refine own_by (fun _ kZ => X0.ldc2DoubleC hx hown (mvT hZ (hw _ (List.mem_of_getElem? (i := 37) rfl))) (g := (mkF m 2 #[.val (.ref a1), .val (.long q2), .second, .val (.long q3), .second] [(.double (FP.l2d q2))])) rfl (hb hby d6_2) _ kZ) ?_
  show own_R p.tables e below _ (s₁.setTop (mkF m 5 #[.val (.ref a1), .val (.long q2), .second, .val (.long q3), .second] [(.double (4612811918334230528 : UInt64)), (.double (FP.l2d q2))]))
  refine own_by (fun _ kZ => XS.aloadN X0.here hx rfl (hb hby d6_5) rfl rfl kZ) ?_
  show own_R p.tables e below _ (s₁.setTop (mkF m 6 #[.val (.ref a1), .val (.long q2), .second, .val (.long q3), .second] [(.ref a1), (.double (4612811918334230528 : UInt64)), (.double (FP.l2d q2))]))
  obtain ⟨T24, X24, e24, st24⟩ := getF X0 hx hZ hown (host := "") (Or.inl (hw _ (List.mem_of_getElem? (i := 30) rfl))) Via.refl e0 Fb (g := (mkF m 6 #[.val (.ref a1), .val (.long q2), .second, .val (.long q3), .second] [(.ref a1), (.double (4612811918334230528 : UInt64)), (.double (FP.l2d q2))])) rfl rfl (hb hby d6_6)
  refine own_by st24 ?_
  show own_R p.tables e below _ (T24.setTop (mkF m 9 #[.val (.ref a1), .val (.long q2), .second, .val (.long q3), .second] [(.double (own_bt b)), (.double (4612811918334230528 : UInt64)), (.double (FP.l2d q2))]))
  refine own_by (fun _ kZ => own_dmul X24.here hx rfl (hb hby d6_9) rfl (own_no (own_beta b hbb).2.1) kZ) ?_
  show own_R p.tables e below _ (T24.setTop (mkF m 10 #[.val (.ref a1), .val (.long q2), .second, .val (.long q3), .second] [(.double (FP.dmul (4612811918334230528 : UInt64) (own_bt b))), (.double (FP.l2d q2))]))
  refine own_by (fun _ kZ => XS.lloadN X24.here hx rfl (hb hby d6_10) rfl kZ) ?_
  show own_R p.tables e below _ (T24.setTop (mkF m 11 #[.val (.ref a1), .val (.long q2), .second, .val (.long q3), .second] [(.long q3), (.double (FP.dmul (4612811918334230528 : UInt64) (own_bt b))), (.double (FP.l2d q2))]))
  refine own_by (fun _ kZ => own_l2d X24.here hx rfl (hb hby d6_11) rfl kZ) ?_
  show own_R p.tables e below _ (T24.setTop (mkF m 12 #[.val (.ref a1), .val (.long q2), .second, .val (.long q3), .second] [(.double (FP.l2d q3)), (.double (FP.dmul (4612811918334230528 : UInt64) (own_bt b))), (.double (FP.l2d q2))]))
  refine own_by (fun _ kZ => own_dmul X24.here hx rfl (hb hby d6_12) rfl (own_worth b q3 q2 hbb hc).1 kZ) ?_
  show own_R p.tables e below _ (T24.setTop (mkF m 13 #[.val (.ref a1), .val (.long q2), .second, .val (.long q3), .second] [(.double (FP.dmul (FP.dmul (4612811918334230528 : UInt64) (own_bt b)) (FP.l2d q3))), (.double (FP.l2d q2))]))
  refine own_by (fun _ kZ => own_dcmp X24.here hx rfl (hb hby d6_13) rfl kZ) ?_
  show own_R p.tables e below _ (T24.setTop (mkF m 14 #[.val (.ref a1), .val (.long q2), .second, .val (.long q3), .second] [(.int (cmpValue (FP.dcmp (FP.l2d q2) (FP.dmul (FP.dmul (4612811918334230528 : UInt64) (own_bt b)) (FP.l2d q3))) .l))]))
  by_cases h1 : (cmpValue (FP.dcmp (FP.l2d q2) (FP.dmul (FP.dmul (4612811918334230528 : UInt64) (own_bt b)) (FP.l2d q3))) .l) < (0 : Int32)
  · skip
    refine own_by (fun _ kZ => XS.ifYes X24.here hx rfl (pc0 := 14) (pc' := 21) rfl (hb hby d6_14) rfl ((if0 _ _).trans (tlt h1).1) (by decide) (by decide) kZ) ?_
    show own_R p.tables e below _ (T24.setTop (mkF m 21 #[.val (.ref a1), .val (.long q2), .second, .val (.long q3), .second] []))
    refine own_by (fun _ kZ => XS.iconst X24.here hx rfl (hb hby d6_21) kZ) ?_
    show own_R p.tables e below _ (T24.setTop (mkF m 22 #[.val (.ref a1), .val (.long q2), .second, .val (.long q3), .second] [(.int (0 : Int32))]))
    obtain ⟨fs, hr, hrun, hended, hW, hsame⟩ := X24.leave (v := some (.int (0 : Int32))) (fun h => by rw [Bd.returns] at h; cases h)
    refine own_end ⟨_, _, ?_, hrun, hended, _, _, rfl, ?_, ⟨_, rfl⟩, hW, hsame.mono (by decide) (by decide)⟩
    · exact retN X24 hx (t := .boolean) Bd.returns (by simp) (hb hby d6_22) hr
    · show Q6 Z a1 q2 q3 b h0 n0 _ T24.heap _
      rw [e24]
      exact ⟨by rw [if_pos ((own_worth b q3 q2 hbb hc).2.mp h1)], N0, rfl⟩
  · skip
    refine own_by (fun _ kZ => XS.ifNo X24.here hx rfl (hb hby d6_14) rfl ((if0 _ _).trans (flt h1).1) kZ) ?_
    show own_R p.tables e below _ (T24.setTop (mkF m 17 #[.val (.ref a1), .val (.long q2), .second, .val (.long q3), .second] []))
    refine own_by (fun _ kZ => XS.iconst X24.here hx rfl (hb hby d6_17) kZ) ?_
    show own_R p.tables e below _ (T24.setTop (mkF m 18 #[.val (.ref a1), .val (.long q2), .second, .val (.long q3), .second] [(.int (1 : Int32))]))
    refine own_by (fun _ kZ => XS.goto X24.here hx rfl (pc0 := 18) (pc' := 22) rfl (hb hby d6_18) (by decide) (by decide) kZ) ?_
    show own_R p.tables e below _ (T24.setTop (mkF m 22 #[.val (.ref a1), .val (.long q2), .second, .val (.long q3), .second] [(.int (1 : Int32))]))
    obtain ⟨fs, hr, hrun, hended, hW, hsame⟩ := X24.leave (v := some (.int (1 : Int32))) (fun h => by rw [Bd.returns] at h; cases h)
    refine own_end ⟨_, _, ?_, hrun, hended, _, _, rfl, ?_, ⟨_, rfl⟩, hW, hsame.mono (by decide) (by decide)⟩
    · exact retN X24 hx (t := .boolean) Bd.returns (by simp) (hb hby d6_22) hr
    · show Q6 Z a1 q2 q3 b h0 n0 _ T24.heap _
      rw [e24]
      exact ⟨by rw [if_neg (fun q => h1 ((own_worth b q3 q2 hbb hc).2.mpr q))], N0, rfl⟩
theorem ef_0 (m : MethodId) (p1 : Int32) (q2 : Int64) (q3 : Int64) : entryFrame m #[(.int p1), (.long q2), (.long q3)] maxLocals = mkF m 0 #[.val (.int p1), .val (.long q2), .second, .val (.long q3), .second, .unset, .unset, .unset, .unset, .unset, .unset, .unset, .unset, .unset, .unset, .unset, .unset, .unset, .unset, .unset, .unset, .unset] [] := by first | (simp [entryFrame, mkF, argsToLocals, Value.category, maxLocals]; done) | rfl
def Q0 (Z : State) (p1 : Int32) (q2 : Int64) (q3 : Int64)  (h0 : Heap) (n0 : Nat) (v : Option Value) (h : Heap) (L : List Loc) : Prop := v = some (.int 1) ∧ Fr n0 L
set_option maxRecDepth 65536 in
set_option maxHeartbeats 40000000 in
theorem rm0 (l : Launch) (Z : State) (a0 : Array Value) (hw : ∀ d ∈ tables_1, d.before a0 Z = true) (ws : List Jvm.Cond) (p1 : Int32) (q2 : Int64) (q3 : Int64)  (h0 : Heap) (n0 : Nat) (Z0 : n0 ≤ h0.size)  :
    MetFree l x (head1 (Jvm.Cond.code x code maxLocals ret :: ws) room_1) (fun a U => a = #[(.int p1), (.long q2), (.long q3)] ∧ Z.Warmed39 U.vm ∧ U.heap = h0) (fun _ _ _ _ _ => True) (fun _ U o U' => ∃ v L, o = .returned v ∧ Q0 Z p1 q2 q3 h0 n0 v U'.heap L ∧ FrameEnd U o U' L room_1.cells room_1.slots) := by
  refine MetFree.of_bodySF (plainFor_of_name pn_0) hisR ?_
  intro p e s m args below meth cd s₁ Bd hml0 hP hK
  obtain ⟨rfl, hZ, hh⟩ := hP
  have hx := Bd.exec
  have hby := Bd.bytes
  have hml : cd.maxLocals = 22 := hml0
  have hown : s.vm.findClass "com/example/ordinal/ordinal/core/AdaptationWorthSwappingPinLaw" = some m.cls := findClass_of_methodNamed Bd.named
  have hnm := (name_of_methodNamed Bd.named Bd.method).1
  have X0 : Stand p l e room_1 s m #[(.int p1), (.long q2), (.long q3)] below meth cd s₁ [] 0 0 := Stand.of_body Bd
  have e0 : s₁.heap = h0 := by rw [← hh, Bd.state]; rfl
  have N0 := Fr.nil n0
  show own_R p.tables e below _ (s₁.setTop (entryFrame m #[(.int p1), (.long q2), (.long q3)] maxLocals))
  refine own_by (fun t kZ => castTop (ef_0 m p1 q2 q3) kZ) ?_
  show own_R p.tables e below _ (s₁.setTop (mkF m 0 #[.val (.int p1), .val (.long q2), .second, .val (.long q3), .second, .unset, .unset, .unset, .unset, .unset, .unset, .unset, .unset, .unset, .unset, .unset, .unset, .unset, .unset, .unset, .unset, .unset] []))
  refine own_by (fun _ kZ => XS.iloadN X0.here hx rfl (hb hby at_0) rfl kZ) ?_
  show own_R p.tables e below _ (s₁.setTop (mkF m 1 #[.val (.int p1), .val (.long q2), .second, .val (.long q3), .second, .unset, .unset, .unset, .unset, .unset, .unset, .unset, .unset, .unset, .unset, .unset, .unset, .unset, .unset, .unset, .unset, .unset] [(.int p1)]))
  refine own_by (fun _ kZ => XS.iconst X0.here hx rfl (hb hby at_1) kZ) ?_
  show own_R p.tables e below _ (s₁.setTop (mkF m 2 #[.val (.int p1), .val (.long q2), .second, .val (.long q3), .second, .unset, .unset, .unset, .unset, .unset, .unset, .unset, .unset, .unset, .unset, .unset, .unset, .unset, .unset, .unset, .unset, .unset] [(.int (1 : Int32)), (.int p1)]))
  refine own_by (fun _ kZ => XS.iand X0.here hx rfl (hb hby at_2) rfl kZ) ?_
  show own_R p.tables e below _ (s₁.setTop (mkF m 3 #[.val (.int p1), .val (.long q2), .second, .val (.long q3), .second, .unset, .unset, .unset, .unset, .unset, .unset, .unset, .unset, .unset, .unset, .unset, .unset, .unset, .unset, .unset, .unset, .unset] [(.int (p1 &&& (1 : Int32)))]))
  obtain ⟨en, h_en⟩ : ∃ z : Int32, z = (if (p1 &&& (1 : Int32)) = (0 : Int32) then (0 : Int32) else (1 : Int32)) := ⟨_, rfl⟩
  refine own_by (S' := s₁.setTop (mkF m 11 #[.val (.int p1), .val (.long q2), .second, .val (.long q3), .second, .unset, .unset, .unset, .unset, .unset, .unset, .unset, .unset, .unset, .unset, .unset, .unset, .unset, .unset, .unset, .unset, .unset] [(.int en)])) (fun _ kZ => ?_) ?_
  · skip
    show Steps p.tables e below (s₁.setTop (mkF m 3 #[.val (.int p1), .val (.long q2), .second, .val (.long q3), .second, .unset, .unset, .unset, .unset, .unset, .unset, .unset, .unset, .unset, .unset, .unset, .unset, .unset, .unset, .unset, .unset, .unset] [(.int (p1 &&& (1 : Int32)))])) _
    by_cases hd3 : (p1 &&& (1 : Int32)) = (0 : Int32)
    · skip
      refine XS.ifYes X0.here hx rfl (pc0 := 3) (pc' := 10) rfl (hb hby at_3) rfl ((if0 _ _).trans (teq hd3).1) (by decide) (by decide) ?_
      show Steps p.tables e below (s₁.setTop (mkF m 10 #[.val (.int p1), .val (.long q2), .second, .val (.long q3), .second, .unset, .unset, .unset, .unset, .unset, .unset, .unset, .unset, .unset, .unset, .unset, .unset, .unset, .unset, .unset, .unset, .unset] [])) _
      refine XS.iconst X0.here hx rfl (hb hby at_10) ?_
      show Steps p.tables e below (s₁.setTop (mkF m 11 #[.val (.int p1), .val (.long q2), .second, .val (.long q3), .second, .unset, .unset, .unset, .unset, .unset, .unset, .unset, .unset, .unset, .unset, .unset, .unset, .unset, .unset, .unset, .unset, .unset] [(.int (0 : Int32))])) _
      rw [if_pos hd3] at h_en
      subst h_en
      exact kZ
    · skip
      refine XS.ifNo X0.here hx rfl (hb hby at_3) rfl ((if0 _ _).trans (feq hd3).1) ?_
      show Steps p.tables e below (s₁.setTop (mkF m 6 #[.val (.int p1), .val (.long q2), .second, .val (.long q3), .second, .unset, .unset, .unset, .unset, .unset, .unset, .unset, .unset, .unset, .unset, .unset, .unset, .unset, .unset, .unset, .unset, .unset] [])) _
      refine XS.iconst X0.here hx rfl (hb hby at_6) ?_
      show Steps p.tables e below (s₁.setTop (mkF m 7 #[.val (.int p1), .val (.long q2), .second, .val (.long q3), .second, .unset, .unset, .unset, .unset, .unset, .unset, .unset, .unset, .unset, .unset, .unset, .unset, .unset, .unset, .unset, .unset, .unset] [(.int (1 : Int32))])) _
      refine XS.goto X0.here hx rfl (pc0 := 7) (pc' := 11) rfl (hb hby at_7) (by decide) (by decide) ?_
      show Steps p.tables e below (s₁.setTop (mkF m 11 #[.val (.int p1), .val (.long q2), .second, .val (.long q3), .second, .unset, .unset, .unset, .unset, .unset, .unset, .unset, .unset, .unset, .unset, .unset, .unset, .unset, .unset, .unset, .unset, .unset] [(.int (1 : Int32))])) _
      rw [if_neg hd3] at h_en
      subst h_en
      exact kZ
  show own_R p.tables e below _ (s₁.setTop (mkF m 11 #[.val (.int p1), .val (.long q2), .second, .val (.long q3), .second, .unset, .unset, .unset, .unset, .unset, .unset, .unset, .unset, .unset, .unset, .unset, .unset, .unset, .unset, .unset, .unset, .unset] [(.int en)]))
  refine own_by (fun _ kZ => XS.istore X0.here hx rfl (hb hby at_11) rfl (l' := #[.val (.int p1), .val (.long q2), .second, .val (.long q3), .second, .val (.int en), .unset, .unset, .unset, .unset, .unset, .unset, .unset, .unset, .unset, .unset, .unset, .unset, .unset, .unset, .unset, .unset]) rfl kZ) ?_
  show own_R p.tables e below _ (s₁.setTop (mkF m 13 #[.val (.int p1), .val (.long q2), .second, .val (.long q3), .second, .val (.int en), .unset, .unset, .unset, .unset, .unset, .unset, .unset, .unset, .unset, .unset, .unset, .unset, .unset, .unset, .unset, .unset] []))
  refine own_by (fun _ kZ => XS.iloadN X0.here hx rfl (hb hby at_13) rfl kZ) ?_
  show own_R p.tables e below _ (s₁.setTop (mkF m 14 #[.val (.int p1), .val (.long q2), .second, .val (.long q3), .second, .val (.int en), .unset, .unset, .unset, .unset, .unset, .unset, .unset, .unset, .unset, .unset, .unset, .unset, .unset, .unset, .unset, .unset] [(.int p1)]))
  refine own_by (fun _ kZ => XS.iconst X0.here hx rfl (hb hby at_14) kZ) ?_
  show own_R p.tables e below _ (s₁.setTop (mkF m 15 #[.val (.int p1), .val (.long q2), .second, .val (.long q3), .second, .val (.int en), .unset, .unset, .unset, .unset, .unset, .unset, .unset, .unset, .unset, .unset, .unset, .unset, .unset, .unset, .unset, .unset] [(.int (1 : Int32)), (.int p1)]))
  refine own_by (fun _ kZ => XS.iushr X0.here hx rfl (hb hby at_15) rfl kZ) ?_
  show own_R p.tables e below _ (s₁.setTop (mkF m 16 #[.val (.int p1), .val (.long q2), .second, .val (.long q3), .second, .val (.int en), .unset, .unset, .unset, .unset, .unset, .unset, .unset, .unset, .unset, .unset, .unset, .unset, .unset, .unset, .unset, .unset] [(.int ((p1.toUInt32 >>> ((1 : Int32) &&& 31).toUInt32).toInt32))]))
  refine own_by (fun _ kZ => XS.bipush X0.here hx rfl (hb hby at_16) kZ) ?_
  show own_R p.tables e below _ (s₁.setTop (mkF m 18 #[.val (.int p1), .val (.long q2), .second, .val (.long q3), .second, .val (.int en), .unset, .unset, .unset, .unset, .unset, .unset, .unset, .unset, .unset, .unset, .unset, .unset, .unset, .unset, .unset, .unset] [(.int (7 : Int32)), (.int ((p1.toUInt32 >>> ((1 : Int32) &&& 31).toUInt32).toInt32))]))
  refine own_by (fun _ kZ => XS.iand X0.here hx rfl (hb hby at_18) rfl kZ) ?_
  show own_R p.tables e below _ (s₁.setTop (mkF m 19 #[.val (.int p1), .val (.long q2), .second, .val (.long q3), .second, .val (.int en), .unset, .unset, .unset, .unset, .unset, .unset, .unset, .unset, .unset, .unset, .unset, .unset, .unset, .unset, .unset, .unset] [(.int (((p1.toUInt32 >>> ((1 : Int32) &&& 31).toUInt32).toInt32) &&& (7 : Int32)))]))
  refine own_by (fun _ kZ => XS.iconst X0.here hx rfl (hb hby at_19) kZ) ?_
  show own_R p.tables e below _ (s₁.setTop (mkF m 20 #[.val (.int p1), .val (.long q2), .second, .val (.long q3), .second, .val (.int en), .unset, .unset, .unset, .unset, .unset, .unset, .unset, .unset, .unset, .unset, .unset, .unset, .unset, .unset, .unset, .unset] [(.int (1 : Int32)), (.int (((p1.toUInt32 >>> ((1 : Int32) &&& 31).toUInt32).toInt32) &&& (7 : Int32)))]))
  refine own_by (fun _ kZ => XS.iadd X0.here hx rfl (hb hby at_20) rfl kZ) ?_
  show own_R p.tables e below _ (s₁.setTop (mkF m 21 #[.val (.int p1), .val (.long q2), .second, .val (.long q3), .second, .val (.int en), .unset, .unset, .unset, .unset, .unset, .unset, .unset, .unset, .unset, .unset, .unset, .unset, .unset, .unset, .unset, .unset] [(.int ((((p1.toUInt32 >>> ((1 : Int32) &&& 31).toUInt32).toInt32) &&& (7 : Int32)) + (1 : Int32)))]))
  obtain ⟨a, h_a⟩ : ∃ z : Int32, z = ((((p1.toUInt32 >>> ((1 : Int32) &&& 31).toUInt32).toInt32) &&& (7 : Int32)) + (1 : Int32)) := ⟨_, rfl⟩
  rw [← h_a]
  show own_R p.tables e below _ (s₁.setTop (mkF m 21 #[.val (.int p1), .val (.long q2), .second, .val (.long q3), .second, .val (.int en), .unset, .unset, .unset, .unset, .unset, .unset, .unset, .unset, .unset, .unset, .unset, .unset, .unset, .unset, .unset, .unset] [(.int a)]))
  have ha : 0 < a.toInt := by
    rw [h_a]
    have q := c_and ((p1.toUInt32 >>> ((1 : Int32) &&& 31).toUInt32).toInt32) 7 (by decide)
    have e7 : (7 : Int32).toInt = 7 := rfl
    rw [Int32.toInt_add, Int.bmod_eq_of_le (by have e1 : (1 : Int32).toInt = 1 := rfl; omega) (by have e1 : (1 : Int32).toInt = 1 := rfl; omega)]
    have e1 : (1 : Int32).toInt = 1 := rfl
    omega
  refine own_by (fun _ kZ => XS.istore X0.here hx rfl (hb hby at_21) rfl (l' := #[.val (.int p1), .val (.long q2), .second, .val (.long q3), .second, .val (.int en), .val (.int a), .unset, .unset, .unset, .unset, .unset, .unset, .unset, .unset, .unset, .unset, .unset, .unset, .unset, .unset, .unset]) rfl kZ) ?_
  show own_R p.tables e below _ (s₁.setTop (mkF m 23 #[.val (.int p1), .val (.long q2), .second, .val (.long q3), .second, .val (.int en), .val (.int a), .unset, .unset, .unset, .unset, .unset, .unset, .unset, .unset, .unset, .unset, .unset, .unset, .unset, .unset, .unset] []))
  refine own_by (fun _ kZ => XS.iloadN X0.here hx rfl (hb hby at_23) rfl kZ) ?_
  show own_R p.tables e below _ (s₁.setTop (mkF m 24 #[.val (.int p1), .val (.long q2), .second, .val (.long q3), .second, .val (.int en), .val (.int a), .unset, .unset, .unset, .unset, .unset, .unset, .unset, .unset, .unset, .unset, .unset, .unset, .unset, .unset, .unset] [(.int p1)]))
  refine own_by (fun _ kZ => XS.iconst X0.here hx rfl (hb hby at_24) kZ) ?_
  show own_R p.tables e below _ (s₁.setTop (mkF m 25 #[.val (.int p1), .val (.long q2), .second, .val (.long q3), .second, .val (.int en), .val (.int a), .unset, .unset, .unset, .unset, .unset, .unset, .unset, .unset, .unset, .unset, .unset, .unset, .unset, .unset, .unset] [(.int (4 : Int32)), (.int p1)]))
  refine own_by (fun _ kZ => XS.iushr X0.here hx rfl (hb hby at_25) rfl kZ) ?_
  show own_R p.tables e below _ (s₁.setTop (mkF m 26 #[.val (.int p1), .val (.long q2), .second, .val (.long q3), .second, .val (.int en), .val (.int a), .unset, .unset, .unset, .unset, .unset, .unset, .unset, .unset, .unset, .unset, .unset, .unset, .unset, .unset, .unset] [(.int ((p1.toUInt32 >>> ((4 : Int32) &&& 31).toUInt32).toInt32))]))
  refine own_by (fun _ kZ => XS.bipush X0.here hx rfl (hb hby at_26) kZ) ?_
  show own_R p.tables e below _ (s₁.setTop (mkF m 28 #[.val (.int p1), .val (.long q2), .second, .val (.long q3), .second, .val (.int en), .val (.int a), .unset, .unset, .unset, .unset, .unset, .unset, .unset, .unset, .unset, .unset, .unset, .unset, .unset, .unset, .unset] [(.int (31 : Int32)), (.int ((p1.toUInt32 >>> ((4 : Int32) &&& 31).toUInt32).toInt32))]))
  refine own_by (fun _ kZ => XS.iand X0.here hx rfl (hb hby at_28) rfl kZ) ?_
  show own_R p.tables e below _ (s₁.setTop (mkF m 29 #[.val (.int p1), .val (.long q2), .second, .val (.long q3), .second, .val (.int en), .val (.int a), .unset, .unset, .unset, .unset, .unset, .unset, .unset, .unset, .unset, .unset, .unset, .unset, .unset, .unset, .unset] [(.int (((p1.toUInt32 >>> ((4 : Int32) &&& 31).toUInt32).toInt32) &&& (31 : Int32)))]))
  obtain ⟨b, h_b⟩ : ∃ z : Int32, z = (((p1.toUInt32 >>> ((4 : Int32) &&& 31).toUInt32).toInt32) &&& (31 : Int32)) := ⟨_, rfl⟩
  rw [← h_b]
  show own_R p.tables e below _ (s₁.setTop (mkF m 29 #[.val (.int p1), .val (.long q2), .second, .val (.long q3), .second, .val (.int en), .val (.int a), .unset, .unset, .unset, .unset, .unset, .unset, .unset, .unset, .unset, .unset, .unset, .unset, .unset, .unset, .unset] [(.int b)]))
  have hbb : 0 ≤ b.toInt ∧ b.toInt ≤ 31 := by rw [h_b]; exact c_and _ 31 (by decide)
  refine own_by (fun _ kZ => XS.istore X0.here hx rfl (hb hby at_29) rfl (l' := #[.val (.int p1), .val (.long q2), .second, .val (.long q3), .second, .val (.int en), .val (.int a), .val (.int b), .unset, .unset, .unset, .unset, .unset, .unset, .unset, .unset, .unset, .unset, .unset, .unset, .unset, .unset]) rfl kZ) ?_
  show own_R p.tables e below _ (s₁.setTop (mkF m 31 #[.val (.int p1), .val (.long q2), .second, .val (.long q3), .second, .val (.int en), .val (.int a), .val (.int b), .unset, .unset, .unset, .unset, .unset, .unset, .unset, .unset, .unset, .unset, .unset, .unset, .unset, .unset] []))
  refine own_by (fun _ kZ => XS.lloadN X0.here hx rfl (hb hby at_31) rfl kZ) ?_
  show own_R p.tables e below _ (s₁.setTop (mkF m 32 #[.val (.int p1), .val (.long q2), .second, .val (.long q3), .second, .val (.int en), .val (.int a), .val (.int b), .unset, .unset, .unset, .unset, .unset, .unset, .unset, .unset, .unset, .unset, .unset, .unset, .unset, .unset] [(.long q3)]))
  refine own_by (fun _ kZ => XS.bipush X0.here hx rfl (hb hby at_32) kZ) ?_
  show own_R p.tables e below _ (s₁.setTop (mkF m 34 #[.val (.int p1), .val (.long q2), .second, .val (.long q3), .second, .val (.int en), .val (.int a), .val (.int b), .unset, .unset, .unset, .unset, .unset, .unset, .unset, .unset, .unset, .unset, .unset, .unset, .unset, .unset] [(.int (18 : Int32)), (.long q3)]))
  refine own_by (fun _ kZ => XS.lshl X0.here hx rfl (hb hby at_34) rfl kZ) ?_
  show own_R p.tables e below _ (s₁.setTop (mkF m 35 #[.val (.int p1), .val (.long q2), .second, .val (.long q3), .second, .val (.int en), .val (.int a), .val (.int b), .unset, .unset, .unset, .unset, .unset, .unset, .unset, .unset, .unset, .unset, .unset, .unset, .unset, .unset] [(.long (q3 <<< ((18 : Int32) &&& 0x3f).toInt64))]))
  refine own_by (fun _ kZ => XS.bipush X0.here hx rfl (hb hby at_35) kZ) ?_
  show own_R p.tables e below _ (s₁.setTop (mkF m 37 #[.val (.int p1), .val (.long q2), .second, .val (.long q3), .second, .val (.int en), .val (.int a), .val (.int b), .unset, .unset, .unset, .unset, .unset, .unset, .unset, .unset, .unset, .unset, .unset, .unset, .unset, .unset] [(.int (18 : Int32)), (.long (q3 <<< ((18 : Int32) &&& 0x3f).toInt64))]))
  refine own_by (fun _ kZ => XS.lshr X0.here hx rfl (hb hby at_37) rfl kZ) ?_
  show own_R p.tables e below _ (s₁.setTop (mkF m 38 #[.val (.int p1), .val (.long q2), .second, .val (.long q3), .second, .val (.int en), .val (.int a), .val (.int b), .unset, .unset, .unset, .unset, .unset, .unset, .unset, .unset, .unset, .unset, .unset, .unset, .unset, .unset] [(.long ((q3 <<< ((18 : Int32) &&& 0x3f).toInt64) >>> ((18 : Int32) &&& 0x3f).toInt64))]))
  obtain ⟨cn, h_cn⟩ : ∃ z : Int64, z = ((q3 <<< ((18 : Int32) &&& 0x3f).toInt64) >>> ((18 : Int32) &&& 0x3f).toInt64) := ⟨_, rfl⟩
  rw [← h_cn]
  show own_R p.tables e below _ (s₁.setTop (mkF m 38 #[.val (.int p1), .val (.long q2), .second, .val (.long q3), .second, .val (.int en), .val (.int a), .val (.int b), .unset, .unset, .unset, .unset, .unset, .unset, .unset, .unset, .unset, .unset, .unset, .unset, .unset, .unset] [(.long cn)]))
  have hc : cn.toInt.natAbs ≤ 2 ^ 45 := by rw [h_cn]; exact own_cb _
  refine own_by (fun _ kZ => XS.lstore X0.here hx rfl (hb hby at_38) rfl (l' := #[.val (.int p1), .val (.long q2), .second, .val (.long q3), .second, .val (.int en), .val (.int a), .val (.int b), .val (.long cn), .second, .unset, .unset, .unset, .unset, .unset, .unset, .unset, .unset, .unset, .unset, .unset, .unset]) rfl kZ) ?_
  show own_R p.tables e below _ (s₁.setTop (mkF m 40 #[.val (.int p1), .val (.long q2), .second, .val (.long q3), .second, .val (.int en), .val (.int a), .val (.int b), .val (.long cn), .second, .unset, .unset, .unset, .unset, .unset, .unset, .unset, .unset, .unset, .unset, .unset, .unset] []))
  refine own_by (fun _ kZ => X0.ldc2Long hx hown (mvT hZ (hw _ (List.mem_of_getElem? (i := 0) rfl))) (g := (mkF m 40 #[.val (.int p1), .val (.long q2), .second, .val (.long q3), .second, .val (.int en), .val (.int a), .val (.int b), .val (.long cn), .second, .unset, .unset, .unset, .unset, .unset, .unset, .unset, .unset, .unset, .unset, .unset, .unset] [])) rfl (hb hby at_40) _ kZ) ?_
  show own_R p.tables e below _ (s₁.setTop (mkF m 43 #[.val (.int p1), .val (.long q2), .second, .val (.long q3), .second, .val (.int en), .val (.int a), .val (.int b), .val (.long cn), .second, .unset, .unset, .unset, .unset, .unset, .unset, .unset, .unset, .unset, .unset, .unset, .unset] [(.long (5 : Int64))]))
  refine own_by (fun _ kZ => XS.iload X0.here hx rfl (hb hby at_43) rfl kZ) ?_
  show own_R p.tables e below _ (s₁.setTop (mkF m 45 #[.val (.int p1), .val (.long q2), .second, .val (.long q3), .second, .val (.int en), .val (.int a), .val (.int b), .val (.long cn), .second, .unset, .unset, .unset, .unset, .unset, .unset, .unset, .unset, .unset, .unset, .unset, .unset] [(.int b), (.long (5 : Int64))]))
  refine own_by (fun _ kZ => XS.i2l X0.here hx rfl (hb hby at_45) rfl kZ) ?_
  show own_R p.tables e below _ (s₁.setTop (mkF m 46 #[.val (.int p1), .val (.long q2), .second, .val (.long q3), .second, .val (.int en), .val (.int a), .val (.int b), .val (.long cn), .second, .unset, .unset, .unset, .unset, .unset, .unset, .unset, .unset, .unset, .unset, .unset, .unset] [(.long (b.toInt64)), (.long (5 : Int64))]))
  refine own_by (fun _ kZ => XS.lmul X0.here hx rfl (hb hby at_46) rfl kZ) ?_
  show own_R p.tables e below _ (s₁.setTop (mkF m 47 #[.val (.int p1), .val (.long q2), .second, .val (.long q3), .second, .val (.int en), .val (.int a), .val (.int b), .val (.long cn), .second, .unset, .unset, .unset, .unset, .unset, .unset, .unset, .unset, .unset, .unset, .unset, .unset] [(.long ((5 : Int64) * (b.toInt64)))]))
  refine own_by (fun _ kZ => XS.lload X0.here hx rfl (hb hby at_47) rfl kZ) ?_
  show own_R p.tables e below _ (s₁.setTop (mkF m 49 #[.val (.int p1), .val (.long q2), .second, .val (.long q3), .second, .val (.int en), .val (.int a), .val (.int b), .val (.long cn), .second, .unset, .unset, .unset, .unset, .unset, .unset, .unset, .unset, .unset, .unset, .unset, .unset] [(.long cn), (.long ((5 : Int64) * (b.toInt64)))]))
  refine own_by (fun _ kZ => XS.lmul X0.here hx rfl (hb hby at_49) rfl kZ) ?_
  show own_R p.tables e below _ (s₁.setTop (mkF m 50 #[.val (.int p1), .val (.long q2), .second, .val (.long q3), .second, .val (.int en), .val (.int a), .val (.int b), .val (.long cn), .second, .unset, .unset, .unset, .unset, .unset, .unset, .unset, .unset, .unset, .unset, .unset, .unset] [(.long (((5 : Int64) * (b.toInt64)) * cn))]))
  obtain ⟨P, h_P⟩ : ∃ z : Int64, z = (((5 : Int64) * (b.toInt64)) * cn) := ⟨_, rfl⟩
  rw [← h_P]
  show own_R p.tables e below _ (s₁.setTop (mkF m 50 #[.val (.int p1), .val (.long q2), .second, .val (.long q3), .second, .val (.int en), .val (.int a), .val (.int b), .val (.long cn), .second, .unset, .unset, .unset, .unset, .unset, .unset, .unset, .unset, .unset, .unset, .unset, .unset] [(.long P)]))
  have hP := own_P b cn hbb hc
  rw [← h_P] at hP
  refine own_by (fun _ kZ => XS.lstore X0.here hx rfl (hb hby at_50) rfl (l' := #[.val (.int p1), .val (.long q2), .second, .val (.long q3), .second, .val (.int en), .val (.int a), .val (.int b), .val (.long cn), .second, .val (.long P), .second, .unset, .unset, .unset, .unset, .unset, .unset, .unset, .unset, .unset, .unset]) rfl kZ) ?_
  show own_R p.tables e below _ (s₁.setTop (mkF m 52 #[.val (.int p1), .val (.long q2), .second, .val (.long q3), .second, .val (.int en), .val (.int a), .val (.int b), .val (.long cn), .second, .val (.long P), .second, .unset, .unset, .unset, .unset, .unset, .unset, .unset, .unset, .unset, .unset] []))
  refine own_by (fun _ kZ => XS.lload X0.here hx rfl (hb hby at_52) rfl kZ) ?_
  show own_R p.tables e below _ (s₁.setTop (mkF m 54 #[.val (.int p1), .val (.long q2), .second, .val (.long q3), .second, .val (.int en), .val (.int a), .val (.int b), .val (.long cn), .second, .val (.long P), .second, .unset, .unset, .unset, .unset, .unset, .unset, .unset, .unset, .unset, .unset] [(.long P)]))
  refine own_by (fun _ kZ => X0.ldc2Long hx hown (mvT hZ (hw _ (List.mem_of_getElem? (i := 1) rfl))) (g := (mkF m 54 #[.val (.int p1), .val (.long q2), .second, .val (.long q3), .second, .val (.int en), .val (.int a), .val (.int b), .val (.long cn), .second, .val (.long P), .second, .unset, .unset, .unset, .unset, .unset, .unset, .unset, .unset, .unset, .unset] [(.long P)])) rfl (hb hby at_54) _ kZ) ?_
  show own_R p.tables e below _ (s₁.setTop (mkF m 57 #[.val (.int p1), .val (.long q2), .second, .val (.long q3), .second, .val (.int en), .val (.int a), .val (.int b), .val (.long cn), .second, .val (.long P), .second, .unset, .unset, .unset, .unset, .unset, .unset, .unset, .unset, .unset, .unset] [(.long (8 : Int64)), (.long P)]))
  refine own_by (fun _ kZ => XS.ldiv X0.here hx rfl (hb hby at_57) rfl (by decide) kZ) ?_
  show own_R p.tables e below _ (s₁.setTop (mkF m 58 #[.val (.int p1), .val (.long q2), .second, .val (.long q3), .second, .val (.int en), .val (.int a), .val (.int b), .val (.long cn), .second, .val (.long P), .second, .unset, .unset, .unset, .unset, .unset, .unset, .unset, .unset, .unset, .unset] [(.long (P / (8 : Int64)))]))
  refine own_by (fun _ kZ => XS.lstore X0.here hx rfl (hb hby at_58) rfl (l' := #[.val (.int p1), .val (.long q2), .second, .val (.long q3), .second, .val (.int en), .val (.int a), .val (.int b), .val (.long cn), .second, .val (.long P), .second, .val (.long (P / (8 : Int64))), .second, .unset, .unset, .unset, .unset, .unset, .unset, .unset, .unset]) rfl kZ) ?_
  show own_R p.tables e below _ (s₁.setTop (mkF m 60 #[.val (.int p1), .val (.long q2), .second, .val (.long q3), .second, .val (.int en), .val (.int a), .val (.int b), .val (.long cn), .second, .val (.long P), .second, .val (.long (P / (8 : Int64))), .second, .unset, .unset, .unset, .unset, .unset, .unset, .unset, .unset] []))
  refine own_by (fun _ kZ => XS.lload X0.here hx rfl (hb hby at_60) rfl kZ) ?_
  show own_R p.tables e below _ (s₁.setTop (mkF m 62 #[.val (.int p1), .val (.long q2), .second, .val (.long q3), .second, .val (.int en), .val (.int a), .val (.int b), .val (.long cn), .second, .val (.long P), .second, .val (.long (P / (8 : Int64))), .second, .unset, .unset, .unset, .unset, .unset, .unset, .unset, .unset] [(.long P)]))
  refine own_by (fun _ kZ => X0.ldc2Long hx hown (mvT hZ (hw _ (List.mem_of_getElem? (i := 1) rfl))) (g := (mkF m 62 #[.val (.int p1), .val (.long q2), .second, .val (.long q3), .second, .val (.int en), .val (.int a), .val (.int b), .val (.long cn), .second, .val (.long P), .second, .val (.long (P / (8 : Int64))), .second, .unset, .unset, .unset, .unset, .unset, .unset, .unset, .unset] [(.long P)])) rfl (hb hby at_62) _ kZ) ?_
  show own_R p.tables e below _ (s₁.setTop (mkF m 65 #[.val (.int p1), .val (.long q2), .second, .val (.long q3), .second, .val (.int en), .val (.int a), .val (.int b), .val (.long cn), .second, .val (.long P), .second, .val (.long (P / (8 : Int64))), .second, .unset, .unset, .unset, .unset, .unset, .unset, .unset, .unset] [(.long (8 : Int64)), (.long P)]))
  refine own_by (fun _ kZ => XS.lrem X0.here hx rfl (hb hby at_65) rfl (by decide) kZ) ?_
  show own_R p.tables e below _ (s₁.setTop (mkF m 66 #[.val (.int p1), .val (.long q2), .second, .val (.long q3), .second, .val (.int en), .val (.int a), .val (.int b), .val (.long cn), .second, .val (.long P), .second, .val (.long (P / (8 : Int64))), .second, .unset, .unset, .unset, .unset, .unset, .unset, .unset, .unset] [(.long (P - (P / (8 : Int64)) * (8 : Int64)))]))
  refine own_by (fun _ kZ => XS.lstore X0.here hx rfl (hb hby at_66) rfl (l' := #[.val (.int p1), .val (.long q2), .second, .val (.long q3), .second, .val (.int en), .val (.int a), .val (.int b), .val (.long cn), .second, .val (.long P), .second, .val (.long (P / (8 : Int64))), .second, .val (.long (P - (P / (8 : Int64)) * (8 : Int64))), .second, .unset, .unset, .unset, .unset, .unset, .unset]) rfl kZ) ?_
  show own_R p.tables e below _ (s₁.setTop (mkF m 68 #[.val (.int p1), .val (.long q2), .second, .val (.long q3), .second, .val (.int en), .val (.int a), .val (.int b), .val (.long cn), .second, .val (.long P), .second, .val (.long (P / (8 : Int64))), .second, .val (.long (P - (P / (8 : Int64)) * (8 : Int64))), .second, .unset, .unset, .unset, .unset, .unset, .unset] []))
  refine own_by (fun _ kZ => XS.lload X0.here hx rfl (hb hby at_68) rfl kZ) ?_
  show own_R p.tables e below _ (s₁.setTop (mkF m 70 #[.val (.int p1), .val (.long q2), .second, .val (.long q3), .second, .val (.int en), .val (.int a), .val (.int b), .val (.long cn), .second, .val (.long P), .second, .val (.long (P / (8 : Int64))), .second, .val (.long (P - (P / (8 : Int64)) * (8 : Int64))), .second, .unset, .unset, .unset, .unset, .unset, .unset] [(.long (P - (P / (8 : Int64)) * (8 : Int64)))]))
  refine own_by (fun _ kZ => XS.lconst X0.here hx rfl (hb hby at_70) kZ) ?_
  show own_R p.tables e below _ (s₁.setTop (mkF m 71 #[.val (.int p1), .val (.long q2), .second, .val (.long q3), .second, .val (.int en), .val (.int a), .val (.int b), .val (.long cn), .second, .val (.long P), .second, .val (.long (P / (8 : Int64))), .second, .val (.long (P - (P / (8 : Int64)) * (8 : Int64))), .second, .unset, .unset, .unset, .unset, .unset, .unset] [(.long (0 : Int64)), (.long (P - (P / (8 : Int64)) * (8 : Int64)))]))
  refine own_by (fun _ kZ => XS.lcmp X0.here hx rfl (hb hby at_71) rfl kZ) ?_
  show own_R p.tables e below _ (s₁.setTop (mkF m 72 #[.val (.int p1), .val (.long q2), .second, .val (.long q3), .second, .val (.int en), .val (.int a), .val (.int b), .val (.long cn), .second, .val (.long P), .second, .val (.long (P / (8 : Int64))), .second, .val (.long (P - (P / (8 : Int64)) * (8 : Int64))), .second, .unset, .unset, .unset, .unset, .unset, .unset] [(.int (lcmpW (P - (P / (8 : Int64)) * (8 : Int64)) (0 : Int64)))]))
  obtain ⟨cl, h_cl⟩ : ∃ z : Int64, z = (if (0 : Int32) < (lcmpW (P - (P / (8 : Int64)) * (8 : Int64)) (0 : Int64)) then ((P / (8 : Int64)) + (1 : Int64)) else (P / (8 : Int64))) := ⟨_, rfl⟩
  refine own_by (S' := s₁.setTop (mkF m 84 #[.val (.int p1), .val (.long q2), .second, .val (.long q3), .second, .val (.int en), .val (.int a), .val (.int b), .val (.long cn), .second, .val (.long P), .second, .val (.long (P / (8 : Int64))), .second, .val (.long (P - (P / (8 : Int64)) * (8 : Int64))), .second, .unset, .unset, .unset, .unset, .unset, .unset] [(.long cl)])) (fun _ kZ => ?_) ?_
  · skip
    show Steps p.tables e below (s₁.setTop (mkF m 72 #[.val (.int p1), .val (.long q2), .second, .val (.long q3), .second, .val (.int en), .val (.int a), .val (.int b), .val (.long cn), .second, .val (.long P), .second, .val (.long (P / (8 : Int64))), .second, .val (.long (P - (P / (8 : Int64)) * (8 : Int64))), .second, .unset, .unset, .unset, .unset, .unset, .unset] [(.int (lcmpW (P - (P / (8 : Int64)) * (8 : Int64)) (0 : Int64)))])) _
    by_cases hd72 : (0 : Int32) < (lcmpW (P - (P / (8 : Int64)) * (8 : Int64)) (0 : Int64))
    · skip
      refine XS.ifNo X0.here hx rfl (hb hby at_72) rfl ((if0 _ _).trans (tlt hd72).2.2.2) ?_
      show Steps p.tables e below (s₁.setTop (mkF m 75 #[.val (.int p1), .val (.long q2), .second, .val (.long q3), .second, .val (.int en), .val (.int a), .val (.int b), .val (.long cn), .second, .val (.long P), .second, .val (.long (P / (8 : Int64))), .second, .val (.long (P - (P / (8 : Int64)) * (8 : Int64))), .second, .unset, .unset, .unset, .unset, .unset, .unset] [])) _
      refine XS.lload X0.here hx rfl (hb hby at_75) rfl ?_
      show Steps p.tables e below (s₁.setTop (mkF m 77 #[.val (.int p1), .val (.long q2), .second, .val (.long q3), .second, .val (.int en), .val (.int a), .val (.int b), .val (.long cn), .second, .val (.long P), .second, .val (.long (P / (8 : Int64))), .second, .val (.long (P - (P / (8 : Int64)) * (8 : Int64))), .second, .unset, .unset, .unset, .unset, .unset, .unset] [(.long (P / (8 : Int64)))])) _
      refine XS.lconst X0.here hx rfl (hb hby at_77) ?_
      show Steps p.tables e below (s₁.setTop (mkF m 78 #[.val (.int p1), .val (.long q2), .second, .val (.long q3), .second, .val (.int en), .val (.int a), .val (.int b), .val (.long cn), .second, .val (.long P), .second, .val (.long (P / (8 : Int64))), .second, .val (.long (P - (P / (8 : Int64)) * (8 : Int64))), .second, .unset, .unset, .unset, .unset, .unset, .unset] [(.long (1 : Int64)), (.long (P / (8 : Int64)))])) _
      refine XS.ladd X0.here hx rfl (hb hby at_78) rfl ?_
      show Steps p.tables e below (s₁.setTop (mkF m 79 #[.val (.int p1), .val (.long q2), .second, .val (.long q3), .second, .val (.int en), .val (.int a), .val (.int b), .val (.long cn), .second, .val (.long P), .second, .val (.long (P / (8 : Int64))), .second, .val (.long (P - (P / (8 : Int64)) * (8 : Int64))), .second, .unset, .unset, .unset, .unset, .unset, .unset] [(.long ((P / (8 : Int64)) + (1 : Int64)))])) _
      refine XS.goto X0.here hx rfl (pc0 := 79) (pc' := 84) rfl (hb hby at_79) (by decide) (by decide) ?_
      show Steps p.tables e below (s₁.setTop (mkF m 84 #[.val (.int p1), .val (.long q2), .second, .val (.long q3), .second, .val (.int en), .val (.int a), .val (.int b), .val (.long cn), .second, .val (.long P), .second, .val (.long (P / (8 : Int64))), .second, .val (.long (P - (P / (8 : Int64)) * (8 : Int64))), .second, .unset, .unset, .unset, .unset, .unset, .unset] [(.long ((P / (8 : Int64)) + (1 : Int64)))])) _
      rw [if_pos hd72] at h_cl
      subst h_cl
      exact kZ
    · skip
      refine XS.ifYes X0.here hx rfl (pc0 := 72) (pc' := 82) rfl (hb hby at_72) rfl ((if0 _ _).trans (flt hd72).2.2.2) (by decide) (by decide) ?_
      show Steps p.tables e below (s₁.setTop (mkF m 82 #[.val (.int p1), .val (.long q2), .second, .val (.long q3), .second, .val (.int en), .val (.int a), .val (.int b), .val (.long cn), .second, .val (.long P), .second, .val (.long (P / (8 : Int64))), .second, .val (.long (P - (P / (8 : Int64)) * (8 : Int64))), .second, .unset, .unset, .unset, .unset, .unset, .unset] [])) _
      refine XS.lload X0.here hx rfl (hb hby at_82) rfl ?_
      show Steps p.tables e below (s₁.setTop (mkF m 84 #[.val (.int p1), .val (.long q2), .second, .val (.long q3), .second, .val (.int en), .val (.int a), .val (.int b), .val (.long cn), .second, .val (.long P), .second, .val (.long (P / (8 : Int64))), .second, .val (.long (P - (P / (8 : Int64)) * (8 : Int64))), .second, .unset, .unset, .unset, .unset, .unset, .unset] [(.long (P / (8 : Int64)))])) _
      rw [if_neg hd72] at h_cl
      subst h_cl
      exact kZ
  show own_R p.tables e below _ (s₁.setTop (mkF m 84 #[.val (.int p1), .val (.long q2), .second, .val (.long q3), .second, .val (.int en), .val (.int a), .val (.int b), .val (.long cn), .second, .val (.long P), .second, .val (.long (P / (8 : Int64))), .second, .val (.long (P - (P / (8 : Int64)) * (8 : Int64))), .second, .unset, .unset, .unset, .unset, .unset, .unset] [(.long cl)]))
  refine own_by (fun _ kZ => XS.lstore X0.here hx rfl (hb hby at_84) rfl (l' := #[.val (.int p1), .val (.long q2), .second, .val (.long q3), .second, .val (.int en), .val (.int a), .val (.int b), .val (.long cn), .second, .val (.long P), .second, .val (.long (P / (8 : Int64))), .second, .val (.long (P - (P / (8 : Int64)) * (8 : Int64))), .second, .val (.long cl), .second, .unset, .unset, .unset, .unset]) rfl kZ) ?_
  show own_R p.tables e below _ (s₁.setTop (mkF m 86 #[.val (.int p1), .val (.long q2), .second, .val (.long q3), .second, .val (.int en), .val (.int a), .val (.int b), .val (.long cn), .second, .val (.long P), .second, .val (.long (P / (8 : Int64))), .second, .val (.long (P - (P / (8 : Int64)) * (8 : Int64))), .second, .val (.long cl), .second, .unset, .unset, .unset, .unset] []))
  refine own_by (fun _ kZ => XS.lloadN X0.here hx rfl (hb hby at_86) rfl kZ) ?_
  show own_R p.tables e below _ (s₁.setTop (mkF m 87 #[.val (.int p1), .val (.long q2), .second, .val (.long q3), .second, .val (.int en), .val (.int a), .val (.int b), .val (.long cn), .second, .val (.long P), .second, .val (.long (P / (8 : Int64))), .second, .val (.long (P - (P / (8 : Int64)) * (8 : Int64))), .second, .val (.long cl), .second, .unset, .unset, .unset, .unset] [(.long q2)]))
  refine own_by (fun _ kZ => XS.lstore X0.here hx rfl (hb hby at_87) rfl (l' := #[.val (.int p1), .val (.long q2), .second, .val (.long q3), .second, .val (.int en), .val (.int a), .val (.int b), .val (.long cn), .second, .val (.long P), .second, .val (.long (P / (8 : Int64))), .second, .val (.long (P - (P / (8 : Int64)) * (8 : Int64))), .second, .val (.long cl), .second, .val (.long q2), .second, .unset, .unset]) rfl kZ) ?_
  show own_R p.tables e below _ (s₁.setTop (mkF m 89 #[.val (.int p1), .val (.long q2), .second, .val (.long q3), .second, .val (.int en), .val (.int a), .val (.int b), .val (.long cn), .second, .val (.long P), .second, .val (.long (P / (8 : Int64))), .second, .val (.long (P - (P / (8 : Int64)) * (8 : Int64))), .second, .val (.long cl), .second, .val (.long q2), .second, .unset, .unset] []))
  refine own_by (fun _ kZ => XS.iloadN X0.here hx rfl (hb hby at_89) rfl kZ) ?_
  show own_R p.tables e below _ (s₁.setTop (mkF m 90 #[.val (.int p1), .val (.long q2), .second, .val (.long q3), .second, .val (.int en), .val (.int a), .val (.int b), .val (.long cn), .second, .val (.long P), .second, .val (.long (P / (8 : Int64))), .second, .val (.long (P - (P / (8 : Int64)) * (8 : Int64))), .second, .val (.long cl), .second, .val (.long q2), .second, .unset, .unset] [(.int p1)]))
  refine own_by (fun _ kZ => XS.bipush X0.here hx rfl (hb hby at_90) kZ) ?_
  show own_R p.tables e below _ (s₁.setTop (mkF m 92 #[.val (.int p1), .val (.long q2), .second, .val (.long q3), .second, .val (.int en), .val (.int a), .val (.int b), .val (.long cn), .second, .val (.long P), .second, .val (.long (P / (8 : Int64))), .second, .val (.long (P - (P / (8 : Int64)) * (8 : Int64))), .second, .val (.long cl), .second, .val (.long q2), .second, .unset, .unset] [(.int (9 : Int32)), (.int p1)]))
  refine own_by (fun _ kZ => XS.iushr X0.here hx rfl (hb hby at_92) rfl kZ) ?_
  show own_R p.tables e below _ (s₁.setTop (mkF m 93 #[.val (.int p1), .val (.long q2), .second, .val (.long q3), .second, .val (.int en), .val (.int a), .val (.int b), .val (.long cn), .second, .val (.long P), .second, .val (.long (P / (8 : Int64))), .second, .val (.long (P - (P / (8 : Int64)) * (8 : Int64))), .second, .val (.long cl), .second, .val (.long q2), .second, .unset, .unset] [(.int ((p1.toUInt32 >>> ((9 : Int32) &&& 31).toUInt32).toInt32))]))
  refine own_by (fun _ kZ => XS.iconst X0.here hx rfl (hb hby at_93) kZ) ?_
  show own_R p.tables e below _ (s₁.setTop (mkF m 94 #[.val (.int p1), .val (.long q2), .second, .val (.long q3), .second, .val (.int en), .val (.int a), .val (.int b), .val (.long cn), .second, .val (.long P), .second, .val (.long (P / (8 : Int64))), .second, .val (.long (P - (P / (8 : Int64)) * (8 : Int64))), .second, .val (.long cl), .second, .val (.long q2), .second, .unset, .unset] [(.int (1 : Int32)), (.int ((p1.toUInt32 >>> ((9 : Int32) &&& 31).toUInt32).toInt32))]))
  refine own_by (fun _ kZ => XS.iand X0.here hx rfl (hb hby at_94) rfl kZ) ?_
  show own_R p.tables e below _ (s₁.setTop (mkF m 95 #[.val (.int p1), .val (.long q2), .second, .val (.long q3), .second, .val (.int en), .val (.int a), .val (.int b), .val (.long cn), .second, .val (.long P), .second, .val (.long (P / (8 : Int64))), .second, .val (.long (P - (P / (8 : Int64)) * (8 : Int64))), .second, .val (.long cl), .second, .val (.long q2), .second, .unset, .unset] [(.int (((p1.toUInt32 >>> ((9 : Int32) &&& 31).toUInt32).toInt32) &&& (1 : Int32)))]))
  obtain ⟨sv, h_sv⟩ : ∃ z : Int64, z = (if (((p1.toUInt32 >>> ((9 : Int32) &&& 31).toUInt32).toInt32) &&& (1 : Int32)) = (0 : Int32) then q2 else (cl + (((((p1.toUInt32 >>> ((10 : Int32) &&& 31).toUInt32).toInt32) &&& (7 : Int32)) - (4 : Int32)).toInt64))) := ⟨_, rfl⟩
  refine own_by (S' := s₁.setTop (mkF m 113 #[.val (.int p1), .val (.long q2), .second, .val (.long q3), .second, .val (.int en), .val (.int a), .val (.int b), .val (.long cn), .second, .val (.long P), .second, .val (.long (P / (8 : Int64))), .second, .val (.long (P - (P / (8 : Int64)) * (8 : Int64))), .second, .val (.long cl), .second, .val (.long sv), .second, .unset, .unset] [])) (fun _ kZ => ?_) ?_
  · skip
    show Steps p.tables e below (s₁.setTop (mkF m 95 #[.val (.int p1), .val (.long q2), .second, .val (.long q3), .second, .val (.int en), .val (.int a), .val (.int b), .val (.long cn), .second, .val (.long P), .second, .val (.long (P / (8 : Int64))), .second, .val (.long (P - (P / (8 : Int64)) * (8 : Int64))), .second, .val (.long cl), .second, .val (.long q2), .second, .unset, .unset] [(.int (((p1.toUInt32 >>> ((9 : Int32) &&& 31).toUInt32).toInt32) &&& (1 : Int32)))])) _
    by_cases hd95 : (((p1.toUInt32 >>> ((9 : Int32) &&& 31).toUInt32).toInt32) &&& (1 : Int32)) = (0 : Int32)
    · skip
      refine XS.ifYes X0.here hx rfl (pc0 := 95) (pc' := 113) rfl (hb hby at_95) rfl ((if0 _ _).trans (teq hd95).1) (by decide) (by decide) ?_
      show Steps p.tables e below (s₁.setTop (mkF m 113 #[.val (.int p1), .val (.long q2), .second, .val (.long q3), .second, .val (.int en), .val (.int a), .val (.int b), .val (.long cn), .second, .val (.long P), .second, .val (.long (P / (8 : Int64))), .second, .val (.long (P - (P / (8 : Int64)) * (8 : Int64))), .second, .val (.long cl), .second, .val (.long q2), .second, .unset, .unset] [])) _
      rw [if_pos hd95] at h_sv
      subst h_sv
      exact kZ
    · skip
      refine XS.ifNo X0.here hx rfl (hb hby at_95) rfl ((if0 _ _).trans (feq hd95).1) ?_
      show Steps p.tables e below (s₁.setTop (mkF m 98 #[.val (.int p1), .val (.long q2), .second, .val (.long q3), .second, .val (.int en), .val (.int a), .val (.int b), .val (.long cn), .second, .val (.long P), .second, .val (.long (P / (8 : Int64))), .second, .val (.long (P - (P / (8 : Int64)) * (8 : Int64))), .second, .val (.long cl), .second, .val (.long q2), .second, .unset, .unset] [])) _
      refine XS.lload X0.here hx rfl (hb hby at_98) rfl ?_
      show Steps p.tables e below (s₁.setTop (mkF m 100 #[.val (.int p1), .val (.long q2), .second, .val (.long q3), .second, .val (.int en), .val (.int a), .val (.int b), .val (.long cn), .second, .val (.long P), .second, .val (.long (P / (8 : Int64))), .second, .val (.long (P - (P / (8 : Int64)) * (8 : Int64))), .second, .val (.long cl), .second, .val (.long q2), .second, .unset, .unset] [(.long cl)])) _
      refine XS.iloadN X0.here hx rfl (hb hby at_100) rfl ?_
      show Steps p.tables e below (s₁.setTop (mkF m 101 #[.val (.int p1), .val (.long q2), .second, .val (.long q3), .second, .val (.int en), .val (.int a), .val (.int b), .val (.long cn), .second, .val (.long P), .second, .val (.long (P / (8 : Int64))), .second, .val (.long (P - (P / (8 : Int64)) * (8 : Int64))), .second, .val (.long cl), .second, .val (.long q2), .second, .unset, .unset] [(.int p1), (.long cl)])) _
      refine XS.bipush X0.here hx rfl (hb hby at_101) ?_
      show Steps p.tables e below (s₁.setTop (mkF m 103 #[.val (.int p1), .val (.long q2), .second, .val (.long q3), .second, .val (.int en), .val (.int a), .val (.int b), .val (.long cn), .second, .val (.long P), .second, .val (.long (P / (8 : Int64))), .second, .val (.long (P - (P / (8 : Int64)) * (8 : Int64))), .second, .val (.long cl), .second, .val (.long q2), .second, .unset, .unset] [(.int (10 : Int32)), (.int p1), (.long cl)])) _
      refine XS.iushr X0.here hx rfl (hb hby at_103) rfl ?_
      show Steps p.tables e below (s₁.setTop (mkF m 104 #[.val (.int p1), .val (.long q2), .second, .val (.long q3), .second, .val (.int en), .val (.int a), .val (.int b), .val (.long cn), .second, .val (.long P), .second, .val (.long (P / (8 : Int64))), .second, .val (.long (P - (P / (8 : Int64)) * (8 : Int64))), .second, .val (.long cl), .second, .val (.long q2), .second, .unset, .unset] [(.int ((p1.toUInt32 >>> ((10 : Int32) &&& 31).toUInt32).toInt32)), (.long cl)])) _
      refine XS.bipush X0.here hx rfl (hb hby at_104) ?_
      show Steps p.tables e below (s₁.setTop (mkF m 106 #[.val (.int p1), .val (.long q2), .second, .val (.long q3), .second, .val (.int en), .val (.int a), .val (.int b), .val (.long cn), .second, .val (.long P), .second, .val (.long (P / (8 : Int64))), .second, .val (.long (P - (P / (8 : Int64)) * (8 : Int64))), .second, .val (.long cl), .second, .val (.long q2), .second, .unset, .unset] [(.int (7 : Int32)), (.int ((p1.toUInt32 >>> ((10 : Int32) &&& 31).toUInt32).toInt32)), (.long cl)])) _
      refine XS.iand X0.here hx rfl (hb hby at_106) rfl ?_
      show Steps p.tables e below (s₁.setTop (mkF m 107 #[.val (.int p1), .val (.long q2), .second, .val (.long q3), .second, .val (.int en), .val (.int a), .val (.int b), .val (.long cn), .second, .val (.long P), .second, .val (.long (P / (8 : Int64))), .second, .val (.long (P - (P / (8 : Int64)) * (8 : Int64))), .second, .val (.long cl), .second, .val (.long q2), .second, .unset, .unset] [(.int (((p1.toUInt32 >>> ((10 : Int32) &&& 31).toUInt32).toInt32) &&& (7 : Int32))), (.long cl)])) _
      refine XS.iconst X0.here hx rfl (hb hby at_107) ?_
      show Steps p.tables e below (s₁.setTop (mkF m 108 #[.val (.int p1), .val (.long q2), .second, .val (.long q3), .second, .val (.int en), .val (.int a), .val (.int b), .val (.long cn), .second, .val (.long P), .second, .val (.long (P / (8 : Int64))), .second, .val (.long (P - (P / (8 : Int64)) * (8 : Int64))), .second, .val (.long cl), .second, .val (.long q2), .second, .unset, .unset] [(.int (4 : Int32)), (.int (((p1.toUInt32 >>> ((10 : Int32) &&& 31).toUInt32).toInt32) &&& (7 : Int32))), (.long cl)])) _
      refine XS.isub X0.here hx rfl (hb hby at_108) rfl ?_
      show Steps p.tables e below (s₁.setTop (mkF m 109 #[.val (.int p1), .val (.long q2), .second, .val (.long q3), .second, .val (.int en), .val (.int a), .val (.int b), .val (.long cn), .second, .val (.long P), .second, .val (.long (P / (8 : Int64))), .second, .val (.long (P - (P / (8 : Int64)) * (8 : Int64))), .second, .val (.long cl), .second, .val (.long q2), .second, .unset, .unset] [(.int ((((p1.toUInt32 >>> ((10 : Int32) &&& 31).toUInt32).toInt32) &&& (7 : Int32)) - (4 : Int32))), (.long cl)])) _
      refine XS.i2l X0.here hx rfl (hb hby at_109) rfl ?_
      show Steps p.tables e below (s₁.setTop (mkF m 110 #[.val (.int p1), .val (.long q2), .second, .val (.long q3), .second, .val (.int en), .val (.int a), .val (.int b), .val (.long cn), .second, .val (.long P), .second, .val (.long (P / (8 : Int64))), .second, .val (.long (P - (P / (8 : Int64)) * (8 : Int64))), .second, .val (.long cl), .second, .val (.long q2), .second, .unset, .unset] [(.long (((((p1.toUInt32 >>> ((10 : Int32) &&& 31).toUInt32).toInt32) &&& (7 : Int32)) - (4 : Int32)).toInt64)), (.long cl)])) _
      refine XS.ladd X0.here hx rfl (hb hby at_110) rfl ?_
      show Steps p.tables e below (s₁.setTop (mkF m 111 #[.val (.int p1), .val (.long q2), .second, .val (.long q3), .second, .val (.int en), .val (.int a), .val (.int b), .val (.long cn), .second, .val (.long P), .second, .val (.long (P / (8 : Int64))), .second, .val (.long (P - (P / (8 : Int64)) * (8 : Int64))), .second, .val (.long cl), .second, .val (.long q2), .second, .unset, .unset] [(.long (cl + (((((p1.toUInt32 >>> ((10 : Int32) &&& 31).toUInt32).toInt32) &&& (7 : Int32)) - (4 : Int32)).toInt64)))])) _
      refine XS.lstore X0.here hx rfl (hb hby at_111) rfl (l' := #[.val (.int p1), .val (.long q2), .second, .val (.long q3), .second, .val (.int en), .val (.int a), .val (.int b), .val (.long cn), .second, .val (.long P), .second, .val (.long (P / (8 : Int64))), .second, .val (.long (P - (P / (8 : Int64)) * (8 : Int64))), .second, .val (.long cl), .second, .val (.long (cl + (((((p1.toUInt32 >>> ((10 : Int32) &&& 31).toUInt32).toInt32) &&& (7 : Int32)) - (4 : Int32)).toInt64))), .second, .unset, .unset]) rfl ?_
      show Steps p.tables e below (s₁.setTop (mkF m 113 #[.val (.int p1), .val (.long q2), .second, .val (.long q3), .second, .val (.int en), .val (.int a), .val (.int b), .val (.long cn), .second, .val (.long P), .second, .val (.long (P / (8 : Int64))), .second, .val (.long (P - (P / (8 : Int64)) * (8 : Int64))), .second, .val (.long cl), .second, .val (.long (cl + (((((p1.toUInt32 >>> ((10 : Int32) &&& 31).toUInt32).toInt32) &&& (7 : Int32)) - (4 : Int32)).toInt64))), .second, .unset, .unset] [])) _
      rw [if_neg hd95] at h_sv
      subst h_sv
      exact kZ
  show own_R p.tables e below _ (s₁.setTop (mkF m 113 #[.val (.int p1), .val (.long q2), .second, .val (.long q3), .second, .val (.int en), .val (.int a), .val (.int b), .val (.long cn), .second, .val (.long P), .second, .val (.long (P / (8 : Int64))), .second, .val (.long (P - (P / (8 : Int64)) * (8 : Int64))), .second, .val (.long cl), .second, .val (.long sv), .second, .unset, .unset] []))
  obtain ⟨T25, h25, X25, e25, E25, A25, D25, -, st25⟩ := newO X0 hx hZ hown (hw _ (List.mem_of_getElem? (i := 2) rfl)) (hw _ (List.mem_of_getElem? (i := 3) rfl)) (hw _ (List.mem_of_getElem? (i := 4) rfl)) e0 (g := (mkF m 113 #[.val (.int p1), .val (.long q2), .second, .val (.long q3), .second, .val (.int en), .val (.int a), .val (.int b), .val (.long cn), .second, .val (.long P), .second, .val (.long (P / (8 : Int64))), .second, .val (.long (P - (P / (8 : Int64)) * (8 : Int64))), .second, .val (.long cl), .second, .val (.long sv), .second, .unset, .unset] [])) rfl (hb hby at_113) (by decide) (by decide)
  obtain ⟨bo, g25⟩ : ∃ z, z = h0.size := ⟨_, rfl⟩
  have ge_bo : n0 ≤ bo := Nat.le_trans Z0 (Nat.le_of_eq g25.symm)
  rw [← g25] at A25 D25 st25
  have Z26 : n0 ≤ h25.size := Nat.le_trans Z0 E25.1
  have F25_enabled : Fld Z h25 bo "com/example/ordinal/ordinal/core/Adaptation" "enabled" "Z" (.int (0 : Int32)) := D25 (Or.inr (hw _ (List.mem_of_getElem? (i := 27) rfl))) (ty := .boolean) (by decide)
  have F25_alpha : Fld Z h25 bo "com/example/ordinal/ordinal/core/Adaptation" "alpha" "D" (.double (0 : UInt64)) := D25 (Or.inr (hw _ (List.mem_of_getElem? (i := 29) rfl))) (ty := .double) (by decide)
  have F25_beta : Fld Z h25 bo "com/example/ordinal/ordinal/core/Adaptation" "beta" "D" (.double (0 : UInt64)) := D25 (Or.inr (hw _ (List.mem_of_getElem? (i := 31) rfl))) (ty := .double) (by decide)
  refine own_by st25 ?_
  show own_R p.tables e below _ (T25.setTop (mkF m 116 #[.val (.int p1), .val (.long q2), .second, .val (.long q3), .second, .val (.int en), .val (.int a), .val (.int b), .val (.long cn), .second, .val (.long P), .second, .val (.long (P / (8 : Int64))), .second, .val (.long (P - (P / (8 : Int64)) * (8 : Int64))), .second, .val (.long cl), .second, .val (.long sv), .second, .unset, .unset] [(.ref bo)]))
  refine own_by (fun _ kZ => XS.dup X25.here hx rfl (hb hby at_116) rfl rfl kZ) ?_
  show own_R p.tables e below _ (T25.setTop (mkF m 117 #[.val (.int p1), .val (.long q2), .second, .val (.long q3), .second, .val (.int en), .val (.int a), .val (.int b), .val (.long cn), .second, .val (.long P), .second, .val (.long (P / (8 : Int64))), .second, .val (.long (P - (P / (8 : Int64)) * (8 : Int64))), .second, .val (.long cl), .second, .val (.long sv), .second, .unset, .unset] [(.ref bo), (.ref bo)]))
  refine own_by (fun _ kZ => XS.iload X25.here hx rfl (hb hby at_117) rfl kZ) ?_
  show own_R p.tables e below _ (T25.setTop (mkF m 119 #[.val (.int p1), .val (.long q2), .second, .val (.long q3), .second, .val (.int en), .val (.int a), .val (.int b), .val (.long cn), .second, .val (.long P), .second, .val (.long (P / (8 : Int64))), .second, .val (.long (P - (P / (8 : Int64)) * (8 : Int64))), .second, .val (.long cl), .second, .val (.long sv), .second, .unset, .unset] [(.int en), (.ref bo), (.ref bo)]))
  refine own_by (fun _ kZ => XS.iload X25.here hx rfl (hb hby at_119) rfl kZ) ?_
  show own_R p.tables e below _ (T25.setTop (mkF m 121 #[.val (.int p1), .val (.long q2), .second, .val (.long q3), .second, .val (.int en), .val (.int a), .val (.int b), .val (.long cn), .second, .val (.long P), .second, .val (.long (P / (8 : Int64))), .second, .val (.long (P - (P / (8 : Int64)) * (8 : Int64))), .second, .val (.long cl), .second, .val (.long sv), .second, .unset, .unset] [(.int a), (.int en), (.ref bo), (.ref bo)]))
  refine own_by (fun _ kZ => own_i2d X25.here hx rfl (hb hby at_121) rfl kZ) ?_
  show own_R p.tables e below _ (T25.setTop (mkF m 122 #[.val (.int p1), .val (.long q2), .second, .val (.long q3), .second, .val (.int en), .val (.int a), .val (.int b), .val (.long cn), .second, .val (.long P), .second, .val (.long (P / (8 : Int64))), .second, .val (.long (P - (P / (8 : Int64)) * (8 : Int64))), .second, .val (.long cl), .second, .val (.long sv), .second, .unset, .unset] [(.double (FP.i2d a)), (.int en), (.ref bo), (.ref bo)]))
  refine own_by (fun _ kZ => XS.iload X25.here hx rfl (hb hby at_122) rfl kZ) ?_
  show own_R p.tables e below _ (T25.setTop (mkF m 124 #[.val (.int p1), .val (.long q2), .second, .val (.long q3), .second, .val (.int en), .val (.int a), .val (.int b), .val (.long cn), .second, .val (.long P), .second, .val (.long (P / (8 : Int64))), .second, .val (.long (P - (P / (8 : Int64)) * (8 : Int64))), .second, .val (.long cl), .second, .val (.long sv), .second, .unset, .unset] [(.int b), (.double (FP.i2d a)), (.int en), (.ref bo), (.ref bo)]))
  refine own_by (fun _ kZ => own_i2d X25.here hx rfl (hb hby at_124) rfl kZ) ?_
  show own_R p.tables e below _ (T25.setTop (mkF m 125 #[.val (.int p1), .val (.long q2), .second, .val (.long q3), .second, .val (.int en), .val (.int a), .val (.int b), .val (.long cn), .second, .val (.long P), .second, .val (.long (P / (8 : Int64))), .second, .val (.long (P - (P / (8 : Int64)) * (8 : Int64))), .second, .val (.long cl), .second, .val (.long sv), .second, .unset, .unset] [(.double (FP.i2d b)), (.double (FP.i2d a)), (.int en), (.ref bo), (.ref bo)]))
  refine own_by (fun _ kZ => X25.ldc2DoubleC hx hown (mvT hZ (hw _ (List.mem_of_getElem? (i := 5) rfl))) (g := (mkF m 125 #[.val (.int p1), .val (.long q2), .second, .val (.long q3), .second, .val (.int en), .val (.int a), .val (.int b), .val (.long cn), .second, .val (.long P), .second, .val (.long (P / (8 : Int64))), .second, .val (.long (P - (P / (8 : Int64)) * (8 : Int64))), .second, .val (.long cl), .second, .val (.long sv), .second, .unset, .unset] [(.double (FP.i2d b)), (.double (FP.i2d a)), (.int en), (.ref bo), (.ref bo)])) rfl (hb hby at_125) _ kZ) ?_
  show own_R p.tables e below _ (T25.setTop (mkF m 128 #[.val (.int p1), .val (.long q2), .second, .val (.long q3), .second, .val (.int en), .val (.int a), .val (.int b), .val (.long cn), .second, .val (.long P), .second, .val (.long (P / (8 : Int64))), .second, .val (.long (P - (P / (8 : Int64)) * (8 : Int64))), .second, .val (.long cl), .second, .val (.long sv), .second, .unset, .unset] [(.double (4616189618054758400 : UInt64)), (.double (FP.i2d b)), (.double (FP.i2d a)), (.int en), (.ref bo), (.ref bo)]))
  refine own_by (fun _ kZ => own_ddiv X25.here hx rfl (hb hby at_128) rfl (own_no (own_beta b hbb).1) kZ) ?_
  show own_R p.tables e below _ (T25.setTop (mkF m 129 #[.val (.int p1), .val (.long q2), .second, .val (.long q3), .second, .val (.int en), .val (.int a), .val (.int b), .val (.long cn), .second, .val (.long P), .second, .val (.long (P / (8 : Int64))), .second, .val (.long (P - (P / (8 : Int64)) * (8 : Int64))), .second, .val (.long cl), .second, .val (.long sv), .second, .unset, .unset] [(.double (FP.ddiv (FP.i2d b) (4616189618054758400 : UInt64))), (.double (FP.i2d a)), (.int en), (.ref bo), (.ref bo)]))
  show own_R p.tables e below _ (T25.setTop (mkF m 129 #[.val (.int p1), .val (.long q2), .second, .val (.long q3), .second, .val (.int en), .val (.int a), .val (.int b), .val (.long cn), .second, .val (.long P), .second, .val (.long (P / (8 : Int64))), .second, .val (.long (P - (P / (8 : Int64)) * (8 : Int64))), .second, .val (.long cl), .second, .val (.long sv), .second, .unset, .unset] [(.double (own_bt b)), (.double (FP.i2d a)), (.int en), (.ref bo), (.ref bo)]))
  obtain ⟨_, _, ⟨T27, L27, k27, n27⟩, -, X27, ⟨Lc27, hQ27, l27, y27, z27⟩, st27⟩ := X25.specialBack hx (y := (⟨"com/example/ordinal/ordinal/core/Adaptation", "<init>", "(ZDD)V"⟩ : MethodName)) rfl hown (mvT hZ (hw _ (List.mem_of_getElem? (i := 6) rfl))) (mvT hZ (hw _ (List.mem_of_getElem? (i := 7) rfl))) (mvT hZ (hw _ (List.mem_of_getElem? (i := 8) rfl))) (by decide) (backOf (W := 1) (rm1 l Z a0 hw [] bo en (FP.i2d a) (own_bt b) h25 n0 Z26 ge_bo (FP.Core.i2d_fin a) (own_beta b hbb).1 (own_alpha a ha) (own_bnn b hbb) A25 F25_enabled F25_alpha F25_beta) hZ (hw _ (List.mem_of_getElem? (i := 8) rfl)) (hw _ (List.mem_of_getElem? (i := 4) rfl)) (by decide) (by decide)) (g := (mkF m 129 #[.val (.int p1), .val (.long q2), .second, .val (.long q3), .second, .val (.int en), .val (.int a), .val (.int b), .val (.long cn), .second, .val (.long P), .second, .val (.long (P / (8 : Int64))), .second, .val (.long (P - (P / (8 : Int64)) * (8 : Int64))), .second, .val (.long cl), .second, .val (.long sv), .second, .unset, .unset] [(.double (own_bt b)), (.double (FP.i2d a)), (.int en), (.ref bo), (.ref bo)])) rfl (by rw [hml]; rfl) (Steps.refl _) (a := bo) (argsL := [(.int en), (.double (FP.i2d a)), (.double (own_bt b))]) (rest := [(.ref bo)]) (lenOf own_pd3 rfl) rfl (by show 2 * 0 + _ ≤ _; exact Nat.le_of_eq rfl) (hb hby at_129) (fun _ _ => ⟨rfl, e25, (by decide : 1 + 0 ≤ _), (by decide : 3 + 0 ≤ _)⟩)
  dsimp only [Pt.U, Pt.locs, Pt.cells, Pt.slots] at X27 l27 y27 z27 st27 hQ27
  subst l27 y27 z27
  obtain ⟨rfl, Nq27, K27, Fb27⟩ := hQ27
  have N27 := Fr.app N0 Nq27
  have f28_bo : Exa Z T27.heap bo "com/example/ordinal/ordinal/core/Adaptation" := A25.keep K27
  have Z29 : n0 ≤ T27.heap.size := Nat.le_trans Z26 K27.1
  refine own_by (fun _ kZ => st27.trans kZ) ?_
  show own_R p.tables e below _ (T27.setTop (mkF m 132 #[.val (.int p1), .val (.long q2), .second, .val (.long q3), .second, .val (.int en), .val (.int a), .val (.int b), .val (.long cn), .second, .val (.long P), .second, .val (.long (P / (8 : Int64))), .second, .val (.long (P - (P / (8 : Int64)) * (8 : Int64))), .second, .val (.long cl), .second, .val (.long sv), .second, .unset, .unset] [(.ref bo)]))
  refine own_by (fun _ kZ => XS.astore X27.here hx rfl (hb hby at_132) rfl rfl (l' := #[.val (.int p1), .val (.long q2), .second, .val (.long q3), .second, .val (.int en), .val (.int a), .val (.int b), .val (.long cn), .second, .val (.long P), .second, .val (.long (P / (8 : Int64))), .second, .val (.long (P - (P / (8 : Int64)) * (8 : Int64))), .second, .val (.long cl), .second, .val (.long sv), .second, .val (.ref bo), .unset]) rfl kZ) ?_
  show own_R p.tables e below _ (T27.setTop (mkF m 134 #[.val (.int p1), .val (.long q2), .second, .val (.long q3), .second, .val (.int en), .val (.int a), .val (.int b), .val (.long cn), .second, .val (.long P), .second, .val (.long (P / (8 : Int64))), .second, .val (.long (P - (P / (8 : Int64)) * (8 : Int64))), .second, .val (.long cl), .second, .val (.long sv), .second, .val (.ref bo), .unset] []))
  refine own_by (fun _ kZ => XS.lload X27.here hx rfl (hb hby at_134) rfl kZ) ?_
  show own_R p.tables e below _ (T27.setTop (mkF m 136 #[.val (.int p1), .val (.long q2), .second, .val (.long q3), .second, .val (.int en), .val (.int a), .val (.int b), .val (.long cn), .second, .val (.long P), .second, .val (.long (P / (8 : Int64))), .second, .val (.long (P - (P / (8 : Int64)) * (8 : Int64))), .second, .val (.long cl), .second, .val (.long sv), .second, .val (.ref bo), .unset] [(.long sv)]))
  refine own_by (fun _ kZ => XS.lload X27.here hx rfl (hb hby at_136) rfl kZ) ?_
  show own_R p.tables e below _ (T27.setTop (mkF m 138 #[.val (.int p1), .val (.long q2), .second, .val (.long q3), .second, .val (.int en), .val (.int a), .val (.int b), .val (.long cn), .second, .val (.long P), .second, .val (.long (P / (8 : Int64))), .second, .val (.long (P - (P / (8 : Int64)) * (8 : Int64))), .second, .val (.long cl), .second, .val (.long sv), .second, .val (.ref bo), .unset] [(.long cl), (.long sv)]))
  refine own_by (fun _ kZ => XS.lcmp X27.here hx rfl (hb hby at_138) rfl kZ) ?_
  show own_R p.tables e below _ (T27.setTop (mkF m 139 #[.val (.int p1), .val (.long q2), .second, .val (.long q3), .second, .val (.int en), .val (.int a), .val (.int b), .val (.long cn), .second, .val (.long P), .second, .val (.long (P / (8 : Int64))), .second, .val (.long (P - (P / (8 : Int64)) * (8 : Int64))), .second, .val (.long cl), .second, .val (.long sv), .second, .val (.ref bo), .unset] [(.int (lcmpW sv cl))]))
  obtain ⟨ex, h_ex⟩ : ∃ z : Int32, z = (if (lcmpW sv cl) < (0 : Int32) then (0 : Int32) else (1 : Int32)) := ⟨_, rfl⟩
  refine own_by (S' := T27.setTop (mkF m 147 #[.val (.int p1), .val (.long q2), .second, .val (.long q3), .second, .val (.int en), .val (.int a), .val (.int b), .val (.long cn), .second, .val (.long P), .second, .val (.long (P / (8 : Int64))), .second, .val (.long (P - (P / (8 : Int64)) * (8 : Int64))), .second, .val (.long cl), .second, .val (.long sv), .second, .val (.ref bo), .unset] [(.int ex)])) (fun _ kZ => ?_) ?_
  · skip
    show Steps p.tables e below (T27.setTop (mkF m 139 #[.val (.int p1), .val (.long q2), .second, .val (.long q3), .second, .val (.int en), .val (.int a), .val (.int b), .val (.long cn), .second, .val (.long P), .second, .val (.long (P / (8 : Int64))), .second, .val (.long (P - (P / (8 : Int64)) * (8 : Int64))), .second, .val (.long cl), .second, .val (.long sv), .second, .val (.ref bo), .unset] [(.int (lcmpW sv cl))])) _
    by_cases hd139 : (lcmpW sv cl) < (0 : Int32)
    · skip
      refine XS.ifYes X27.here hx rfl (pc0 := 139) (pc' := 146) rfl (hb hby at_139) rfl ((if0 _ _).trans (tlt hd139).1) (by decide) (by decide) ?_
      show Steps p.tables e below (T27.setTop (mkF m 146 #[.val (.int p1), .val (.long q2), .second, .val (.long q3), .second, .val (.int en), .val (.int a), .val (.int b), .val (.long cn), .second, .val (.long P), .second, .val (.long (P / (8 : Int64))), .second, .val (.long (P - (P / (8 : Int64)) * (8 : Int64))), .second, .val (.long cl), .second, .val (.long sv), .second, .val (.ref bo), .unset] [])) _
      refine XS.iconst X27.here hx rfl (hb hby at_146) ?_
      show Steps p.tables e below (T27.setTop (mkF m 147 #[.val (.int p1), .val (.long q2), .second, .val (.long q3), .second, .val (.int en), .val (.int a), .val (.int b), .val (.long cn), .second, .val (.long P), .second, .val (.long (P / (8 : Int64))), .second, .val (.long (P - (P / (8 : Int64)) * (8 : Int64))), .second, .val (.long cl), .second, .val (.long sv), .second, .val (.ref bo), .unset] [(.int (0 : Int32))])) _
      rw [if_pos hd139] at h_ex
      subst h_ex
      exact kZ
    · skip
      refine XS.ifNo X27.here hx rfl (hb hby at_139) rfl ((if0 _ _).trans (flt hd139).1) ?_
      show Steps p.tables e below (T27.setTop (mkF m 142 #[.val (.int p1), .val (.long q2), .second, .val (.long q3), .second, .val (.int en), .val (.int a), .val (.int b), .val (.long cn), .second, .val (.long P), .second, .val (.long (P / (8 : Int64))), .second, .val (.long (P - (P / (8 : Int64)) * (8 : Int64))), .second, .val (.long cl), .second, .val (.long sv), .second, .val (.ref bo), .unset] [])) _
      refine XS.iconst X27.here hx rfl (hb hby at_142) ?_
      show Steps p.tables e below (T27.setTop (mkF m 143 #[.val (.int p1), .val (.long q2), .second, .val (.long q3), .second, .val (.int en), .val (.int a), .val (.int b), .val (.long cn), .second, .val (.long P), .second, .val (.long (P / (8 : Int64))), .second, .val (.long (P - (P / (8 : Int64)) * (8 : Int64))), .second, .val (.long cl), .second, .val (.long sv), .second, .val (.ref bo), .unset] [(.int (1 : Int32))])) _
      refine XS.goto X27.here hx rfl (pc0 := 143) (pc' := 147) rfl (hb hby at_143) (by decide) (by decide) ?_
      show Steps p.tables e below (T27.setTop (mkF m 147 #[.val (.int p1), .val (.long q2), .second, .val (.long q3), .second, .val (.int en), .val (.int a), .val (.int b), .val (.long cn), .second, .val (.long P), .second, .val (.long (P / (8 : Int64))), .second, .val (.long (P - (P / (8 : Int64)) * (8 : Int64))), .second, .val (.long cl), .second, .val (.long sv), .second, .val (.ref bo), .unset] [(.int (1 : Int32))])) _
      rw [if_neg hd139] at h_ex
      subst h_ex
      exact kZ
  show own_R p.tables e below _ (T27.setTop (mkF m 147 #[.val (.int p1), .val (.long q2), .second, .val (.long q3), .second, .val (.int en), .val (.int a), .val (.int b), .val (.long cn), .second, .val (.long P), .second, .val (.long (P / (8 : Int64))), .second, .val (.long (P - (P / (8 : Int64)) * (8 : Int64))), .second, .val (.long cl), .second, .val (.long sv), .second, .val (.ref bo), .unset] [(.int ex)]))
  refine own_by (fun _ kZ => XS.istore X27.here hx rfl (hb hby at_147) rfl (l' := #[.val (.int p1), .val (.long q2), .second, .val (.long q3), .second, .val (.int en), .val (.int a), .val (.int b), .val (.long cn), .second, .val (.long P), .second, .val (.long (P / (8 : Int64))), .second, .val (.long (P - (P / (8 : Int64)) * (8 : Int64))), .second, .val (.long cl), .second, .val (.long sv), .second, .val (.ref bo), .val (.int ex)]) rfl kZ) ?_
  show own_R p.tables e below _ (T27.setTop (mkF m 149 #[.val (.int p1), .val (.long q2), .second, .val (.long q3), .second, .val (.int en), .val (.int a), .val (.int b), .val (.long cn), .second, .val (.long P), .second, .val (.long (P / (8 : Int64))), .second, .val (.long (P - (P / (8 : Int64)) * (8 : Int64))), .second, .val (.long cl), .second, .val (.long sv), .second, .val (.ref bo), .val (.int ex)] []))
  refine own_by (fun _ kZ => XS.aload X27.here hx rfl (hb hby at_149) rfl rfl kZ) ?_
  show own_R p.tables e below _ (T27.setTop (mkF m 151 #[.val (.int p1), .val (.long q2), .second, .val (.long q3), .second, .val (.int en), .val (.int a), .val (.int b), .val (.long cn), .second, .val (.long P), .second, .val (.long (P / (8 : Int64))), .second, .val (.long (P - (P / (8 : Int64)) * (8 : Int64))), .second, .val (.long cl), .second, .val (.long sv), .second, .val (.ref bo), .val (.int ex)] [(.ref bo)]))
  refine own_by (fun _ kZ => XS.lload X27.here hx rfl (hb hby at_151) rfl kZ) ?_
  show own_R p.tables e below _ (T27.setTop (mkF m 153 #[.val (.int p1), .val (.long q2), .second, .val (.long q3), .second, .val (.int en), .val (.int a), .val (.int b), .val (.long cn), .second, .val (.long P), .second, .val (.long (P / (8 : Int64))), .second, .val (.long (P - (P / (8 : Int64)) * (8 : Int64))), .second, .val (.long cl), .second, .val (.long sv), .second, .val (.ref bo), .val (.int ex)] [(.long sv), (.ref bo)]))
  refine own_by (fun _ kZ => XS.lload X27.here hx rfl (hb hby at_153) rfl kZ) ?_
  show own_R p.tables e below _ (T27.setTop (mkF m 155 #[.val (.int p1), .val (.long q2), .second, .val (.long q3), .second, .val (.int en), .val (.int a), .val (.int b), .val (.long cn), .second, .val (.long P), .second, .val (.long (P / (8 : Int64))), .second, .val (.long (P - (P / (8 : Int64)) * (8 : Int64))), .second, .val (.long cl), .second, .val (.long sv), .second, .val (.ref bo), .val (.int ex)] [(.long cn), (.long sv), (.ref bo)]))
  obtain ⟨cq30, kq30, q30a, q30b, q30c⟩ := isOf hZ rfl f28_bo
  obtain ⟨_, _, ⟨T30, L30, k30, n30⟩, -, X30, ⟨Lc30, hQ30, l30, y30, z30⟩, st30⟩ := X27.virtualBack hx (y := (⟨"com/example/ordinal/ordinal/core/Adaptation", "worthSwapping", "(JJ)Z"⟩ : MethodName)) (z := (⟨"com/example/ordinal/ordinal/core/Adaptation", "worthSwapping", "(JJ)Z"⟩ : MethodName)) hown (mvT hZ (hw _ (List.mem_of_getElem? (i := 32) rfl))) (mvT hZ (hw _ (List.mem_of_getElem? (i := 33) rfl))) (notFace_of_selects (args := #[]) (mvT hZ (hw _ (List.mem_of_getElem? (i := 35) rfl)))) (mvT hZ (hw _ (List.mem_of_getElem? (i := 35) rfl))) (mvT hZ (hw _ (List.mem_of_getElem? (i := 34) rfl))) (by decide) (backOf (W := 0) (rm6 l Z a0 hw [] bo sv cn b T27.heap n0 Z29 hbb hc Fb27) hZ (hw _ (List.mem_of_getElem? (i := 36) rfl)) (hw _ (List.mem_of_getElem? (i := 4) rfl)) (by decide) (by decide)) q30a q30c (g := (mkF m 155 #[.val (.int p1), .val (.long q2), .second, .val (.long q3), .second, .val (.int en), .val (.int a), .val (.int b), .val (.long cn), .second, .val (.long P), .second, .val (.long (P / (8 : Int64))), .second, .val (.long (P - (P / (8 : Int64)) * (8 : Int64))), .second, .val (.long cl), .second, .val (.long sv), .second, .val (.ref bo), .val (.int ex)] [(.long cn), (.long sv), (.ref bo)])) rfl (by rw [hml]; rfl) (Steps.refl _) (argsL := [(.long sv), (.long cn)]) (rest := []) (lenOf own_pd4 rfl) rfl (by show 2 * 0 + _ ≤ _; exact Nat.le_of_eq rfl) (hb hby at_155) (fun _ _ => ⟨rfl, rfl, (by decide : 1 + 0 ≤ _), (by decide : 3 + 0 ≤ _)⟩)
  dsimp only [Pt.U, Pt.locs, Pt.cells, Pt.slots] at X30 l30 y30 z30 st30 hQ30
  subst l30 y30 z30
  obtain ⟨rfl, Nq30, e30⟩ := hQ30
  have N30 := Fr.app N27 Nq30
  refine own_by (fun _ kZ => st30.trans kZ) ?_
  show own_R p.tables e below _ (T30.setTop (mkF m 158 #[.val (.int p1), .val (.long q2), .second, .val (.long q3), .second, .val (.int en), .val (.int a), .val (.int b), .val (.long cn), .second, .val (.long P), .second, .val (.long (P / (8 : Int64))), .second, .val (.long (P - (P / (8 : Int64)) * (8 : Int64))), .second, .val (.long cl), .second, .val (.long sv), .second, .val (.ref bo), .val (.int ex)] [(.int (if 8 * sv.toInt < 5 * b.toInt * cn.toInt then (0 : Int32) else 1))]))
  have hq : (if 8 * sv.toInt < 5 * b.toInt * cn.toInt then (0 : Int32) else 1) = ex := by
    have h8 := own_ceil P sv cl (by rw [hP.1]; exact hP.2) h_cl
    rw [hP.1] at h8
    rw [h_ex]
    simp only [h8]
  rw [show (if 8 * sv.toInt < 5 * b.toInt * cn.toInt then (0 : Int32) else 1) = ex from hq]
  show own_R p.tables e below _ (T30.setTop (mkF m 158 #[.val (.int p1), .val (.long q2), .second, .val (.long q3), .second, .val (.int en), .val (.int a), .val (.int b), .val (.long cn), .second, .val (.long P), .second, .val (.long (P / (8 : Int64))), .second, .val (.long (P - (P / (8 : Int64)) * (8 : Int64))), .second, .val (.long cl), .second, .val (.long sv), .second, .val (.ref bo), .val (.int ex)] [(.int ex)]))
  refine own_by (fun _ kZ => XS.iload X30.here hx rfl (hb hby at_158) rfl kZ) ?_
  show own_R p.tables e below _ (T30.setTop (mkF m 160 #[.val (.int p1), .val (.long q2), .second, .val (.long q3), .second, .val (.int en), .val (.int a), .val (.int b), .val (.long cn), .second, .val (.long P), .second, .val (.long (P / (8 : Int64))), .second, .val (.long (P - (P / (8 : Int64)) * (8 : Int64))), .second, .val (.long cl), .second, .val (.long sv), .second, .val (.ref bo), .val (.int ex)] [(.int ex), (.int ex)]))
  refine own_by (fun _ kZ => XS.icmpNo X30.here hx rfl (hb hby at_160) rfl (teq (rfl : ex = ex)).2 kZ) ?_
  show own_R p.tables e below _ (T30.setTop (mkF m 163 #[.val (.int p1), .val (.long q2), .second, .val (.long q3), .second, .val (.int en), .val (.int a), .val (.int b), .val (.long cn), .second, .val (.long P), .second, .val (.long (P / (8 : Int64))), .second, .val (.long (P - (P / (8 : Int64)) * (8 : Int64))), .second, .val (.long cl), .second, .val (.long sv), .second, .val (.ref bo), .val (.int ex)] []))
  refine own_by (fun _ kZ => XS.iconst X30.here hx rfl (hb hby at_163) kZ) ?_
  show own_R p.tables e below _ (T30.setTop (mkF m 164 #[.val (.int p1), .val (.long q2), .second, .val (.long q3), .second, .val (.int en), .val (.int a), .val (.int b), .val (.long cn), .second, .val (.long P), .second, .val (.long (P / (8 : Int64))), .second, .val (.long (P - (P / (8 : Int64)) * (8 : Int64))), .second, .val (.long cl), .second, .val (.long sv), .second, .val (.ref bo), .val (.int ex)] [(.int (1 : Int32))]))
  refine own_by (fun _ kZ => XS.goto X30.here hx rfl (pc0 := 164) (pc' := 168) rfl (hb hby at_164) (by decide) (by decide) kZ) ?_
  show own_R p.tables e below _ (T30.setTop (mkF m 168 #[.val (.int p1), .val (.long q2), .second, .val (.long q3), .second, .val (.int en), .val (.int a), .val (.int b), .val (.long cn), .second, .val (.long P), .second, .val (.long (P / (8 : Int64))), .second, .val (.long (P - (P / (8 : Int64)) * (8 : Int64))), .second, .val (.long cl), .second, .val (.long sv), .second, .val (.ref bo), .val (.int ex)] [(.int (1 : Int32))]))
  obtain ⟨fs, hr, hrun, hended, hW, hsame⟩ := X30.leave (v := some (.int (1 : Int32))) (fun h => by rw [Bd.returns] at h; cases h)
  refine own_end ⟨_, _, ?_, hrun, hended, _, _, rfl, ?_, ⟨_, rfl⟩, hW, hsame.mono (by decide) (by decide)⟩
  · exact retN X30 hx (t := .boolean) Bd.returns (by simp) (hb hby at_168) hr
  · show Q0 Z p1 q2 q3 h0 n0 _ T30.heap _
    rw [e30]
    exact ⟨rfl, N30⟩
set_option maxRecDepth 65536 in
set_option maxHeartbeats 40000000 in
theorem comes_1 {Post : Tables → Env → Array Value → State → Outcome → State → Prop} (hpost : ∀ tb e args s v u, (limb_1_1.after args s (.returned v) u = true ∧ limb_1_2.after args s (.returned v) u = true) → FrameEnd s (.returned v) u (Jvm.fieldLocs frame_1_writes args s ++ Jvm.arrayLocs frame_1_arrays args s ++ Jvm.staticLocs frame_1_statics s) 16 128 → Post tb e args s (.returned v) u) :
    ArmFor flags0 classFile x code maxLocals ret World_1 tables_1 room_1 Calls_1 rest_1 Pre_1 Post := by
  intro l hfl _ _ p e ha hc hk s m args below hf hA hF happ hP
  obtain ⟨hcalls, hrest, hpre⟩ := hP
  obtain ⟨-, -, -, hnamed, -, -, -, hat⟩ := (Spec.applies_iff hf).mp happ
  obtain ⟨hg, hn⟩ := and_e (Cond.before_iff.mp (show (Jvm.Cond.and given_1 narrow_1).before args s = true from hpre))
  obtain ⟨g0, q0⟩ := and_e hg
  obtain ⟨g1, q1⟩ := and_e q0
  obtain ⟨g2, q2⟩ := and_e q1
  have g3 := q2
  obtain ⟨w0, w1, w2, rfl⟩ : ∃ w0 w1 w2 : Value, args = #[w0, w1, w2] := by
    have hs : args.size = 3 := by simpa [Cond.value, given_1] using g0
    obtain ⟨L⟩ := args
    match L, hs with
    | [w0, w1, w2], _ => exact ⟨w0, w1, w2, rfl⟩
  have hw := fun d (hd : d ∈ tables_1) => atoms_spec (ws := Jvm.Cond.code x code maxLocals ret :: tables_1) hat d (List.mem_cons_of_mem _ hd)
  have hfit : Fit s := fun {y c} hc i hi => by
    obtain ⟨ha, rfl⟩ := Array.getElem?_eq_some_iff.mp hc
    have q := List.all_eq_true.mp ((Array.all_eq_true_iff_forall_mem.mp hF) _ (Array.getElem_mem ha)) i (List.mem_range.mpr hi)
    simpa [Array.getElem?_eq_getElem hi] using q
  obtain ⟨i0, ei0⟩ := is_v g1
  obtain rfl : w0 = (.int i0) := Option.some.inj ei0
  obtain ⟨i1, ei1⟩ := isL_v g2
  obtain rfl : w1 = (.long i1) := Option.some.inj ei1
  obtain ⟨i2, ei2⟩ := isL_v g3
  obtain rfl : w2 = (.long i2) := Option.some.inj ei2
  obtain ⟨n, o, h1, h2, h3, _, L, rfl, ⟨rfl, N⟩, hq⟩ := rm0 l s _ hw tables_1 i0 i1 i2  s.heap s.heap.size (Nat.le_refl _)  p e ha hc hk s m _ below hf ((Spec.applies_iff_loose hf).mp happ).1 ⟨rfl, State.Warmed39.refl s, rfl⟩ trivial
  refine ⟨n, _, h1, h2, h3, hpost _ _ _ _ _ _ ⟨Cond.after_iff.mpr rfl, Cond.after_iff.mpr (eq_i res_at (Term.int_eval (1)) rfl)⟩ ⟨hq.1, hq.2.1, (hq.2.2.sift fun y hy => Or.inr (N y hy)).mono (by decide) (by decide)⟩⟩
theorem main_1_1 : Claimed_1_1 := comes_1 fun _ _ _ _ _ _ h hF => ⟨h.1, hF⟩
theorem main_1_2 : Claimed_1_2 := comes_1 fun _ _ _ _ _ _ h hF => ⟨h.2, hF⟩
end Jvm.Pilot.@@N@@
namespace Jvm.Pilot.@@N@@
open Jvm Jvm.ClassFile Sem Op Lib Jvm.Free Jvm.Stand Jvm.Pilot.@@N@@.Jvm.D
/-! MADE BY PROGRAM (witnessworld.py) out of the Statement's table words and the real class files: 16 classes; the members and pool entries that the words name. The judged class is class 1, her method 1. -/
namespace start1
open Jvm.ClassFile
def u (s : String) : CpInfo := .utf8 (stringToUtf16 s)
/-- a pool by its gaps: so many unusable entries, then the entry; so many at the end -/
def gap : Nat → List CpInfo → List CpInfo
  | 0, r => r
  | n + 1, r => .unusable :: gap n r
def poolList (es : List (Nat × CpInfo)) (last : Nat) : List CpInfo := es.foldr (fun e r => gap e.1 (e.2 :: r)) (gap last [])
def pool (es : List (Nat × CpInfo)) (last : Nat) : Array CpInfo := ⟨poolList es last⟩
def fileOf (pool : Array CpInfo) (this : Nat) (attrs : Array Attribute := #[]) (ms : Array MethodInfo := #[]) (fl : Nat := 33) (sup : Nat := 0) (ifs : Array Nat := #[]) (fds : Array FieldInfo := #[]) : ClassFile where
  minorVersion := 0
  majorVersion := 65
  constantPool := pool
  accessFlags := fl
  thisClass := this
  superClass := sup
  interfaces := ifs
  fields := fds
  methods := ms
  attributes := attrs
def plain (name : String) (sup : Option ClassId) : Class where
  name := name
  kind := .ordinary
  loader := none
  accessFlags := 33
  super := sup
  interfaces := #[]
  cf := none
  fields := #[]
  methods := #[]
  instanceTypes := #[]
  staticTypes := #[]
  resolved := #[]
  callSites := []
  init := .initialized
  statics := none
  mirror := none

def pool0 : Array CpInfo := pool [(5, u "<init>"), (0, u "()V"), (1, .class_ 10), (1, u "java/lang/Object")] 113

def k0c0 : Code := { maxStack := 0, maxLocals := 1, code := object_method_1_code, exceptionTable := #[], attributes := #[] }
def k0m0 : Method := { name := "<init>", desc := "()V", sig := { parameters := [], returnType := none }, accessFlags := 1, code := some k0c0 }
/-- java/lang/Object -/
def k0 : Class := { plain "java/lang/Object" none with
  accessFlags := 33
  interfaces := #[]
  cf := some (fileOf pool0 8 #[] #[{ accessFlags := 1, nameIndex := 5, descriptorIndex := 6, attributes := #[] }] 33 0 #[] #[])
  fields := #[]
  methods := #[k0m0]
  instanceTypes := #[]
  staticTypes := #[]
  resolved := Array.replicate 124 none
  statics := none }

def pool1 : Array CpInfo := pool [(2, .class_ 4), (1, u "java/lang/Object"), (0, u "<init>"), (0, u "()V"), (0, .long 5), (1, .long 8), (1, .class_ 12), (0, u "com/example/ordinal/ordinal/core/Adaptation"), (0, .double 4616189618054758400), (1, .methodref 11 16), (0, .nameAndType 5 17), (0, u "(ZDD)V"), (0, .methodref 11 19), (0, .nameAndType 20 21), (0, u "worthSwapping"), (0, u "(JJ)Z"), (0, .class_ 23), (0, u "com/example/ordinal/ordinal/core/AdaptationWorthSwappingPinLaw"), (2, u "law"), (0, u "(IJJ)Z")] 3

def k1m0 : Method := { name := "<init>", desc := "()V", sig := { parameters := [], returnType := none }, accessFlags := 1, code := none }
def k1c1 : Code := { maxStack := 9, maxLocals := 22, code := code, exceptionTable := #[], attributes := #[] }
def k1m1 : Method := { name := "law", desc := "(IJJ)Z", sig := { parameters := [.int, .long, .long], returnType := some .boolean }, accessFlags := 9, code := some k1c1 }
/-- com/example/ordinal/ordinal/core/AdaptationWorthSwappingPinLaw -/
def k1 : Class := { plain "com/example/ordinal/ordinal/core/AdaptationWorthSwappingPinLaw" (some 0) with
  accessFlags := 49
  interfaces := #[]
  cf := some (fileOf pool1 22 #[] #[{ accessFlags := 1, nameIndex := 5, descriptorIndex := 6, attributes := #[] }, { accessFlags := 9, nameIndex := 26, descriptorIndex := 27, attributes := #[] }] 49 2 #[] #[])
  fields := #[]
  methods := #[k1m0, k1m1]
  instanceTypes := #[]
  staticTypes := #[]
  resolved := Array.replicate 31 none
  statics := none }

def pool2 : Array CpInfo := pool [(1, .methodref 2 3), (0, .class_ 4), (0, .nameAndType 5 6), (0, u "java/lang/Object"), (0, u "<init>"), (0, u "()V"), (0, .class_ 8), (0, u "java/lang/Record")] 13

def k2c0 : Code := { maxStack := 1, maxLocals := 1, code := jdk_30_method_1_code, exceptionTable := #[], attributes := #[] }
def k2m0 : Method := { name := "<init>", desc := "()V", sig := { parameters := [], returnType := none }, accessFlags := 4, code := some k2c0 }
/-- java/lang/Record -/
def k2 : Class := { plain "java/lang/Record" (some 0) with
  accessFlags := 1057
  interfaces := #[]
  cf := some (fileOf pool2 7 #[] #[{ accessFlags := 4, nameIndex := 5, descriptorIndex := 6, attributes := #[] }] 1057 2 #[] #[])
  fields := #[]
  methods := #[k2m0]
  instanceTypes := #[]
  staticTypes := #[]
  resolved := Array.replicate 22 none
  statics := none }

def pool3 : Array CpInfo := pool [(1, .methodref 2 3), (0, .class_ 4), (0, .nameAndType 5 6), (0, u "java/lang/Record"), (0, u "<init>"), (0, u "()V"), (0, .methodref 8 9), (0, .class_ 10), (0, .nameAndType 11 12), (0, u "java/lang/Double"), (0, u "isInfinite"), (0, u "(D)Z"), (10, .fieldref 24 25), (0, .class_ 26), (0, .nameAndType 27 28), (0, u "com/example/ordinal/ordinal/core/Adaptation"), (0, u "enabled"), (0, u "Z"), (0, .fieldref 24 30), (0, .nameAndType 31 32), (0, u "alpha"), (0, u "D"), (0, .fieldref 24 34), (0, .nameAndType 35 32), (0, u "beta"), (2, u "(ZDD)V"), (12, .double 4612811918334230528), (32, u "DEFAULT"), (0, u "Lcom/example/ordinal/ordinal/core/Adaptation;"), (0, u "TOLD_APART"), (1, u "CLIMBING"), (0, u "SAVING_PER_BETA"), (10, u "(JJ)Z"), (2, u "worthSwapping")] 38

def k3c0 : Code := { maxStack := 4, maxLocals := 6, code := prog_13_method_1_code, exceptionTable := #[], attributes := #[] }
def k3m0 : Method := { name := "<init>", desc := "(ZDD)V", sig := { parameters := [.boolean, .double, .double], returnType := none }, accessFlags := 1, code := some k3c0 }
def k3c1 : Code := { maxStack := 6, maxLocals := 5, code := prog_13_method_7_code, exceptionTable := #[], attributes := #[] }
def k3m1 : Method := { name := "worthSwapping", desc := "(JJ)Z", sig := { parameters := [.long, .long], returnType := some .boolean }, accessFlags := 0, code := some k3c1 }
/-- com/example/ordinal/ordinal/core/Adaptation -/
def k3 : Class := { plain "com/example/ordinal/ordinal/core/Adaptation" (some 2) with
  accessFlags := 49
  interfaces := #[]
  cf := some (fileOf pool3 24 #[] #[{ accessFlags := 1, nameIndex := 5, descriptorIndex := 38, attributes := #[] }, { accessFlags := 0, nameIndex := 103, descriptorIndex := 100, attributes := #[] }] 49 2 #[] #[{ accessFlags := 18, nameIndex := 27, descriptorIndex := 28, attributes := #[] }, { accessFlags := 18, nameIndex := 31, descriptorIndex := 32, attributes := #[] }, { accessFlags := 18, nameIndex := 35, descriptorIndex := 32, attributes := #[] }, { accessFlags := 25, nameIndex := 84, descriptorIndex := 85, attributes := #[] }, { accessFlags := 26, nameIndex := 86, descriptorIndex := 32, attributes := #[] }, { accessFlags := 26, nameIndex := 88, descriptorIndex := 32, attributes := #[] }, { accessFlags := 26, nameIndex := 89, descriptorIndex := 32, attributes := #[] }])
  fields := #[{ name := "enabled", type := .boolean, accessFlags := 18, slot := 0, constantValue := 0 }, { name := "alpha", type := .double, accessFlags := 18, slot := 1, constantValue := 0 }, { name := "beta", type := .double, accessFlags := 18, slot := 2, constantValue := 0 }, { name := "DEFAULT", type := (.object "com/example/ordinal/ordinal/core/Adaptation"), accessFlags := 25, slot := 0, constantValue := 0 }, { name := "TOLD_APART", type := .double, accessFlags := 26, slot := 1, constantValue := 0 }, { name := "CLIMBING", type := .double, accessFlags := 26, slot := 2, constantValue := 0 }, { name := "SAVING_PER_BETA", type := .double, accessFlags := 26, slot := 3, constantValue := 0 }]
  methods := #[k3m0, k3m1]
  instanceTypes := #[.boolean, .double, .double]
  staticTypes := #[(.object "com/example/ordinal/ordinal/core/Adaptation"), .double, .double, .double]
  resolved := Array.replicate 142 none
  statics := none }

def pool4 : Array CpInfo := pool [(1, .class_ 2), (0, u "java/io/Serializable"), (0, .class_ 4), (0, u "java/lang/Object")] 2

/-- java/io/Serializable -/
def k4 : Class := { plain "java/io/Serializable" (some 0) with
  accessFlags := 1537
  interfaces := #[]
  cf := some (fileOf pool4 1 #[] #[] 1537 3 #[] #[])
  fields := #[]
  methods := #[]
  instanceTypes := #[]
  staticTypes := #[]
  resolved := Array.replicate 7 none
  statics := none }

def pool5 : Array CpInfo := pool [(2, .class_ 4), (1, u "java/lang/Object"), (0, u "<init>"), (0, u "()V"), (1, .class_ 10), (1, u "java/lang/Number"), (2, .class_ 14), (0, u "java/io/Serializable"), (0, u "serialVersionUID"), (0, u "J")] 20

def k5m0 : Method := { name := "<init>", desc := "()V", sig := { parameters := [], returnType := none }, accessFlags := 1, code := none }
/-- java/lang/Number -/
def k5 : Class := { plain "java/lang/Number" (some 0) with
  accessFlags := 1057
  interfaces := #[4]
  cf := some (fileOf pool5 8 #[] #[{ accessFlags := 1, nameIndex := 5, descriptorIndex := 6, attributes := #[] }] 1057 2 #[13] #[{ accessFlags := 26, nameIndex := 15, descriptorIndex := 16, attributes := #[] }])
  fields := #[{ name := "serialVersionUID", type := .long, accessFlags := 26, slot := 0, constantValue := 0 }]
  methods := #[k5m0]
  instanceTypes := #[]
  staticTypes := #[.long]
  resolved := Array.replicate 37 none
  statics := none }

def pool6 : Array CpInfo := pool [(1, .class_ 2), (0, u "java/lang/Comparable"), (0, .class_ 4), (0, u "java/lang/Object")] 7

/-- java/lang/Comparable -/
def k6 : Class := { plain "java/lang/Comparable" (some 0) with
  accessFlags := 1537
  interfaces := #[]
  cf := some (fileOf pool6 1 #[] #[] 1537 3 #[] #[])
  fields := #[]
  methods := #[]
  instanceTypes := #[]
  staticTypes := #[]
  resolved := Array.replicate 12 none
  statics := none }

def pool7 : Array CpInfo := pool [(1, .class_ 2), (0, u "java/lang/constant/Constable"), (0, .class_ 4), (0, u "java/lang/Object")] 6

/-- java/lang/constant/Constable -/
def k7 : Class := { plain "java/lang/constant/Constable" (some 0) with
  accessFlags := 1537
  interfaces := #[]
  cf := some (fileOf pool7 1 #[] #[] 1537 3 #[] #[])
  fields := #[]
  methods := #[]
  instanceTypes := #[]
  staticTypes := #[]
  resolved := Array.replicate 11 none
  statics := none }

def pool8 : Array CpInfo := pool [(1, .class_ 2), (0, u "java/lang/constant/ConstantDesc"), (0, .class_ 4), (0, u "java/lang/Object")] 32

/-- java/lang/constant/ConstantDesc -/
def k8 : Class := { plain "java/lang/constant/ConstantDesc" (some 0) with
  accessFlags := 1537
  interfaces := #[]
  cf := some (fileOf pool8 1 #[] #[] 1537 3 #[] #[])
  fields := #[]
  methods := #[]
  instanceTypes := #[]
  staticTypes := #[]
  resolved := Array.replicate 37 none
  statics := none }

def pool9 : Array CpInfo := pool [(1, .class_ 2), (0, u "java/lang/Double"), (11, u "(D)Z"), (8, .class_ 25), (1, u "java/lang/Math"), (12, .methodref 23 39), (0, .nameAndType 40 41), (0, u "abs"), (0, u "(D)D"), (69, .double 9218868437227405311), (2, .class_ 116), (1, u "java/lang/Number"), (3, u "value"), (0, u "D"), (5, u "isInfinite"), (45, u "TYPE"), (0, u "Ljava/lang/Class;"), (0, .class_ 176), (0, u "java/lang/Comparable"), (0, .class_ 178), (0, u "java/lang/constant/Constable"), (0, .class_ 180), (0, u "java/lang/constant/ConstantDesc"), (0, u "POSITIVE_INFINITY"), (3, u "NEGATIVE_INFINITY"), (2, u "NaN"), (2, u "MAX_VALUE"), (0, u "MIN_NORMAL"), (0, u "MIN_VALUE"), (2, u "SIZE"), (0, u "I"), (1, u "PRECISION"), (1, u "MAX_EXPONENT"), (1, u "MIN_EXPONENT"), (1, u "BYTES"), (3, u "serialVersionUID"), (0, u "J")] 79

def k9c0 : Code := { maxStack := 4, maxLocals := 2, code := jdk_117_method_7_code, exceptionTable := #[], attributes := #[] }
def k9m0 : Method := { name := "isInfinite", desc := "(D)Z", sig := { parameters := [.double], returnType := some .boolean }, accessFlags := 9, code := some k9c0 }
/-- java/lang/Double -/
def k9 : Class := { plain "java/lang/Double" (some 5) with
  accessFlags := 49
  interfaces := #[6, 7, 8]
  cf := some (fileOf pool9 1 #[] #[{ accessFlags := 9, nameIndex := 127, descriptorIndex := 14, attributes := #[] }] 49 114 #[175, 177, 179] #[{ accessFlags := 25, nameIndex := 181, descriptorIndex := 121, attributes := #[] }, { accessFlags := 25, nameIndex := 185, descriptorIndex := 121, attributes := #[] }, { accessFlags := 25, nameIndex := 188, descriptorIndex := 121, attributes := #[] }, { accessFlags := 25, nameIndex := 191, descriptorIndex := 121, attributes := #[] }, { accessFlags := 25, nameIndex := 192, descriptorIndex := 121, attributes := #[] }, { accessFlags := 25, nameIndex := 193, descriptorIndex := 121, attributes := #[] }, { accessFlags := 25, nameIndex := 196, descriptorIndex := 197, attributes := #[] }, { accessFlags := 25, nameIndex := 199, descriptorIndex := 197, attributes := #[] }, { accessFlags := 25, nameIndex := 201, descriptorIndex := 197, attributes := #[] }, { accessFlags := 25, nameIndex := 203, descriptorIndex := 197, attributes := #[] }, { accessFlags := 25, nameIndex := 205, descriptorIndex := 197, attributes := #[] }, { accessFlags := 25, nameIndex := 173, descriptorIndex := 174, attributes := #[] }, { accessFlags := 18, nameIndex := 120, descriptorIndex := 121, attributes := #[] }, { accessFlags := 26, nameIndex := 209, descriptorIndex := 210, attributes := #[] }])
  fields := #[{ name := "POSITIVE_INFINITY", type := .double, accessFlags := 25, slot := 0, constantValue := 0 }, { name := "NEGATIVE_INFINITY", type := .double, accessFlags := 25, slot := 1, constantValue := 0 }, { name := "NaN", type := .double, accessFlags := 25, slot := 2, constantValue := 0 }, { name := "MAX_VALUE", type := .double, accessFlags := 25, slot := 3, constantValue := 0 }, { name := "MIN_NORMAL", type := .double, accessFlags := 25, slot := 4, constantValue := 0 }, { name := "MIN_VALUE", type := .double, accessFlags := 25, slot := 5, constantValue := 0 }, { name := "SIZE", type := .int, accessFlags := 25, slot := 6, constantValue := 0 }, { name := "PRECISION", type := .int, accessFlags := 25, slot := 7, constantValue := 0 }, { name := "MAX_EXPONENT", type := .int, accessFlags := 25, slot := 8, constantValue := 0 }, { name := "MIN_EXPONENT", type := .int, accessFlags := 25, slot := 9, constantValue := 0 }, { name := "BYTES", type := .int, accessFlags := 25, slot := 10, constantValue := 0 }, { name := "TYPE", type := (.object "java/lang/Class"), accessFlags := 25, slot := 11, constantValue := 0 }, { name := "value", type := .double, accessFlags := 18, slot := 0, constantValue := 0 }, { name := "serialVersionUID", type := .long, accessFlags := 26, slot := 12, constantValue := 0 }]
  methods := #[k9m0]
  instanceTypes := #[.double]
  staticTypes := #[.double, .double, .double, .double, .double, .double, .int, .int, .int, .int, .int, (.object "java/lang/Class"), .long]
  resolved := Array.replicate 290 none
  statics := none }

def pool10 : Array CpInfo := pool [(1, .class_ 2), (0, u "java/lang/Math"), (1, .class_ 6), (1, u "java/lang/Object"), (0, u "<init>"), (0, u "()V"), (5, u "(D)D"), (83, .class_ 100), (1, u "java/lang/Math$RandomNumberGeneratorHolder"), (23, u "abs"), (47, u "negativeZeroFloatBits"), (0, u "J"), (2, u "negativeZeroDoubleBits"), (68, u "$assertionsDisabled"), (0, u "Z"), (91, u "twoToTheDoubleScaleDown"), (0, u "D"), (4, u "twoToTheDoubleScaleUp"), (9, u "E"), (3, u "PI"), (2, u "TAU"), (2, u "DEGREES_TO_RADIANS"), (0, u "RADIANS_TO_DEGREES")] 94

def k10m0 : Method := { name := "<init>", desc := "()V", sig := { parameters := [], returnType := none }, accessFlags := 2, code := none }
def k10c1 : Code := { maxStack := 4, maxLocals := 2, code := jdk_29_method_64_code, exceptionTable := #[], attributes := #[] }
def k10m1 : Method := { name := "abs", desc := "(D)D", sig := { parameters := [.double], returnType := some .double }, accessFlags := 9, code := some k10c1 }
/-- java/lang/Math -/
def k10 : Class := { plain "java/lang/Math" (some 0) with
  accessFlags := 49
  interfaces := #[]
  cf := some (fileOf pool10 1 #[.nestMembers #[98]] #[{ accessFlags := 2, nameIndex := 7, descriptorIndex := 8, attributes := #[] }, { accessFlags := 9, nameIndex := 124, descriptorIndex := 14, attributes := #[] }] 49 4 #[] #[{ accessFlags := 25, nameIndex := 354, descriptorIndex := 339, attributes := #[] }, { accessFlags := 25, nameIndex := 358, descriptorIndex := 339, attributes := #[] }, { accessFlags := 25, nameIndex := 361, descriptorIndex := 339, attributes := #[] }, { accessFlags := 26, nameIndex := 364, descriptorIndex := 339, attributes := #[] }, { accessFlags := 26, nameIndex := 365, descriptorIndex := 339, attributes := #[] }, { accessFlags := 26, nameIndex := 172, descriptorIndex := 173, attributes := #[] }, { accessFlags := 26, nameIndex := 176, descriptorIndex := 173, attributes := #[] }, { accessFlags := 8, nameIndex := 344, descriptorIndex := 339, attributes := #[] }, { accessFlags := 8, nameIndex := 338, descriptorIndex := 339, attributes := #[] }, { accessFlags := 4120, nameIndex := 245, descriptorIndex := 246, attributes := #[] }])
  fields := #[{ name := "E", type := .double, accessFlags := 25, slot := 0, constantValue := 0 }, { name := "PI", type := .double, accessFlags := 25, slot := 1, constantValue := 0 }, { name := "TAU", type := .double, accessFlags := 25, slot := 2, constantValue := 0 }, { name := "DEGREES_TO_RADIANS", type := .double, accessFlags := 26, slot := 3, constantValue := 0 }, { name := "RADIANS_TO_DEGREES", type := .double, accessFlags := 26, slot := 4, constantValue := 0 }, { name := "negativeZeroFloatBits", type := .long, accessFlags := 26, slot := 5, constantValue := 0 }, { name := "negativeZeroDoubleBits", type := .long, accessFlags := 26, slot := 6, constantValue := 0 }, { name := "twoToTheDoubleScaleUp", type := .double, accessFlags := 8, slot := 7, constantValue := 0 }, { name := "twoToTheDoubleScaleDown", type := .double, accessFlags := 8, slot := 8, constantValue := 0 }, { name := "$assertionsDisabled", type := .boolean, accessFlags := 4120, slot := 9, constantValue := 0 }]
  methods := #[k10m0, k10m1]
  instanceTypes := #[]
  staticTypes := #[.double, .double, .double, .double, .double, .long, .long, .double, .double, .boolean]
  resolved := Array.replicate 460 none
  statics := none }

def pool11 : Array CpInfo := pool [(1, u "java/lang/Cloneable"), (0, .class_ 1), (0, u "java/lang/Object"), (0, .class_ 3)] 3

/-- java/lang/Cloneable -/
def k11 : Class := { plain "java/lang/Cloneable" (some 0) with
  accessFlags := 1537
  interfaces := #[]
  cf := some (fileOf pool11 2 #[] #[] 1537 4 #[] #[])
  fields := #[]
  methods := #[]
  instanceTypes := #[]
  staticTypes := #[]
  resolved := Array.replicate 8 none
  statics := none }

/-- the primitive byte -/
def k12 : Class := { plain "byte" none with kind := .primitive 'B', accessFlags := 0x411 }
/-- [B -/
def k13 : Class := { plain "[B" (some 0) with kind := .array 12 .byte, interfaces := #[11, 4], accessFlags := 1041 }

/-- the primitive int -/
def k14 : Class := { plain "int" none with kind := .primitive 'I', accessFlags := 0x411 }
/-- [I -/
def k15 : Class := { plain "[I" (some 0) with kind := .array 14 .int, interfaces := #[11, 4], accessFlags := 1041 }

def heap : Heap := #[]
def classes : Array Class := #[k0, k1, k2, k3, k4, k5, k6, k7, k8, k9, k10, k11, k12, k13, k14, k15]
def interned : List (Array UInt16 × Addr) := []
def slotsUsed : Nat := 0
def theMethod : MethodId := ⟨1, 1⟩
def args0 : Array Value := #[.int 5, .long 6, .long 7]
def aboutOver (below : List Frame) : State where
  vm := { classes := classes, interned := interned.toArray }
  heap := heap
  slotsUsed := slotsUsed
  threads := #[{ frames := .invoking theMethod args0 :: below }]
def below0 : List Frame := [.native { method := ⟨0, 0⟩, args := #[] }]
def about1 : State := aboutOver below0
def p0 : Program := .bare "" "" ""
def e0 : Env := launch0.env 0 0 0
theorem w_frames : about1.frames = Frame.invoking theMethod args0 :: below0 := rfl
set_option maxRecDepth 65536 in
theorem w_args : argsFit about1.vm theMethod args0 = true := by decide +kernel
set_option maxRecDepth 65536 in
theorem w_heap : heapFits about1 = true := by decide +kernel
set_option maxRecDepth 65536 in
theorem w_runnable : about1.curStatus? = some .runnable := by decide +kernel
set_option maxRecDepth 65536 in
theorem w_alone : about1.alone = true := by decide +kernel
set_option maxRecDepth 65536 in
theorem w_named : about1.methodNamed? x = some theMethod := by decide +kernel
set_option maxRecDepth 65536 in
theorem w_hears : about1.hears theMethod below0 = true := by decide +kernel
set_option maxRecDepth 65536 in
theorem w_ripe : about1.ripe theMethod args0 below0 = true := by decide +kernel
theorem w_running : about1.status = .running := rfl
set_option maxRecDepth 65536 in
theorem w_room : about1.hasRoom e0.platform room_1 = true :=
  launch0.hasRoom_least _ room_1 (by decide +kernel) (by decide +kernel) (by decide +kernel) (by decide +kernel) (by decide +kernel) (by decide +kernel)
theorem allAtoms_all (ts : List Jvm.Cond) (a : Array Jvm.Value) (st : Jvm.State) : (allAtoms ts).before a st = ts.all (fun c => c.before a st) := by
  induction ts with
  | nil => rfl
  | cons c t ih =>
    show (Jvm.Cond.and c (allAtoms t)).before a st = _
    rw [Jvm.Cond.before_and, ih, List.all_cons]
def words1 : List Jvm.Cond := Jvm.Cond.code x code maxLocals ret :: tables_1
/-- a 'code' word, met by the world's own term for the bytes: nothing is compared byte by byte -/
theorem code_word {y : MethodName} {bytes : ByteArray} {mx : Nat} {rt : Option FieldType} {a : Array Value} {s : State} {m : MethodId} {meth : Method} {c : Code} (h1 : s.methodNamed? y = some m) (h2 : s.vm.method? m = some meth) (h3 : meth.code = some c) (h4 : c.code = bytes)
    (h5 : (c.maxLocals == mx && c.exceptionTable.isEmpty && decide (c.maxStack ≤ mostOperands) && decide (meth.sig.returnType = rt) && !meth.locks && decide (parseMethodDescriptor y.desc = some meth.sig)) = true) : (Jvm.Cond.code y bytes mx rt).before a s = true := by
  simp only [Bool.and_eq_true, beq_iff_eq, Bool.not_eq_true', decide_eq_true_eq] at h5
  obtain ⟨⟨⟨⟨⟨g1, g2⟩, g3⟩, g4⟩, g5⟩, g6⟩ := h5
  simp [Cond.before, Cond.holds, Cond.value, h1, h2, h3, h4, g1, g2, g3, g4, g5, g6]
def isCode : Jvm.Cond → Bool
  | .code _ _ _ _ => true
  | _ => false
theorem all_split {L : List Jvm.Cond} {P : Jvm.Cond → Bool} (h1 : L.all (fun c => isCode c || P c) = true) (h2 : ∀ c ∈ L.filter isCode, P c = true) : L.all P = true := by
  refine List.all_eq_true.mpr fun c hc => ?_
  have h := List.all_eq_true.mp h1 c hc
  rcases Bool.eq_false_or_eq_true (isCode c) with hi | hi
  · exact h2 c (List.mem_filter.mpr ⟨hc, hi⟩)
  · simpa [hi] using h
set_option maxRecDepth 65536 in
theorem w_c0 : (Jvm.Cond.code x code maxLocals ret).before args0 about1 = true := code_word (m := ⟨1, 1⟩) (meth := k1m1) (c := k1c1) (by decide +kernel) rfl rfl rfl (by decide +kernel)
set_option maxRecDepth 65536 in
theorem w_c1 : (Jvm.Cond.code ({ cls := "com/example/ordinal/ordinal/core/Adaptation", name := "<init>", desc := "(ZDD)V" } : Jvm.MethodName) prog_13_method_1_code (6 : Nat) (Option.none : Option Jvm.ClassFile.FieldType)).before args0 about1 = true := code_word (m := ⟨3, 0⟩) (meth := k3m0) (c := k3c0) (by decide +kernel) rfl rfl rfl (by decide +kernel)
set_option maxRecDepth 65536 in
theorem w_c2 : (Jvm.Cond.code ({ cls := "java/lang/Record", name := "<init>", desc := "()V" } : Jvm.MethodName) jdk_30_method_1_code (1 : Nat) (Option.none : Option Jvm.ClassFile.FieldType)).before args0 about1 = true := code_word (m := ⟨2, 0⟩) (meth := k2m0) (c := k2c0) (by decide +kernel) rfl rfl rfl (by decide +kernel)
set_option maxRecDepth 65536 in
theorem w_c3 : (Jvm.Cond.code ({ cls := "java/lang/Object", name := "<init>", desc := "()V" } : Jvm.MethodName) object_method_1_code (1 : Nat) (Option.none : Option Jvm.ClassFile.FieldType)).before args0 about1 = true := code_word (m := ⟨0, 0⟩) (meth := k0m0) (c := k0c0) (by decide +kernel) rfl rfl rfl (by decide +kernel)
set_option maxRecDepth 65536 in
theorem w_c4 : (Jvm.Cond.code ({ cls := "java/lang/Double", name := "isInfinite", desc := "(D)Z" } : Jvm.MethodName) jdk_117_method_7_code (2 : Nat) (Option.some Jvm.ClassFile.FieldType.boolean)).before args0 about1 = true := code_word (m := ⟨9, 0⟩) (meth := k9m0) (c := k9c0) (by decide +kernel) rfl rfl rfl (by decide +kernel)
set_option maxRecDepth 65536 in
theorem w_c5 : (Jvm.Cond.code ({ cls := "java/lang/Math", name := "abs", desc := "(D)D" } : Jvm.MethodName) jdk_29_method_64_code (2 : Nat) (Option.some Jvm.ClassFile.FieldType.double)).before args0 about1 = true := code_word (m := ⟨10, 1⟩) (meth := k10m1) (c := k10c1) (by decide +kernel) rfl rfl rfl (by decide +kernel)
set_option maxRecDepth 65536 in
theorem w_c6 : (Jvm.Cond.code ({ cls := "com/example/ordinal/ordinal/core/Adaptation", name := "worthSwapping", desc := "(JJ)Z" } : Jvm.MethodName) prog_13_method_7_code (5 : Nat) (Option.some Jvm.ClassFile.FieldType.boolean)).before args0 about1 = true := code_word (m := ⟨3, 1⟩) (meth := k3m1) (c := k3c1) (by decide +kernel) rfl rfl rfl (by decide +kernel)
def codes1 : List Jvm.Cond := [Jvm.Cond.code x code maxLocals ret, Jvm.Cond.code ({ cls := "com/example/ordinal/ordinal/core/Adaptation", name := "<init>", desc := "(ZDD)V" } : Jvm.MethodName) prog_13_method_1_code (6 : Nat) (Option.none : Option Jvm.ClassFile.FieldType), Jvm.Cond.code ({ cls := "java/lang/Record", name := "<init>", desc := "()V" } : Jvm.MethodName) jdk_30_method_1_code (1 : Nat) (Option.none : Option Jvm.ClassFile.FieldType), Jvm.Cond.code ({ cls := "java/lang/Object", name := "<init>", desc := "()V" } : Jvm.MethodName) object_method_1_code (1 : Nat) (Option.none : Option Jvm.ClassFile.FieldType), Jvm.Cond.code ({ cls := "java/lang/Double", name := "isInfinite", desc := "(D)Z" } : Jvm.MethodName) jdk_117_method_7_code (2 : Nat) (Option.some Jvm.ClassFile.FieldType.boolean), Jvm.Cond.code ({ cls := "java/lang/Math", name := "abs", desc := "(D)D" } : Jvm.MethodName) jdk_29_method_64_code (2 : Nat) (Option.some Jvm.ClassFile.FieldType.double), Jvm.Cond.code ({ cls := "com/example/ordinal/ordinal/core/Adaptation", name := "worthSwapping", desc := "(JJ)Z" } : Jvm.MethodName) prog_13_method_7_code (5 : Nat) (Option.some Jvm.ClassFile.FieldType.boolean)]
set_option maxRecDepth 65536 in
theorem codes_eq : words1.filter isCode = codes1 := rfl
theorem w_codes : ∀ c ∈ words1.filter isCode, c.before args0 about1 = true := by
  rw [codes_eq]
  intro c hc
  simp only [codes1, List.mem_cons, List.not_mem_nil, or_false] at hc
  rcases hc with rfl | rfl | rfl | rfl | rfl | rfl | rfl
  · exact w_c0
  · exact w_c1
  · exact w_c2
  · exact w_c3
  · exact w_c4
  · exact w_c5
  · exact w_c6
set_option maxRecDepth 65536 in
theorem w_t1 : (words1.take 24).all (fun c => isCode c || c.before args0 about1) = true := by decide +kernel
set_option maxRecDepth 65536 in
theorem w_t2 : (words1.drop 24).all (fun c => isCode c || c.before args0 about1) = true := by decide +kernel
theorem w_tables : (allAtoms (Jvm.Cond.code x code maxLocals ret :: tables_1)).before args0 about1 = true := by
  rw [allAtoms_all]
  show words1.all (fun c => c.before args0 about1) = true
  refine all_split ?_ w_codes
  rw [← List.take_append_drop 24 words1, List.all_append, w_t1, w_t2]
  rfl
set_option maxRecDepth 65536 in
theorem w_case : (Jvm.Cond.and given_1 narrow_1).before args0 about1 = true := by decide +kernel
theorem w_applies : (headSpec (Jvm.Cond.code x code maxLocals ret :: tables_1) room_1).applies x e0.platform about1 = true :=
  (Spec.applies_iff w_frames).mpr ⟨w_running, w_runnable, w_alone, w_named, w_hears, w_ripe, w_room, w_tables⟩
theorem atStart : AtStart classFile x code maxLocals ret World_1 tables_1 room_1 Calls_1 rest_1 Pre_1 launch0 p0 e0 about1 theMethod args0 below0 :=
  ⟨lists_1, trivial, launch0.admits_env _ _ _, launch0.least_env, fairChoices_fair.cas, fairChoices_fair.clock, w_frames, w_args, w_heap, w_applies, trivial, trivial, w_case⟩
end start1
theorem witness_1 : WitnessClaimed_1 := ⟨start1.p0, start1.e0, start1.about1, start1.theMethod, start1.args0, start1.below0, start1.atStart⟩
end Jvm.Pilot.@@N@@
