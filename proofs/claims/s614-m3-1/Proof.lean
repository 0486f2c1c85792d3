import JvmDerived
import JvmDerived.Pilot.@@N@@Statement
import JvmDerived.Pilot.@@N@@Code
set_option linter.unusedVariables false
set_option linter.unusedSimpArgs false

namespace Jvm.Pilot.@@N@@
open Jvm Jvm.ClassFile Sem Op Lib Jvm.Free Jvm.Stand Jvm.LawKit Jvm.RoadKit Bundle Jvm.Pilot.@@N@@.Jvm.D
/-! from S the run comes to an end that A accepts -/
def own_R (tb : Tables) (e : Env) (below : List Frame) (A : State → Outcome → Prop) (S : State) : Prop := ∃ t o, Steps tb e below S t ∧ A t o
theorem own_by {tb : Tables} {e : Env} {below : List Frame} {A : State → Outcome → Prop} {S S' : State} (st : ∀ t, Steps tb e below S' t → Steps tb e below S t) (k : own_R tb e below A S') : own_R tb e below A S := by
  obtain ⟨t, o, k1, k2⟩ := k
  exact ⟨t, o, st t k1, k2⟩
theorem own_join {α : Type} {tb : Tables} {e : Env} {below : List Frame} {A : State → Outcome → Prop} {S : State} (F : α → State) (P : α → Prop) (h1 : (∀ x, P x → own_R tb e below A (F x)) → own_R tb e below A S) (h2 : ∀ x, P x → own_R tb e below A (F x)) : own_R tb e below A S := h1 h2
theorem own_end {tb : Tables} {e : Env} {below : List Frame} {A : State → Outcome → Prop} {S : State} (k : ∃ t o, Steps tb e below S t ∧ A t o) : own_R tb e below A S := k
theorem own_retI {p : Program} {l : Launch} {e : Env} {R : Room} {s : State} {m : MethodId} {args : Array Value} {below : List Frame} {meth : Method} {c : Code} {T : State} {locs : List Loc} {cells slots : Nat} (X : Stand p l e R s m args below meth c T locs cells slots) (hx : p.tables.exec = Jvm.exec) {pc : Nat} {Ls : Array Slot} {z : Int32} {rest : List Value} (hret : meth.sig.returnType = some .int) (hd : decode c.code pc = .ok (.ireturn, 1)) {fs : List Frame}
    (hl : ∀ (f : JFrame) (acts : List Action), f.method = m → f.locked = none → f.entered = [] → (doReturn e (T.setTop f) acts (some (.int z))).1 = T.setFrames fs) : Steps p.tables e below (T.setTop (mkF m pc Ls (.int z :: rest))) (T.setFrames fs) :=
  retOut X hx hret rfl (Or.inl ⟨rfl, Or.inl rfl, z, rfl⟩) hd hl
theorem own_retJ {p : Program} {l : Launch} {e : Env} {R : Room} {s : State} {m : MethodId} {args : Array Value} {below : List Frame} {meth : Method} {c : Code} {T : State} {locs : List Loc} {cells slots : Nat} (X : Stand p l e R s m args below meth c T locs cells slots) (hx : p.tables.exec = Jvm.exec) {pc : Nat} {Ls : Array Slot} {z : Int64} {rest : List Value} (hret : meth.sig.returnType = some .long) (hd : decode c.code pc = .ok (.lreturn, 1)) {fs : List Frame}
    (hl : ∀ (f : JFrame) (acts : List Action), f.method = m → f.locked = none → f.entered = [] → (doReturn e (T.setTop f) acts (some (.long z))).1 = T.setFrames fs) : Steps p.tables e below (T.setTop (mkF m pc Ls (.long z :: rest))) (T.setFrames fs) :=
  retOut X hx hret rfl (Or.inr (Or.inl ⟨rfl, rfl, z, rfl⟩)) hd hl
theorem own_since (s : State) : s.Since s.vm 0 := ⟨State.Warmed39.refl s, fun j p hj hp => absurd (Array.getElem?_eq_some_iff.mp hp).1 (Nat.not_lt.mpr hj)⟩
theorem own_monoW {s t : State} {o : Outcome} {L : List Loc} {k n k' n' : Nat} (h : ReturnedEndW s o t L k n) (h1 : k ≤ k') (h2 : n ≤ n') : ReturnedEndW s o t L k' n' := ⟨h.1, h.2.1, h.2.2.1, h.2.2.2.mono h1 h2⟩
/-! doubles: single steps -/
section OwnD
variable {tb : Tables} [Ours tb] {e : Env} {below : List Frame} {T target : State} {m : MethodId} {c : Code} {g : JFrame}
theorem own_dloadN (h : At T m c below) (hx : tb.exec = Jvm.exec) (hg : g.method = m) {k : Fin 4} {v : UInt64} (hd : decode c.code g.pc = .ok (.dload_n k, 1)) (hl : g.locals[k.val]? = some (.val (.double v)))
    (hr : Steps tb e below (T.setTop { g with pc := g.pc + 1, stack := .double v :: g.stack }) target) : Steps tb e below (T.setTop g) target := by
  subst hg
  jvm_step h [h.top, hx, hd, hl]
  exact hr
theorem own_dload (h : At T m c below) (hx : tb.exec = Jvm.exec) (hg : g.method = m) {k : Nat} {v : UInt64} (hd : decode c.code g.pc = .ok (.dload k, 2)) (hl : g.locals[k]? = some (.val (.double v)))
    (hr : Steps tb e below (T.setTop { g with pc := g.pc + 2, stack := .double v :: g.stack }) target) : Steps tb e below (T.setTop g) target := by
  subst hg
  jvm_step h [h.top, hx, hd, hl]
  exact hr
theorem own_dstoreN (h : At T m c below) (hx : tb.exec = Jvm.exec) (hg : g.method = m) {k : Fin 4} {x : UInt64} {rest : List Value} {l' : Array Slot} (hd : decode c.code g.pc = .ok (.dstore_n k, 1)) (hs : g.stack = .double x :: rest) (hl : storeLocals g.locals k.val (.double x) = some l')
    (hr : Steps tb e below (T.setTop { g with pc := g.pc + 1, stack := rest, locals := l' }) target) : Steps tb e below (T.setTop g) target := by
  subst hg
  jvm_step h [h.top, hx, hd, hs, hl]
  exact hr
theorem own_dstore (h : At T m c below) (hx : tb.exec = Jvm.exec) (hg : g.method = m) {k : Nat} {x : UInt64} {rest : List Value} {l' : Array Slot} (hd : decode c.code g.pc = .ok (.dstore k, 2)) (hs : g.stack = .double x :: rest) (hl : storeLocals g.locals k (.double x) = some l')
    (hr : Steps tb e below (T.setTop { g with pc := g.pc + 2, stack := rest, locals := l' }) target) : Steps tb e below (T.setTop g) target := by
  subst hg
  jvm_step h [h.top, hx, hd, hs, hl]
  exact hr
theorem own_i2d (h : At T m c below) (hx : tb.exec = Jvm.exec) (hg : g.method = m) {x : Int32} {rest : List Value} (hd : decode c.code g.pc = .ok (.i2d, 1)) (hs : g.stack = .int x :: rest)
    (hr : Steps tb e below (T.setTop { g with pc := g.pc + 1, stack := .double (FP.i2d x) :: rest }) target) : Steps tb e below (T.setTop g) target := by
  subst hg
  jvm_step h [h.top, hx, hd, hs]
  exact hr
theorem own_l2d (h : At T m c below) (hx : tb.exec = Jvm.exec) (hg : g.method = m) {x : Int64} {rest : List Value} (hd : decode c.code g.pc = .ok (.l2d, 1)) (hs : g.stack = .long x :: rest)
    (hr : Steps tb e below (T.setTop { g with pc := g.pc + 1, stack := .double (FP.l2d x) :: rest }) target) : Steps tb e below (T.setTop g) target := by
  subst hg
  jvm_step h [h.top, hx, hd, hs]
  exact hr
theorem own_dcmp (h : At T m c below) (hx : tb.exec = Jvm.exec) (hg : g.method = m) {op : CmpOp} {x y : UInt64} {rest : List Value} (hd : decode c.code g.pc = .ok (.dcmp op, 1)) (hs : g.stack = .double y :: .double x :: rest)
    (hr : Steps tb e below (T.setTop { g with pc := g.pc + 1, stack := .int (cmpValue (FP.dcmp x y) op) :: rest }) target) : Steps tb e below (T.setTop g) target := by
  subst hg
  jvm_step h [h.top, hx, hd, dcmp.wp_sem, hs]
  exact hr
end OwnD
section OwnD2
variable {p : Program} {l : Launch} {e : Env} {R : Room} {s : State} {m : MethodId} {args : Array Value} {below : List Frame} {meth : Method} {c : Code} {T : State} {locs : List Loc} {cells slots : Nat}
theorem own_daload (X : Stand p l e R s m args below meth c T locs cells slots) (hexec : p.tables.exec = Jvm.exec) {a : Addr} {cell : Cell} {j : Int32} {v : Value} (hcell : T.heap[a]? = some cell) (harr : s.isArrayOf cell .double) (hknown : cell.vm ≠ .unknown)
    (hin : ¬ (j < 0 ∨ cell.slots.size ≤ j.toNatClampNeg)) (hv : cell.slots[j.toNatClampNeg]? = some v)
    {g : JFrame} (hg : g.method = m) {rest : List Value} (hstack : g.stack = .int j :: .ref a :: rest) (hdg : decode c.code g.pc = .ok (.daload, 1)) (target : State)
    (hrest : Steps p.tables e below (T.setTop { g with pc := g.pc + 1, stack := v :: rest }) target) : Steps p.tables e below (T.setTop g) target := by
  have hT := State.isArrayOf_alike X.warmed.alike harr
  subst hg
  jvm_step X.here [hexec, hdg, daload.wp_sem, hstack, hcell, hT.isArray, hin, hknown, hv]
  exact ⟨hT, hrest⟩
theorem own_dastore (X : Stand p l e R s m args below meth c T locs cells slots) (hexec : p.tables.exec = Jvm.exec) {a : Addr} {cell : Cell} {j : Int32} {x : UInt64} (hcell : T.heap[a]? = some cell) (harr : s.isArrayOf cell .double) (hknown : cell.vm ≠ .unknown)
    (hin : ¬ (j < 0 ∨ cell.slots.size ≤ j.toNatClampNeg))
    {g : JFrame} (hg : g.method = m) {rest : List Value} (hstack : g.stack = .double x :: .int j :: .ref a :: rest) (hdg : decode c.code g.pc = .ok (.dastore, 1)) :
    Stand p l e R s m args below meth c (T.setCell a (cell.setSlot j.toNatClampNeg (.double x))) (locs ++ [⟨a, j.toNatClampNeg⟩]) cells slots ∧
      ∀ target, Steps p.tables e below ((T.setCell a (cell.setSlot j.toNatClampNeg (.double x))).setTop { g with pc := g.pc + 1, stack := rest }) target → Steps p.tables e below (T.setTop g) target := by
  have hT := State.isArrayOf_alike X.warmed.alike harr
  have hfit : T.fitsSlot cell.cls cell.vm j.toNatClampNeg (.double x) = true := by
    obtain ⟨hobj, k, hk, comp, hkind⟩ := hT
    cases hvm : cell.vm <;> first | exact absurd hvm (hobj _) | simp [State.fitsSlot, State.slotType?, hk, hkind, fits]
  refine ⟨X.stored hcell _ _, fun target hrest => ?_⟩
  subst hg
  jvm_step X.here [hexec, hdg, dastore.wp_sem, hstack, hcell, hT.isArray, hin, hknown, hfit]
  refine ⟨x, j, .ref a, rest, ⟨rfl, rfl, rfl, rfl⟩, cell, hcell, hT.isArray, ?_⟩
  rw [if_neg hin]
  exact ⟨hT, hknown, hfit, hrest⟩
theorem own_stD {Z : State} {h : Heap} (X : Stand p l e R s m args below meth c T locs cells slots) (hx : p.tables.exec = Jvm.exec) (hZ : Z.Warmed39 s.vm) (eT : T.heap = h) {a : Addr} {cl : Cell} (A : Arr Z h a cl .double) {j : Int32} {x : UInt64} (hj : ¬ (j < 0 ∨ cl.slots.size ≤ j.toNatClampNeg)) {g : JFrame} (hg : g.method = m) {rest : List Value} (hs : g.stack = .double x :: .int j :: .ref a :: rest) (hd : decode c.code g.pc = .ok (.dastore, 1)) :
    ∃ T' h', Stand p l e R s m args below meth c T' (locs ++ [⟨a, j.toNatClampNeg⟩]) cells slots ∧ T'.heap = h' ∧ Wr h h' a j.toNatClampNeg (.double x) ∧ ∀ target, Steps p.tables e below (T'.setTop { g with pc := g.pc + 1, stack := rest }) target → Steps p.tables e below (T.setTop g) target := by
  obtain ⟨X', st⟩ := own_dastore X hx (by rw [eT]; exact A.1) (State.isArrayOf_alike hZ.alike A.2.1) A.2.2 hj hg hs hd
  exact ⟨_, _, X', rfl, ⟨cl, A.1, A.plain, Nat.lt_of_not_le fun q => hj (Or.inr q), by rw [← eT]; rfl⟩, st⟩
theorem own_retD (X : Stand p l e R s m args below meth c T locs cells slots) (hx : p.tables.exec = Jvm.exec) {pc : Nat} {Ls : Array Slot} {z : UInt64} {rest : List Value} (hret : meth.sig.returnType = some .double) (hd : decode c.code pc = .ok (.dreturn, 1)) {fs : List Frame}
    (hl : ∀ (f : JFrame) (acts : List Action), f.method = m → f.locked = none → f.entered = [] → (doReturn e (T.setTop f) acts (some (.double z))).1 = T.setFrames fs) : Steps p.tables e below (T.setTop (mkF m pc Ls (.double z :: rest))) (T.setFrames fs) :=
  retOut X hx hret rfl (Or.inr (Or.inr (Or.inl ⟨rfl, rfl, z, rfl⟩))) hd hl
end OwnD2
/-! doubles: arithmetic, where no NaN comes of it -/
section OwnDA
variable {tb : Tables} [Ours tb] {e : Env} {below : List Frame} {T target : State} {m : MethodId} {c : Code} {g : JFrame}
theorem own_dadd (h : At T m c below) (hx : tb.exec = Jvm.exec) (hg : g.method = m) {x y : UInt64} {rest : List Value} (hd : decode c.code g.pc = .ok (.dadd, 1)) (hs : g.stack = .double y :: .double x :: rest) (hn : Jvm.Free.Fl.NoNaN64 (FP.dadd x y))
    (hr : Steps tb e below (T.setTop { g with pc := g.pc + 1, stack := .double (FP.dadd x y) :: rest }) target) : Steps tb e below (T.setTop g) target := by
  subst hg
  obtain ⟨gm, gp, gl, gs, gk, gn, gr⟩ := g
  dsimp only at h hd hs hr ⊢
  subst hs
  jvm_step h [h.top, hx, hd, Op.dadd.at_number h.top hn]
  exact hr
theorem own_dsub (h : At T m c below) (hx : tb.exec = Jvm.exec) (hg : g.method = m) {x y : UInt64} {rest : List Value} (hd : decode c.code g.pc = .ok (.dsub, 1)) (hs : g.stack = .double y :: .double x :: rest) (hn : Jvm.Free.Fl.NoNaN64 (FP.dsub x y))
    (hr : Steps tb e below (T.setTop { g with pc := g.pc + 1, stack := .double (FP.dsub x y) :: rest }) target) : Steps tb e below (T.setTop g) target := by
  subst hg
  obtain ⟨gm, gp, gl, gs, gk, gn, gr⟩ := g
  dsimp only at h hd hs hr ⊢
  subst hs
  jvm_step h [h.top, hx, hd, Op.dsub.at_number h.top hn]
  exact hr
theorem own_dmul (h : At T m c below) (hx : tb.exec = Jvm.exec) (hg : g.method = m) {x y : UInt64} {rest : List Value} (hd : decode c.code g.pc = .ok (.dmul, 1)) (hs : g.stack = .double y :: .double x :: rest) (hn : Jvm.Free.Fl.NoNaN64 (FP.dmul x y))
    (hr : Steps tb e below (T.setTop { g with pc := g.pc + 1, stack := .double (FP.dmul x y) :: rest }) target) : Steps tb e below (T.setTop g) target := by
  subst hg
  obtain ⟨gm, gp, gl, gs, gk, gn, gr⟩ := g
  dsimp only at h hd hs hr ⊢
  subst hs
  jvm_step h [h.top, hx, hd, Op.dmul.at_number h.top hn]
  exact hr
theorem own_ddiv (h : At T m c below) (hx : tb.exec = Jvm.exec) (hg : g.method = m) {x y : UInt64} {rest : List Value} (hd : decode c.code g.pc = .ok (.ddiv, 1)) (hs : g.stack = .double y :: .double x :: rest) (hn : Jvm.Free.Fl.NoNaN64 (FP.ddiv x y))
    (hr : Steps tb e below (T.setTop { g with pc := g.pc + 1, stack := .double (FP.ddiv x y) :: rest }) target) : Steps tb e below (T.setTop g) target := by
  subst hg
  obtain ⟨gm, gp, gl, gs, gk, gn, gr⟩ := g
  dsimp only at h hd hs hr ⊢
  subst hs
  jvm_step h [h.top, hx, hd, Op.ddiv.at_number h.top hn]
  exact hr
theorem own_dconst0 (h : At T m c below) (hx : tb.exec = Jvm.exec) (hg : g.method = m) (hd : decode c.code g.pc = .ok (.dconst 0, 1))
    (hr : Steps tb e below (T.setTop { g with pc := g.pc + 1, stack := .double FP.dconst0 :: g.stack }) target) : Steps tb e below (T.setTop g) target := by
  subst hg
  jvm_step h [h.top, hx, hd]
  exact hr
theorem own_dconst1 (h : At T m c below) (hx : tb.exec = Jvm.exec) (hg : g.method = m) (hd : decode c.code g.pc = .ok (.dconst 1, 1))
    (hr : Steps tb e below (T.setTop { g with pc := g.pc + 1, stack := .double FP.dconst1 :: g.stack }) target) : Steps tb e below (T.setTop g) target := by
  subst hg
  jvm_step h [h.top, hx, hd]
  exact hr
end OwnDA
theorem own_toInt {n : Nat} (h : n < 2 ^ 31) : (Int32.ofNat n).toInt = n := Int32.toInt_ofNat_of_lt h
theorem own_ltI {a b : Nat} (ha : a < 2 ^ 31) (hb : b < 2 ^ 31) : Int32.ofNat a < Int32.ofNat b ↔ a < b := by
  rw [Int32.lt_iff_toInt_lt, own_toInt ha, own_toInt hb]; omega
theorem own_inj {a b : Nat} (ha : a < 2 ^ 31) (hb : b < 2 ^ 31) : Int32.ofNat a = Int32.ofNat b ↔ a = b := by
  rw [← Int32.toInt_inj, own_toInt ha, own_toInt hb]; omega
theorem own_add1 (a : Nat) : Int32.ofNat a + 1 = Int32.ofNat (a + 1) := by
  rw [Int32.ofNat_add]; rfl
theorem own_addI (a b : Nat) : Int32.ofNat a + Int32.ofNat b = Int32.ofNat (a + b) := by
  rw [Int32.ofNat_add]
theorem own_sub1 (a : Nat) : Int32.ofNat (a + 1) - 1 = Int32.ofNat a := by
  rw [← own_add1]; exact Int32.add_sub_cancel _ _
theorem own_clamp {a : Nat} (h : a < 2 ^ 31) : (Int32.ofNat a).toNatClampNeg = a := by
  rw [Int32.toNatClampNeg, own_toInt h]; rfl
theorem own_nn {a : Nat} (h : a < 2 ^ 31) : ¬ Int32.ofNat a < 0 := by
  rw [Int32.lt_iff_toInt_lt, own_toInt h]; show ¬ (a : Int) < 0; omega
theorem own_ofInt (x : Int32) (h : 0 ≤ x.toInt) : ∃ n : Nat, x = Int32.ofNat n ∧ (n : Int) = x.toInt := by
  refine ⟨x.toInt.toNat, ?_, Int.toNat_of_nonneg h⟩
  rw [← Int32.toInt_inj, own_toInt (by have := x.toInt_lt; omega)]
  omega
theorem own_andL (x : Int64) : 0 ≤ (x &&& (9007199254740991 : Int64)).toInt ∧ (x &&& (9007199254740991 : Int64)).toInt ≤ 9007199254740991 := by
  have h : (x &&& (9007199254740991 : Int64)).toBitVec.toNat ≤ 9007199254740991 := by
    rw [Int64.toBitVec_and, BitVec.toNat_and]; exact Nat.and_le_right
  rw [← Int64.toInt_toBitVec, BitVec.toInt_eq_toNat_of_lt (by omega)]; omega
theorem own_sh15 (y : Int32) : (y >>> ((15 : Int32) &&& 31)).toInt = y.toInt / 32768 := by
  rw [← Int32.toInt_toBitVec, Int32.toBitVec_shiftRight]
  rw [show ((((15 : Int32) &&& 31)).toBitVec.smod 32) = 15#32 from by decide]
  rw [BitVec.sshiftRight_eq', BitVec.toInt_sshiftRight]
  rw [Int.shiftRight_eq_div_pow]
  rfl
theorem own_sh10 (y : Int64) : (y >>> ((10 : Int32) &&& 0x3f).toInt64).toInt = y.toInt / 1024 := by
  rw [← Int64.toInt_toBitVec, Int64.toBitVec_shiftRight]
  rw [show ((((10 : Int32) &&& 0x3f).toInt64).toBitVec.smod 64) = 10#64 from by decide]
  rw [BitVec.sshiftRight_eq', BitVec.toInt_sshiftRight]
  rw [Int.shiftRight_eq_div_pow]
  rfl
section OwnF
open Jvm.FP.Core
theorem own_no {x : UInt64} (h : DFin x) : Jvm.Free.Fl.NoNaN64 x := Jvm.Free.Fl.val64_no.mpr (by obtain ⟨s, c, q, e⟩ := h; rw [e]; exact Datum.noConfusion)
theorem own_nn' {x : UInt64} (h : DFin x) : val64 x ≠ .nan := Jvm.Free.Fl.val64_no.mp (own_no h)
theorem own_cv (x y : UInt64) (hx : val64 x ≠ .nan) (hy : val64 y ≠ .nan) : cmpValue (Jvm.FP.dcmp x y) .l < 0 ↔ zval b64 (val64 x) < zval b64 (val64 y) := by
  rw [show Jvm.FP.dcmp x y = some (compare (zval b64 (val64 x)) (zval b64 (val64 y))) from dcmp_zval hx hy]
  generalize zval b64 (val64 x) = i
  generalize zval b64 (val64 y) = j
  rcases Int.lt_trichotomy i j with h | h | h
  · rw [Int.compare_eq_lt.mpr h]; exact ⟨fun _ => h, fun _ => by decide⟩
  · rw [Int.compare_eq_eq.mpr h]; exact ⟨fun q => absurd q (by decide), fun q => by omega⟩
  · rw [Int.compare_eq_gt.mpr h]; exact ⟨fun q => absurd q (by decide), fun q => by omega⟩
theorem own_cgg (x y : UInt64) (hx : val64 x ≠ .nan) (hy : val64 y ≠ .nan) : (0 : Int32) < cmpValue (Jvm.FP.dcmp x y) .g ↔ zval b64 (val64 y) < zval b64 (val64 x) := by
  rw [show Jvm.FP.dcmp x y = some (compare (zval b64 (val64 x)) (zval b64 (val64 y))) from dcmp_zval hx hy]
  generalize zval b64 (val64 x) = i
  generalize zval b64 (val64 y) = j
  rcases Int.lt_trichotomy i j with h | h | h
  · rw [Int.compare_eq_lt.mpr h]; exact ⟨fun q => absurd q (by decide), fun q => by omega⟩
  · rw [Int.compare_eq_eq.mpr h]; exact ⟨fun q => absurd q (by decide), fun q => by omega⟩
  · rw [Int.compare_eq_gt.mpr h]; exact ⟨fun _ => h, fun _ => by decide⟩
theorem own_zc : val64 Jvm.FP.dconst0 ≠ .nan ∧ zval b64 (val64 Jvm.FP.dconst0) = 0 := by decide +kernel
theorem own_inf {x : UInt64} (h : DFin x) : ¬ (0 : Int32) < cmpValue (Jvm.FP.dcmp (x &&& 0x7fffffffffffffff) 9218868437227405311) .l := by
  rcases (le_max ((notNaN_iff x).mpr (own_nn' h))).mpr h with q | q
  · rw [show Jvm.FP.dcmp (x &&& 0x7fffffffffffffff) 9218868437227405311 = some .lt from q]; decide
  · rw [show Jvm.FP.dcmp (x &&& 0x7fffffffffffffff) 9218868437227405311 = some .eq from q]; decide
theorem own_frac (j : Nat) (hj : j ≤ 60) (p : Int) (h : p.natAbs < 2 ^ 53) : ∃ V : UInt64, val64 V ≠ .nan ∧ ((2 ^ j : Nat) : Int) * zval b64 (val64 V) = p * (one64 : Int) := by
  have q1 : b64.qmin = -1074 := qmin_b64
  have q2 : b64.qmax = 971 := by decide
  obtain ⟨c', q', h1, h2⟩ := round_exact good_b64 (decide (p < 0)) (c := p.natAbs) (q := -(j : Int)) h (by omega) (by omega)
  have hf := round_fits good_b64 (.fin (decide (p < 0)) p.natAbs (-(j : Int)))
  refine ⟨of64 (Jvm.FP.Core.round b64 (.fin (decide (p < 0)) p.natAbs (-(j : Int)))), ?_, ?_⟩
  · rw [val64_of64 hf, h1]; exact Datum.noConfusion
  · rw [val64_of64 hf, h1]
    have e : zval b64 (.fin (decide (p < 0)) c' q') = signed (decide (p < 0)) (p.natAbs * 2 ^ (1074 - j)) := by
      show signed (decide (p < 0)) (inUnits c' q' b64.qmin) = _
      rw [h2, q1]
      unfold inUnits
      rw [show (-(j : Int) - (-1074)).toNat = 1074 - j by omega]
    rw [e, signed_mul]
    have hs : signed (decide (p < 0)) p.natAbs = p := by
      unfold signed
      by_cases h : p < 0 <;> simp [h] <;> omega
    have ho : (one64 : Int) = ((2 ^ j : Nat) : Int) * ((2 ^ (1074 - j) : Nat) : Int) := by
      rw [← Int.natCast_mul, ← Nat.pow_add, show j + (1074 - j) = 1074 by omega]
      rfl
    rw [hs, ho, ← Int.mul_assoc, ← Int.mul_assoc, Int.mul_comm _ p]
/-- the bounds of a sum -/
theorem own_sle {a b V : UInt64} (ha : DFin a) (hb : DFin b) (hV : val64 V ≠ .nan) (h : zval b64 (val64 a) + zval b64 (val64 b) ≤ zval b64 (val64 V)) : zval b64 (val64 (Jvm.FP.Core.dadd a b)) ≤ zval b64 (val64 V) := by
  rw [val64_dadd]
  exact sum_le good_b64 ha hb (val64_fits a) (val64_fits b) (val64_fits V) hV h
theorem own_sge {a b V : UInt64} (ha : DFin a) (hb : DFin b) (hV : val64 V ≠ .nan) (h : zval b64 (val64 V) ≤ zval b64 (val64 a) + zval b64 (val64 b)) : zval b64 (val64 V) ≤ zval b64 (val64 (Jvm.FP.Core.dadd a b)) := by
  rw [val64_dadd]
  exact sum_ge good_b64 ha hb (val64_fits a) (val64_fits b) (val64_fits V) hV h
theorem own_near {a b : UInt64} (ha : DFin a) (hb : DFin b) (hd : DFin (Jvm.FP.Core.dadd a b)) (h1 : 0 ≤ zval b64 (val64 a)) (h2 : 0 ≤ zval b64 (val64 b)) : zval b64 (val64 (Jvm.FP.Core.dadd a b)) ≤ zval b64 (val64 a) + 2 * zval b64 (val64 b) := by
  obtain ⟨s, c, q, ea⟩ := ha
  obtain ⟨t, d, r, eb⟩ := hb
  obtain ⟨u, f, w, ed⟩ := hd
  have fa := val64_fits a
  have fb := val64_fits b
  rw [ea] at fa
  rw [eb] at fb
  obtain ⟨sg, n, e, k1, k2, k3⟩ := sum_units fa fb
  have hv := val64_dadd a b
  rw [ea, eb, k1] at hv
  have hr : roundRatio b64 sg n 1 e = .fin u f w := by rw [← ed, hv]; rfl
  have hn := roundRatio_nearest good_b64 (by decide) hr (c' := c) (q' := q) fa.1 fa.2.1 (e0 := b64.qmin) (Int.le_refl _) k2
  have hu : u = sg := by
    have := sgn_roundRatio b64 sg n 1 e
    rw [hr] at this
    exact this
  subst hu
  rw [ed]
  rw [ea] at h1 ⊢
  rw [eb] at h2 ⊢
  unfold distance at hn
  have z1 : zval b64 (.fin s c q) = signed s (inUnits c q b64.qmin) := rfl
  have z3 : zval b64 (.fin u f w) = signed u (inUnits f w b64.qmin) := rfl
  rw [z1] at h1 k3 ⊢
  rw [z3]
  generalize zval b64 (.fin t d r) = zb at *
  generalize inUnits n e b64.qmin = N at *
  generalize inUnits c q b64.qmin = A at *
  generalize inUnits f w b64.qmin = F at *
  have hA : signed s A = (A : Int) := by
    cases s
    · rfl
    · have : signed true A = -(A : Int) := rfl
      omega
  rw [hA] at k3 ⊢
  cases u
  · have e1 : signed false N = (N : Int) := rfl
    have e2 : signed false F = (F : Int) := rfl
    rw [e1] at k3
    rw [e2]
    omega
  · have e2 : signed true F = -(F : Int) := rfl
    rw [e2]
    omega
theorem own_ec : val64 4517329193108106637 ≠ .nan ∧ (4517329193108106637 : UInt64).toNat % 2 ^ 63 < 9218868437227405312 ∧ 1073 * (one64 : Int) ≤ 1073741824 * zval b64 (val64 4517329193108106637) ∧ 4294967296 * zval b64 (val64 4517329193108106637) ≤ 4295 * (one64 : Int) ∧ 0 ≤ zval b64 (val64 4517329193108106637) := by decide +kernel
theorem own_ecf : DFin 4517329193108106637 := (fin_bits _).mpr own_ec.2.1
theorem own_ks : ∀ i j : Fin 64, (Jvm.FP.Core.ddiv (Jvm.FP.Core.i2d (Int32.ofNat (64 * i.val + j.val))) 4742290407621132288).toNat % 2 ^ 63 < 9218868437227405312 ∧ 1073741824 * zval b64 (val64 (Jvm.FP.Core.ddiv (Jvm.FP.Core.i2d (Int32.ofNat (64 * i.val + j.val))) 4742290407621132288)) = ((64 * i.val + j.val : Nat) : Int) * (one64 : Int) := by decide +kernel
theorem own_k (k : Int32) (hk : 0 ≤ k.toInt ∧ k.toInt ≤ 4095) : DFin (Jvm.FP.ddiv (Jvm.FP.i2d k) 4742290407621132288) ∧ 1073741824 * zval b64 (val64 (Jvm.FP.ddiv (Jvm.FP.i2d k) 4742290407621132288)) = k.toInt * (one64 : Int) := by
  obtain ⟨n, rfl, hn⟩ := own_ofInt k hk.1
  have h := own_ks ⟨n / 64, by omega⟩ ⟨n % 64, by omega⟩
  dsimp only at h
  rw [show 64 * (n / 64) + n % 64 = n by omega] at h
  rw [← hn]
  exact ⟨(fin_bits _).mpr h.1, h.2⟩
def own_D (x : UInt64) : UInt64 := Jvm.FP.dadd x 4517329193108106637
theorem own_Dn {x : UInt64} (h : DFin x) : val64 (own_D x) ≠ .nan := (notNaN_iff _).mp (dadd_out' h ((notNaN_iff _).mpr own_ec.1))
theorem own_Dno {x : UInt64} (h : DFin x) : Jvm.Free.Fl.NoNaN64 (own_D x) := Jvm.Free.Fl.val64_no.mpr (own_Dn h)
def own_M (m k : Int32) : UInt64 := Jvm.FP.dadd (Jvm.FP.i2d m) (Jvm.FP.ddiv (Jvm.FP.i2d k) 4742290407621132288)
theorem own_Mn (m k : Int32) (hk : 0 ≤ k.toInt ∧ k.toInt ≤ 4095) : val64 (own_M m k) ≠ .nan := (notNaN_iff _).mp (dadd_out' (i2d_fin m) ((notNaN_iff _).mpr (own_nn' (own_k k hk).1)))
theorem own_Mz (m k : Int32) (hm : -65536 ≤ m.toInt ∧ m.toInt < 65536) (hk : 0 ≤ k.toInt ∧ k.toInt ≤ 4095) : 1073741824 * zval b64 (val64 (own_M m k)) = (m.toInt * 1073741824 + k.toInt) * (one64 : Int) := by
  obtain ⟨V, hV, eV⟩ := own_frac 30 (by decide) (m.toInt * 1073741824 + k.toInt) (by omega)
  obtain ⟨fk, zk⟩ := own_k k hk
  have zm : zval b64 (val64 (Jvm.FP.Core.i2d m)) = m.toInt * (one64 : Int) := DInt_zval (i2d_int m)
  have e30 : ((2 ^ 30 : Nat) : Int) = 1073741824 := rfl
  rw [e30] at eV
  have hs : zval b64 (val64 (Jvm.FP.Core.i2d m)) + zval b64 (val64 (Jvm.FP.ddiv (Jvm.FP.i2d k) 4742290407621132288)) = zval b64 (val64 V) := by
    apply Int.eq_of_mul_eq_mul_left (by decide : (1073741824 : Int) ≠ 0)
    rw [eV, Int.mul_add, zk, zm, Int.add_mul, ← Int.mul_assoc, Int.mul_comm 1073741824 m.toInt]
  have l1 := own_sle (i2d_fin m) fk hV (Int.le_of_eq hs)
  have l2 := own_sge (i2d_fin m) fk hV (Int.le_of_eq hs.symm)
  have : zval b64 (val64 (own_M m k)) = zval b64 (val64 V) := Int.le_antisymm l1 l2
  rw [this, eV]
theorem own_met1 (s m k : Int32) (hs : 0 ≤ s.toInt ∧ s.toInt ≤ 65535) (hm : -65536 ≤ m.toInt ∧ m.toInt < 65536) (hk : 0 ≤ k.toInt ∧ k.toInt ≤ 4095) : (0 : Int32) < cmpValue (Jvm.FP.dcmp (own_M m k) (own_D (Jvm.FP.i2d s))) .g ↔ s.toInt * 1073741824 + 1073 < m.toInt * 1073741824 + k.toInt := by
  rw [own_cgg _ _ (own_Mn m k hk) (own_Dn (i2d_fin s))]
  have zM := own_Mz m k hm hk
  have zs : zval b64 (val64 (Jvm.FP.Core.i2d s)) = s.toInt * (one64 : Int) := DInt_zval (i2d_int s)
  obtain ⟨e0, -, e1, e2, e3⟩ := own_ec
  obtain ⟨V1, hV1, z1⟩ := own_frac 30 (by decide) (s.toInt * 1073741824 + 1073) (by omega)
  obtain ⟨V2, hV2, z2⟩ := own_frac 32 (by decide) (s.toInt * 4294967296 + 4295) (by omega)
  have e30 : ((2 ^ 30 : Nat) : Int) = 1073741824 := rfl
  have e32 : ((2 ^ 32 : Nat) : Int) = 4294967296 := rfl
  rw [e30] at z1
  rw [e32] at z2
  have ho : (0 : Int) < (one64 : Int) := by have := one64_pos; omega
  have l1 := own_sge (i2d_fin s) own_ecf hV1 (by
    rw [zs]
    rw [Int.add_mul, Int.mul_assoc, Int.mul_comm 1073741824 (one64 : Int), ← Int.mul_assoc] at z1
    generalize s.toInt * (one64 : Int) = so at *
    omega)
  have l2 := own_sle (i2d_fin s) own_ecf hV2 (by
    rw [zs]
    rw [Int.add_mul, Int.mul_assoc, Int.mul_comm 4294967296 (one64 : Int), ← Int.mul_assoc] at z2
    generalize s.toInt * (one64 : Int) = so at *
    omega)
  have l1' : zval b64 (val64 V1) ≤ zval b64 (val64 (own_D (Jvm.FP.i2d s))) := l1
  have l2' : zval b64 (val64 (own_D (Jvm.FP.i2d s))) ≤ zval b64 (val64 V2) := l2
  generalize zval b64 (val64 (own_D (Jvm.FP.i2d s))) = zD at *
  generalize zval b64 (val64 (own_M m k)) = zm at *
  generalize zval b64 (val64 V1) = v1 at *
  generalize zval b64 (val64 V2) = v2 at *
  constructor
  · intro hlt
    refine Int.not_le.mp fun hle => ?_
    have q : (m.toInt * 1073741824 + k.toInt) * (one64 : Int) ≤ (s.toInt * 1073741824 + 1073) * (one64 : Int) := Int.mul_le_mul_of_nonneg_right hle (Int.le_of_lt ho)
    omega
  · intro hlt
    have q : (s.toInt * 4294967296 + 4296) * (one64 : Int) ≤ (4 * (m.toInt * 1073741824 + k.toInt)) * (one64 : Int) := Int.mul_le_mul_of_nonneg_right (by omega) (Int.le_of_lt ho)
    have q2 : (s.toInt * 4294967296 + 4295) * (one64 : Int) < (s.toInt * 4294967296 + 4296) * (one64 : Int) := Int.mul_lt_mul_of_pos_right (by omega) ho
    rw [Int.mul_assoc] at q
    omega
theorem own_met2 (s m : Int64) (hs : 0 ≤ s.toInt ∧ s.toInt ≤ 9007199254740991) (hm : -9007199254740992 ≤ m.toInt ∧ m.toInt < 9007199254740992) : (0 : Int32) < cmpValue (Jvm.FP.dcmp (Jvm.FP.l2d m) (own_D (Jvm.FP.l2d s))) .g ↔ s.toInt < m.toInt := by
  rw [own_cgg _ _ (own_nn' (l2d_fin m)) (own_Dn (l2d_fin s))]
  have zs : zval b64 (val64 (Jvm.FP.Core.l2d s)) = s.toInt * (one64 : Int) := DInt_zval (l2d_int (by omega))
  have zm : zval b64 (val64 (Jvm.FP.Core.l2d m)) = m.toInt * (one64 : Int) := DInt_zval (l2d_int (by omega))
  obtain ⟨e0, -, e1, e2, e3⟩ := own_ec
  have ho : (0 : Int) < (one64 : Int) := by have := one64_pos; omega
  have h0 : 0 ≤ s.toInt * (one64 : Int) := Int.mul_nonneg hs.1 (Int.le_of_lt ho)
  have l1 : zval b64 (val64 (Jvm.FP.Core.l2d s)) ≤ zval b64 (val64 (own_D (Jvm.FP.l2d s))) := own_sge (l2d_fin s) own_ecf (own_nn' (l2d_fin s)) (by
    show zval b64 (val64 (Jvm.FP.Core.l2d s)) ≤ zval b64 (val64 (Jvm.FP.Core.l2d s)) + zval b64 (val64 4517329193108106637)
    omega)
  have fD : DFin (own_D (Jvm.FP.l2d s)) := by
    have q := dadd_mag (l2d_mag s) (show (4517329193108106637 : UInt64).toNat % 2 ^ 63 < 1088 * 2 ^ 52 by decide) (by decide)
    exact fin_of_lt q (by decide)
  have l2 : zval b64 (val64 (own_D (Jvm.FP.l2d s))) ≤ _ := own_near (l2d_fin s) own_ecf fD (by rw [zs]; exact h0) e3
  rw [zs] at l1 l2
  show _ < zval b64 (val64 (Jvm.FP.Core.l2d m)) ↔ _
  rw [zm]
  generalize zval b64 (val64 (own_D (Jvm.FP.l2d s))) = zD at *
  constructor
  · intro hlt
    refine Int.not_le.mp fun hle => ?_
    have q : m.toInt * (one64 : Int) ≤ s.toInt * (one64 : Int) := Int.mul_le_mul_of_nonneg_right hle (Int.le_of_lt ho)
    omega
  · intro hlt
    have q : (s.toInt + 1) * (one64 : Int) ≤ m.toInt * (one64 : Int) := Int.mul_le_mul_of_nonneg_right (by omega) (Int.le_of_lt ho)
    rw [Int.add_mul] at q
    omega
theorem own_pos {x : UInt64} (h : DFin x) (h0 : 0 ≤ zval b64 (val64 x)) : ¬ cmpValue (Jvm.FP.dcmp x Jvm.FP.dconst0) .l < (0 : Int32) := by
  rw [own_cv _ _ (own_nn' h) own_zc.1, own_zc.2]
  omega
theorem own_posI (s : Int32) (h : 0 ≤ s.toInt) : ¬ cmpValue (Jvm.FP.dcmp (Jvm.FP.i2d s) Jvm.FP.dconst0) .l < (0 : Int32) := own_pos (i2d_fin s) (by
  rw [show zval b64 (val64 (Jvm.FP.i2d s)) = s.toInt * (one64 : Int) from DInt_zval (i2d_int s)]
  exact Int.mul_nonneg h (by omega))
theorem own_posL (s : Int64) (h : 0 ≤ s.toInt ∧ s.toInt ≤ 9007199254740991) : ¬ cmpValue (Jvm.FP.dcmp (Jvm.FP.l2d s) Jvm.FP.dconst0) .l < (0 : Int32) := own_pos (l2d_fin s) (by
  rw [show zval b64 (val64 (Jvm.FP.l2d s)) = s.toInt * (one64 : Int) from DInt_zval (l2d_int (by omega))]
  exact Int.mul_nonneg h.1 (by omega))
end OwnF
theorem own_exp1 (s m k ex : Int32) (hk : 0 ≤ k.toInt ∧ k.toInt ≤ 4095) (h : ex = (if m < s then (1 : Int32) else (if s < m then (0 : Int32) else (if (1073 : Int32) < k then (0 : Int32) else (1 : Int32))))) : (if s.toInt * 1073741824 + 1073 < m.toInt * 1073741824 + k.toInt then (0 : Int32) else 1) = ex := by
  rw [h]
  simp only [Int32.lt_iff_toInt_lt]
  have e : (1073 : Int32).toInt = 1073 := rfl
  rw [e]
  repeat' split
  all_goals first | rfl | omega
theorem d4_0 : decode jdk_117_method_7_code 0 = .ok (.dload_n 0, 1) := by decide +kernel
theorem d4_1 : decode jdk_117_method_7_code 1 = .ok (.invokestatic 38, 3) := by decide +kernel
theorem d4_4 : decode jdk_117_method_7_code 4 = .ok (.ldc2_w 111, 3) := by decide +kernel
theorem d4_7 : decode jdk_117_method_7_code 7 = .ok (.dcmp .l, 1) := by decide +kernel
theorem d4_8 : decode jdk_117_method_7_code 8 = .ok (.ifCond .le 7, 3) := by decide +kernel
theorem d4_11 : decode jdk_117_method_7_code 11 = .ok (.iconst 1, 1) := by decide +kernel
theorem d4_12 : decode jdk_117_method_7_code 12 = .ok (.goto 4, 3) := by decide +kernel
theorem d4_15 : decode jdk_117_method_7_code 15 = .ok (.iconst 0, 1) := by decide +kernel
theorem d4_16 : decode jdk_117_method_7_code 16 = .ok (.ireturn, 1) := by decide +kernel
theorem d3_0 : decode prog_8_method_4_code 0 = .ok (.dload_n 0, 1) := by decide +kernel
theorem d3_1 : decode prog_8_method_4_code 1 = .ok (.dconst 0, 1) := by decide +kernel
theorem d3_2 : decode prog_8_method_4_code 2 = .ok (.dcmp .l, 1) := by decide +kernel
theorem d3_3 : decode prog_8_method_4_code 3 = .ok (.ifCond .lt 10, 3) := by decide +kernel
theorem d3_6 : decode prog_8_method_4_code 6 = .ok (.dload_n 0, 1) := by decide +kernel
theorem d3_7 : decode prog_8_method_4_code 7 = .ok (.invokestatic 7, 3) := by decide +kernel
theorem d3_10 : decode prog_8_method_4_code 10 = .ok (.ifCond .eq 18, 3) := by decide +kernel
theorem d3_13 : decode prog_8_method_4_code 13 = .ok (.new 13, 3) := by decide +kernel
theorem d3_16 : decode prog_8_method_4_code 16 = .ok (.dup, 1) := by decide +kernel
theorem d3_17 : decode prog_8_method_4_code 17 = .ok (.aload_n 2, 1) := by decide +kernel
theorem d3_18 : decode prog_8_method_4_code 18 = .ok (.dload_n 0, 1) := by decide +kernel
theorem d3_19 : decode prog_8_method_4_code 19 = .ok (.invokedynamic 26, 5) := by decide +kernel
theorem d3_24 : decode prog_8_method_4_code 24 = .ok (.invokespecial 19, 3) := by decide +kernel
theorem d3_27 : decode prog_8_method_4_code 27 = .ok (.athrow, 1) := by decide +kernel
theorem d3_28 : decode prog_8_method_4_code 28 = .ok (.dload_n 0, 1) := by decide +kernel
theorem d3_29 : decode prog_8_method_4_code 29 = .ok (.dreturn, 1) := by decide +kernel
theorem d1_0 : decode prog_10_method_1_code 0 = .ok (.aload_n 0, 1) := by decide +kernel
theorem d1_1 : decode prog_10_method_1_code 1 = .ok (.invokespecial 1, 3) := by decide +kernel
theorem d1_4 : decode prog_10_method_1_code 4 = .ok (.aload_n 0, 1) := by decide +kernel
theorem d1_5 : decode prog_10_method_1_code 5 = .ok (.dload_n 1, 1) := by decide +kernel
theorem d1_6 : decode prog_10_method_1_code 6 = .ok (.ldc 7, 2) := by decide +kernel
theorem d1_8 : decode prog_10_method_1_code 8 = .ok (.invokestatic 9, 3) := by decide +kernel
theorem d1_11 : decode prog_10_method_1_code 11 = .ok (.putfield 15, 3) := by decide +kernel
theorem d1_14 : decode prog_10_method_1_code 14 = .ok (.return_, 1) := by decide +kernel
theorem d6_0 : decode prog_10_method_4_code 0 = .ok (.dload_n 1, 1) := by decide +kernel
theorem d6_1 : decode prog_10_method_4_code 1 = .ok (.aload_n 0, 1) := by decide +kernel
theorem d6_2 : decode prog_10_method_4_code 2 = .ok (.getfield 15, 3) := by decide +kernel
theorem d6_5 : decode prog_10_method_4_code 5 = .ok (.ldc2_w 40, 3) := by decide +kernel
theorem d6_8 : decode prog_10_method_4_code 8 = .ok (.dadd, 1) := by decide +kernel
theorem d6_9 : decode prog_10_method_4_code 9 = .ok (.dcmp .g, 1) := by decide +kernel
theorem d6_10 : decode prog_10_method_4_code 10 = .ok (.ifCond .gt 7, 3) := by decide +kernel
theorem d6_13 : decode prog_10_method_4_code 13 = .ok (.iconst 1, 1) := by decide +kernel
theorem d6_14 : decode prog_10_method_4_code 14 = .ok (.goto 4, 3) := by decide +kernel
theorem d6_17 : decode prog_10_method_4_code 17 = .ok (.iconst 0, 1) := by decide +kernel
theorem d6_18 : decode prog_10_method_4_code 18 = .ok (.ireturn, 1) := by decide +kernel
theorem own_pd0 : parseMethodDescriptor "(D)D" = some ⟨[.double], some .double⟩ := by decide +kernel
theorem own_pd1 : parseMethodDescriptor "(D)Z" = some ⟨[.double], some .boolean⟩ := by decide +kernel
theorem own_pd2 : parseMethodDescriptor "(DLjava/lang/String;)D" = some ⟨[.double, (.object "java/lang/String")], some .double⟩ := by decide +kernel
theorem own_pd3 : parseMethodDescriptor "(D)V" = some ⟨[.double], none⟩ := by decide +kernel
theorem pn_0 : plainName "com/example/frugal_scheduler/frugalscheduler/model/DeadlineIsMetByPinLaw" = true := by first | (simp [plainName, overriddenIn]; done) | decide +kernel
theorem pn_4 : plainName "java/lang/Double" = true := by first | (simp [plainName, overriddenIn]; done) | decide +kernel
theorem pn_3 : plainName "com/example/frugal_scheduler/frugalscheduler/model/Checks" = true := by first | (simp [plainName, overriddenIn]; done) | decide +kernel
theorem pn_1 : plainName "com/example/frugal_scheduler/frugalscheduler/model/Deadline" = true := by first | (simp [plainName, overriddenIn]; done) | decide +kernel
theorem pn_6 : plainName "com/example/frugal_scheduler/frugalscheduler/model/Deadline" = true := by first | (simp [plainName, overriddenIn]; done) | decide +kernel
theorem ef_4 (m : MethodId) (x1 : UInt64) : entryFrame m #[(.double x1)] 2 = mkF m 0 #[.val (.double x1), .second] [] := by first | (simp [entryFrame, mkF, argsToLocals, Value.category]; done) | rfl
def Q4 (Z : State) (x1 : UInt64)  (h0 : Heap) (n0 : Nat) (v : Option Value) (h : Heap) (L : List Loc) : Prop := v = some (.int (0 : Int32)) ∧ Fr n0 L ∧ h = h0
set_option maxRecDepth 65536 in
set_option maxHeartbeats 40000000 in
theorem rm4 (l : Launch) (Z : State) (a0 : Array Value) (hw : ∀ d ∈ tables_1, d.before a0 Z = true) (ws : List Jvm.Cond) (x1 : UInt64)  (h0 : Heap) (n0 : Nat) (Z0 : n0 ≤ h0.size) (hf : FP.Core.DFin x1) :
    MetFree l (⟨"java/lang/Double", "isInfinite", "(D)Z"⟩ : MethodName) (head1 (Jvm.Cond.code (⟨"java/lang/Double", "isInfinite", "(D)Z"⟩ : MethodName) jdk_117_method_7_code 2 (some .boolean) :: ws) ({ frames := 1, cells := 0, slots := 0, locals := 13 } : Room)) (fun a U => a = #[(.double x1)] ∧ Z.Warmed39 U.vm ∧ U.heap = h0) (fun _ _ _ _ _ => True) (fun _ U o U' => ∃ v L, o = .returned v ∧ Q4 Z x1 h0 n0 v U'.heap L ∧ FrameEnd U o U' L ({ frames := 1, cells := 0, slots := 0, locals := 13 } : Room).cells ({ frames := 1, cells := 0, slots := 0, locals := 13 } : Room).slots) := by
  refine MetFree.of_bodySF (plainFor_of_name pn_4) hisR ?_
  intro p e s m args below meth cd s₁ Bd hml0 hP hK
  obtain ⟨rfl, hZ, hh⟩ := hP
  have hx := Bd.exec
  have hby := Bd.bytes
  have hml : cd.maxLocals = 2 := hml0
  have hown : s.vm.findClass "java/lang/Double" = some m.cls := findClass_of_methodNamed Bd.named
  have hnm := (name_of_methodNamed Bd.named Bd.method).1
  have X0 : Stand p l e ({ frames := 1, cells := 0, slots := 0, locals := 13 } : Room) s m #[(.double x1)] below meth cd s₁ [] 0 0 := Stand.of_body Bd
  have e0 : s₁.heap = h0 := by rw [← hh, Bd.state]; rfl
  have N0 := Fr.nil n0
  show own_R p.tables e below _ (s₁.setTop (entryFrame m #[(.double x1)] 2))
  refine own_by (fun t kZ => castTop (ef_4 m x1) kZ) ?_
  show own_R p.tables e below _ (s₁.setTop (mkF m 0 #[.val (.double x1), .second] []))
  refine own_by (fun _ kZ => own_dloadN X0.here hx rfl (hb hby d4_0) rfl kZ) ?_
  show own_R p.tables e below _ (s₁.setTop (mkF m 1 #[.val (.double x1), .second] [(.double x1)]))
  obtain ⟨_, vm1, ⟨T1, L1, k1, n1⟩, -, X1, ⟨rfl, hB1⟩, st1⟩ := Jvm.LawKit.callS X0 hx (y := (⟨"java/lang/Math", "abs", "(D)D"⟩ : MethodName)) hown (mvT hZ (hw _ (List.mem_of_getElem? (i := 26) rfl))) (mvT hZ (hw _ (List.mem_of_getElem? (i := 27) rfl))) (mvT hZ (hw _ (List.mem_of_getElem? (i := 28) rfl))) (mvT hZ (hw _ (List.mem_of_getElem? (i := 29) rfl))) (by decide) (Jvm.Free.Fl.Abs.absD_pays (W := 0) x1 (mvT hZ (hw _ (List.mem_of_getElem? (i := 29) rfl))) (by decide) (by decide)) (g := (mkF m 1 #[.val (.double x1), .second] [(.double x1)])) rfl (by rw [hml]; rfl) (argsL := [(.double x1)]) (rest := []) (lenOf own_pd0 rfl) rfl (by show 2 * 0 + _ ≤ _; exact Nat.le_of_eq rfl) (hb hby d4_1) (fun _ _ => ⟨Nat.zero_le _, Nat.zero_le _, rfl, own_no hf⟩)
  cases hB1
  dsimp only [Pt.U, Pt.locs, Pt.cells, Pt.slots] at X1 st1
  have e1 : (s₁.setVm vm1).heap = h0 := e0
  refine own_by st1 ?_
  show own_R p.tables e below _ ((s₁.setVm vm1).setTop (mkF m 4 #[.val (.double x1), .second] [(.double (x1 &&& 0x7fffffffffffffff))]))
  refine own_by (fun _ kZ => X1.ldc2DoubleC hx hown (mvT hZ (hw _ (List.mem_of_getElem? (i := 30) rfl))) (g := (mkF m 4 #[.val (.double x1), .second] [(.double (x1 &&& 0x7fffffffffffffff))])) rfl (hb hby d4_4) _ kZ) ?_
  show own_R p.tables e below _ ((s₁.setVm vm1).setTop (mkF m 7 #[.val (.double x1), .second] [(.double (9218868437227405311 : UInt64)), (.double (x1 &&& 0x7fffffffffffffff))]))
  refine own_by (fun _ kZ => own_dcmp X1.here hx rfl (hb hby d4_7) rfl kZ) ?_
  show own_R p.tables e below _ ((s₁.setVm vm1).setTop (mkF m 8 #[.val (.double x1), .second] [(.int (cmpValue (FP.dcmp (x1 &&& 0x7fffffffffffffff) (9218868437227405311 : UInt64)) .l))]))
  refine own_by (fun _ kZ => XS.ifYes X1.here hx rfl (pc0 := 8) (pc' := 15) rfl (hb hby d4_8) rfl ((if0 _ _).trans (flt (own_inf hf)).2.2.2) (by decide) (by decide) kZ) ?_
  show own_R p.tables e below _ ((s₁.setVm vm1).setTop (mkF m 15 #[.val (.double x1), .second] []))
  refine own_by (fun _ kZ => XS.iconst X1.here hx rfl (hb hby d4_15) kZ) ?_
  show own_R p.tables e below _ ((s₁.setVm vm1).setTop (mkF m 16 #[.val (.double x1), .second] [(.int (0 : Int32))]))
  obtain ⟨fs, hr, hrun, hended, hW, hsame⟩ := X1.leave (v := some (.int (0 : Int32))) (fun h => by rw [Bd.returns] at h; cases h)
  refine own_end ⟨_, _, ?_, hrun, hended, _, _, rfl, ?_, ⟨_, rfl⟩, hW, hsame.mono (by decide) (by decide)⟩
  · exact retN X1 hx (t := .boolean) Bd.returns (by simp) (hb hby d4_16) hr
  · show Q4 Z x1 h0 n0 _ (s₁.setVm vm1).heap _
    rw [e1]
    exact ⟨rfl, N0, rfl⟩
theorem ef_3 (m : MethodId) (x1 : UInt64) (a2 : Addr) : entryFrame m #[(.double x1), (.ref a2)] 3 = mkF m 0 #[.val (.double x1), .second, .val (.ref a2)] [] := by first | (simp [entryFrame, mkF, argsToLocals, Value.category]; done) | rfl
def Q3 (Z : State) (x1 : UInt64) (a2 : Addr)  (h0 : Heap) (n0 : Nat) (v : Option Value) (h : Heap) (L : List Loc) : Prop := v = some (.double x1) ∧ Fr n0 L ∧ h = h0
set_option maxRecDepth 65536 in
set_option maxHeartbeats 40000000 in
theorem rm3 (l : Launch) (Z : State) (a0 : Array Value) (hw : ∀ d ∈ tables_1, d.before a0 Z = true) (ws : List Jvm.Cond) (x1 : UInt64) (a2 : Addr)  (h0 : Heap) (n0 : Nat) (Z0 : n0 ≤ h0.size) (hf : FP.Core.DFin x1) (hp : ¬ cmpValue (FP.dcmp x1 FP.dconst0) .l < (0 : Int32)) :
    MetFree l (⟨"com/example/frugal_scheduler/frugalscheduler/model/Checks", "nonNegative", "(DLjava/lang/String;)D"⟩ : MethodName) (head1 (Jvm.Cond.code (⟨"com/example/frugal_scheduler/frugalscheduler/model/Checks", "nonNegative", "(DLjava/lang/String;)D"⟩ : MethodName) prog_8_method_4_code 3 (some .double) :: ws) ({ frames := 2, cells := 0, slots := 0, locals := 26 } : Room)) (fun a U => a = #[(.double x1), (.ref a2)] ∧ Z.Warmed39 U.vm ∧ U.heap = h0) (fun _ _ _ _ _ => True) (fun _ U o U' => ∃ v L, o = .returned v ∧ Q3 Z x1 a2 h0 n0 v U'.heap L ∧ FrameEnd U o U' L ({ frames := 2, cells := 0, slots := 0, locals := 26 } : Room).cells ({ frames := 2, cells := 0, slots := 0, locals := 26 } : Room).slots) := by
  refine MetFree.of_bodySF (plainFor_of_name pn_3) hisR ?_
  intro p e s m args below meth cd s₁ Bd hml0 hP hK
  obtain ⟨rfl, hZ, hh⟩ := hP
  have hx := Bd.exec
  have hby := Bd.bytes
  have hml : cd.maxLocals = 3 := hml0
  have hown : s.vm.findClass "com/example/frugal_scheduler/frugalscheduler/model/Checks" = some m.cls := findClass_of_methodNamed Bd.named
  have hnm := (name_of_methodNamed Bd.named Bd.method).1
  have X0 : Stand p l e ({ frames := 2, cells := 0, slots := 0, locals := 26 } : Room) s m #[(.double x1), (.ref a2)] below meth cd s₁ [] 0 0 := Stand.of_body Bd
  have e0 : s₁.heap = h0 := by rw [← hh, Bd.state]; rfl
  have N0 := Fr.nil n0
  show own_R p.tables e below _ (s₁.setTop (entryFrame m #[(.double x1), (.ref a2)] 3))
  refine own_by (fun t kZ => castTop (ef_3 m x1 a2) kZ) ?_
  show own_R p.tables e below _ (s₁.setTop (mkF m 0 #[.val (.double x1), .second, .val (.ref a2)] []))
  refine own_by (fun _ kZ => own_dloadN X0.here hx rfl (hb hby d3_0) rfl kZ) ?_
  show own_R p.tables e below _ (s₁.setTop (mkF m 1 #[.val (.double x1), .second, .val (.ref a2)] [(.double x1)]))
  refine own_by (fun _ kZ => own_dconst0 X0.here hx rfl (hb hby d3_1) kZ) ?_
  show own_R p.tables e below _ (s₁.setTop (mkF m 2 #[.val (.double x1), .second, .val (.ref a2)] [(.double FP.dconst0), (.double x1)]))
  refine own_by (fun _ kZ => own_dcmp X0.here hx rfl (hb hby d3_2) rfl kZ) ?_
  show own_R p.tables e below _ (s₁.setTop (mkF m 3 #[.val (.double x1), .second, .val (.ref a2)] [(.int (cmpValue (FP.dcmp x1 FP.dconst0) .l))]))
  refine own_by (fun _ kZ => XS.ifNo X0.here hx rfl (hb hby d3_3) rfl ((if0 _ _).trans (flt hp).1) kZ) ?_
  show own_R p.tables e below _ (s₁.setTop (mkF m 6 #[.val (.double x1), .second, .val (.ref a2)] []))
  refine own_by (fun _ kZ => own_dloadN X0.here hx rfl (hb hby d3_6) rfl kZ) ?_
  show own_R p.tables e below _ (s₁.setTop (mkF m 7 #[.val (.double x1), .second, .val (.ref a2)] [(.double x1)]))
  obtain ⟨_, _, ⟨T2, L2, k2, n2⟩, -, X2, ⟨Lc2, hQ2, l2, y2, z2⟩, st2⟩ := Jvm.LawKit.callS X0 hx (y := (⟨"java/lang/Double", "isInfinite", "(D)Z"⟩ : MethodName)) hown (mvT hZ (hw _ (List.mem_of_getElem? (i := 22) rfl))) (mvT hZ (hw _ (List.mem_of_getElem? (i := 23) rfl))) (mvT hZ (hw _ (List.mem_of_getElem? (i := 24) rfl))) (mvT hZ (hw _ (List.mem_of_getElem? (i := 25) rfl))) (by decide) (backOf (W := 0) (rm4 l Z a0 hw [] x1 h0 n0 Z0 hf) hZ (hw _ (List.mem_of_getElem? (i := 25) rfl)) (hw _ (List.mem_of_getElem? (i := 24) rfl)) (by decide) (by decide)) (g := (mkF m 7 #[.val (.double x1), .second, .val (.ref a2)] [(.double x1)])) rfl (by rw [hml]; rfl) (argsL := [(.double x1)]) (rest := []) (lenOf own_pd1 rfl) rfl (by show 2 * 0 + _ ≤ _; exact Nat.le_of_eq rfl) (hb hby d3_7) (fun _ _ => ⟨rfl, e0, (by decide : 0 + 0 ≤ _), (by decide : 0 + 0 ≤ _)⟩)
  dsimp only [Pt.U, Pt.locs, Pt.cells, Pt.slots] at X2 l2 y2 z2 st2 hQ2
  subst l2 y2 z2
  obtain ⟨rfl, Nq2, e2⟩ := hQ2
  have N2 := Fr.app N0 Nq2
  refine own_by st2 ?_
  show own_R p.tables e below _ (T2.setTop (mkF m 10 #[.val (.double x1), .second, .val (.ref a2)] [(.int (0 : Int32))]))
  refine own_by (fun _ kZ => XS.ifYes X2.here hx rfl (pc0 := 10) (pc' := 28) rfl (hb hby d3_10) rfl ((if0 _ _).trans (teq (rfl : (0 : Int32) = 0)).1) (by decide) (by decide) kZ) ?_
  show own_R p.tables e below _ (T2.setTop (mkF m 28 #[.val (.double x1), .second, .val (.ref a2)] []))
  refine own_by (fun _ kZ => own_dloadN X2.here hx rfl (hb hby d3_28) rfl kZ) ?_
  show own_R p.tables e below _ (T2.setTop (mkF m 29 #[.val (.double x1), .second, .val (.ref a2)] [(.double x1)]))
  obtain ⟨fs, hr, hrun, hended, hW, hsame⟩ := X2.leave (v := some (.double x1)) (fun h => by rw [Bd.returns] at h; cases h)
  refine own_end ⟨_, _, ?_, hrun, hended, _, _, rfl, ?_, ⟨_, rfl⟩, hW, hsame.mono (by decide) (by decide)⟩
  · exact own_retD X2 hx Bd.returns (hb hby d3_29) hr
  · show Q3 Z x1 a2 h0 n0 _ T2.heap _
    rw [e2]
    exact ⟨rfl, N2, rfl⟩
theorem ef_1 (m : MethodId) (a1 : Addr) (x2 : UInt64) : entryFrame m #[(.ref a1), (.double x2)] 3 = mkF m 0 #[.val (.ref a1), .val (.double x2), .second] [] := by first | (simp [entryFrame, mkF, argsToLocals, Value.category]; done) | rfl
def Q1 (Z : State) (a1 : Addr) (x2 : UInt64)  (h0 : Heap) (n0 : Nat) (v : Option Value) (h : Heap) (L : List Loc) : Prop := v = none ∧ Fr n0 L ∧ Keep h0 h [a1] ∧ Fld Z h a1 "com/example/frugal_scheduler/frugalscheduler/model/Deadline" "seconds" "D" (.double x2)
set_option maxRecDepth 65536 in
set_option maxHeartbeats 40000000 in
theorem rm1 (l : Launch) (Z : State) (a0 : Array Value) (hw : ∀ d ∈ tables_1, d.before a0 Z = true) (ws : List Jvm.Cond) (a1 : Addr) (x2 : UInt64)  (h0 : Heap) (n0 : Nat) (Z0 : n0 ≤ h0.size) (ge1 : n0 ≤ a1) (hf : FP.Core.DFin x2) (hp : ¬ cmpValue (FP.dcmp x2 FP.dconst0) .l < (0 : Int32)) (Ex : Exa Z h0 a1 "com/example/frugal_scheduler/frugalscheduler/model/Deadline") (F_s : Fld Z h0 a1 "com/example/frugal_scheduler/frugalscheduler/model/Deadline" "seconds" "D" (.double (0 : UInt64))) :
    MetFree l (⟨"com/example/frugal_scheduler/frugalscheduler/model/Deadline", "<init>", "(D)V"⟩ : MethodName) (head1 (Jvm.Cond.code (⟨"com/example/frugal_scheduler/frugalscheduler/model/Deadline", "<init>", "(D)V"⟩ : MethodName) prog_10_method_1_code 3 none :: ws) ({ frames := 3, cells := 2, slots := 36, locals := 48 } : Room)) (fun a U => a = #[(.ref a1), (.double x2)] ∧ Z.Warmed39 U.vm ∧ U.heap = h0) (fun _ _ _ _ _ => True) (fun _ U o U' => ∃ v L, o = .returned v ∧ Q1 Z a1 x2 h0 n0 v U'.heap L ∧ ReturnedEndW U o U' L ({ frames := 3, cells := 2, slots := 36, locals := 48 } : Room).cells ({ frames := 3, cells := 2, slots := 36, locals := 48 } : Room).slots) := by
  refine MetFree.of_bodySF (plainFor_of_name pn_1) hisR ?_
  intro p e s m args below meth cd s₁ Bd hml0 hP hK
  obtain ⟨rfl, hZ, hh⟩ := hP
  have hx := Bd.exec
  have hby := Bd.bytes
  have hml : cd.maxLocals = 3 := hml0
  have hown : s.vm.findClass "com/example/frugal_scheduler/frugalscheduler/model/Deadline" = some m.cls := findClass_of_methodNamed Bd.named
  have hnm := (name_of_methodNamed Bd.named Bd.method).1
  have X0 : Stand p l e ({ frames := 3, cells := 2, slots := 36, locals := 48 } : Room) s m #[(.ref a1), (.double x2)] below meth cd s₁ [] 0 0 := Stand.of_body Bd
  have e0 : s₁.heap = h0 := by rw [← hh, Bd.state]; rfl
  have N0 := Fr.nil n0
  show own_R p.tables e below _ (s₁.setTop (entryFrame m #[(.ref a1), (.double x2)] 3))
  refine own_by (fun t kZ => castTop (ef_1 m a1 x2) kZ) ?_
  show own_R p.tables e below _ (s₁.setTop (mkF m 0 #[.val (.ref a1), .val (.double x2), .second] []))
  have hSt : ∀ d ∈ Bundle.stringAtoms, d.before a0 Z = true := fun d hd => hw d ((by decide +kernel : ∀ d ∈ Bundle.stringAtoms, d ∈ tables_1) d hd)
  refine own_by (fun _ kZ => XS.aloadN X0.here hx rfl (hb hby d1_0) rfl rfl kZ) ?_
  show own_R p.tables e below _ (s₁.setTop (mkF m 1 #[.val (.ref a1), .val (.double x2), .second] [(.ref a1)]))
  obtain ⟨T3, X3, e3, st3⟩ := initO X0 hx hZ hown (hw _ (List.mem_of_getElem? (i := 7) rfl)) (hw _ (List.mem_of_getElem? (i := 8) rfl)) (hw _ (List.mem_of_getElem? (i := 9) rfl)) e0 (g := (mkF m 1 #[.val (.ref a1), .val (.double x2), .second] [(.ref a1)])) rfl (by rw [hml]; rfl) rfl (hb hby d1_1) (by decide) (W := 0) (by show 2 * 0 + _ ≤ _; exact Nat.le_of_eq rfl) (by decide)
  refine own_by st3 ?_
  show own_R p.tables e below _ (T3.setTop (mkF m 4 #[.val (.ref a1), .val (.double x2), .second] []))
  refine own_by (fun _ kZ => XS.aloadN X3.here hx rfl (hb hby d1_4) rfl rfl kZ) ?_
  show own_R p.tables e below _ (T3.setTop (mkF m 5 #[.val (.ref a1), .val (.double x2), .second] [(.ref a1)]))
  refine own_by (fun _ kZ => own_dloadN X3.here hx rfl (hb hby d1_5) rfl kZ) ?_
  show own_R p.tables e below _ (T3.setTop (mkF m 6 #[.val (.ref a1), .val (.double x2), .second] [(.double x2), (.ref a1)]))
  obtain ⟨ld, T4, h4, k4, X4, e4, E4, hS4, hk4, hZ, hown, st4⟩ := ldcS (s := s) (vm0 := s.vm) X3 hx hZ (own := "com/example/frugal_scheduler/frugalscheduler/model/Deadline") (text := "deadline") (index := 7) hown (hw _ (List.mem_of_getElem? (i := 10) rfl)) hSt e3 (own_since s) (Nat.zero_le _) (g := (mkF m 6 #[.val (.ref a1), .val (.double x2), .second] [(.double x2), (.ref a1)])) rfl (hb hby d1_6) (n := 32) (by decide) (by decide) (by decide) (by decide)
  have f5_a1 : Exa Z h4 a1 "com/example/frugal_scheduler/frugalscheduler/model/Deadline" := Ex.ext E4
  have f6_a1 : Fld Z h4 a1 "com/example/frugal_scheduler/frugalscheduler/model/Deadline" "seconds" "D" (.double (0 : UInt64)) := F_s.ext E4
  have Z7 : n0 ≤ h4.size := Nat.le_trans Z0 E4.1
  have K7 : Keep h0 h4 [a1] := (Keep.refl h0 [a1]).ext E4
  refine own_by st4 ?_
  show own_R p.tables e below _ (T4.setTop (mkF m 8 #[.val (.ref a1), .val (.double x2), .second] [(.ref ld), (.double x2), (.ref a1)]))
  obtain ⟨_, _, ⟨T8, L8, k8, n8⟩, -, X8, ⟨Lc8, hQ8, l8, y8, z8⟩, st8⟩ := Jvm.LawKit.callS X4 hx (y := (⟨"com/example/frugal_scheduler/frugalscheduler/model/Checks", "nonNegative", "(DLjava/lang/String;)D"⟩ : MethodName)) hown (mvT hZ (hw _ (List.mem_of_getElem? (i := 18) rfl))) (mvT hZ (hw _ (List.mem_of_getElem? (i := 19) rfl))) (mvT hZ (hw _ (List.mem_of_getElem? (i := 20) rfl))) (mvT hZ (hw _ (List.mem_of_getElem? (i := 21) rfl))) (by decide) (backOf (W := 1) (rm3 l Z a0 hw [] x2 ld h4 n0 Z7 hf hp) hZ (hw _ (List.mem_of_getElem? (i := 21) rfl)) (hw _ (List.mem_of_getElem? (i := 20) rfl)) (by decide) (by decide)) (g := (mkF m 8 #[.val (.ref a1), .val (.double x2), .second] [(.ref ld), (.double x2), (.ref a1)])) rfl (by rw [hml]; rfl) (argsL := [(.double x2), (.ref ld)]) (rest := [(.ref a1)]) (lenOf own_pd2 rfl) rfl (by show 2 * 0 + _ ≤ _; exact Nat.le_of_eq rfl) (hb hby d1_8) (fun _ _ => ⟨rfl, e4, (by decide : 2 + 0 ≤ _), (by decide : 36 + 0 ≤ _)⟩)
  dsimp only [Pt.U, Pt.locs, Pt.cells, Pt.slots] at X8 l8 y8 z8 st8 hQ8
  subst l8 y8 z8
  obtain ⟨rfl, Nq8, e8⟩ := hQ8
  have N8 := Fr.app N0 Nq8
  refine own_by st8 ?_
  show own_R p.tables e below _ (T8.setTop (mkF m 11 #[.val (.ref a1), .val (.double x2), .second] [(.double x2), (.ref a1)]))
  obtain ⟨T9, h9, X9, e9, W9, st9⟩ := putF X8 hx hZ hown (host := "") (Or.inl (hw _ (List.mem_of_getElem? (i := 31) rfl))) Via.refl e8 f6_a1 f5_a1 (Or.inr ⟨(hw _ (List.mem_of_getElem? (i := 32) rfl)), rfl, hnm⟩) (hw _ (List.mem_of_getElem? (i := 2) rfl)) (ty := .double) (by decide) rfl rfl (g := (mkF m 11 #[.val (.ref a1), .val (.double x2), .second] [(.double x2), (.ref a1)])) rfl rfl (hb hby d1_11)
  have f10_a1 : Exa Z h9 a1 "com/example/frugal_scheduler/frugalscheduler/model/Deadline" := f5_a1.wr W9
  have f11_a1 : Fld Z h9 a1 "com/example/frugal_scheduler/frugalscheduler/model/Deadline" "seconds" "D" (.double x2) := f6_a1.same W9
  have Z12 : n0 ≤ h9.size := Nat.le_trans Z7 (Keep.of_wr W9).1
  have le13 : k4 ≤ h9.size := Nat.le_trans hk4 (Keep.of_wr W9).1
  have K12 : Keep h0 h9 [a1] := K7.wr W9 (Or.inl (List.mem_of_getElem? (i := 0) rfl))
  have N12 := Fr.snoc X9 N8 ge1
  refine own_by st9 ?_
  show own_R p.tables e below _ (T9.setTop (mkF m 14 #[.val (.ref a1), .val (.double x2), .second] []))
  obtain ⟨fs, hr, hrun, hended, hRW⟩ := leaveW X9 hS4 (by rw [e9]; exact le13) (v := none) (fun _ => rfl)
  refine own_end ⟨_, _, ?_, hrun, hended, _, _, rfl, ?_, own_monoW hRW (by decide) (by decide)⟩
  · exact X9.returnOut hx Bd.returns (hb hby d1_14) hr
  · show Q1 Z a1 x2 h0 n0 _ T9.heap _
    rw [e9]
    exact ⟨rfl, N12, K12, f11_a1⟩
theorem ef_6 (m : MethodId) (a1 : Addr) (x2 : UInt64) : entryFrame m #[(.ref a1), (.double x2)] 3 = mkF m 0 #[.val (.ref a1), .val (.double x2), .second] [] := by first | (simp [entryFrame, mkF, argsToLocals, Value.category]; done) | rfl
def Q6 (Z : State) (a1 : Addr) (x2 : UInt64) (xs : UInt64) (h0 : Heap) (n0 : Nat) (v : Option Value) (h : Heap) (L : List Loc) : Prop := v = some (.int (if (0 : Int32) < cmpValue (FP.dcmp x2 (own_D xs)) .g then (0 : Int32) else 1)) ∧ Fr n0 L ∧ h = h0
set_option maxRecDepth 65536 in
set_option maxHeartbeats 40000000 in
theorem rm6 (l : Launch) (Z : State) (a0 : Array Value) (hw : ∀ d ∈ tables_1, d.before a0 Z = true) (ws : List Jvm.Cond) (a1 : Addr) (x2 : UInt64) (xs : UInt64) (h0 : Heap) (n0 : Nat) (Z0 : n0 ≤ h0.size) (hf : FP.Core.DFin xs) (Fs : Fld Z h0 a1 "com/example/frugal_scheduler/frugalscheduler/model/Deadline" "seconds" "D" (.double xs)) :
    MetFree l (⟨"com/example/frugal_scheduler/frugalscheduler/model/Deadline", "isMetBy", "(D)Z"⟩ : MethodName) (head1 (Jvm.Cond.code (⟨"com/example/frugal_scheduler/frugalscheduler/model/Deadline", "isMetBy", "(D)Z"⟩ : MethodName) prog_10_method_4_code 3 (some .boolean) :: ws) ({ frames := 0, cells := 0, slots := 0, locals := 0 } : Room)) (fun a U => a = #[(.ref a1), (.double x2)] ∧ Z.Warmed39 U.vm ∧ U.heap = h0) (fun _ _ _ _ _ => True) (fun _ U o U' => ∃ v L, o = .returned v ∧ Q6 Z a1 x2 xs h0 n0 v U'.heap L ∧ FrameEnd U o U' L ({ frames := 0, cells := 0, slots := 0, locals := 0 } : Room).cells ({ frames := 0, cells := 0, slots := 0, locals := 0 } : Room).slots) := by
  refine MetFree.of_bodySF (plainFor_of_name pn_6) hisR ?_
  intro p e s m args below meth cd s₁ Bd hml0 hP hK
  obtain ⟨rfl, hZ, hh⟩ := hP
  have hx := Bd.exec
  have hby := Bd.bytes
  have hml : cd.maxLocals = 3 := hml0
  have hown : s.vm.findClass "com/example/frugal_scheduler/frugalscheduler/model/Deadline" = some m.cls := findClass_of_methodNamed Bd.named
  have hnm := (name_of_methodNamed Bd.named Bd.method).1
  have X0 : Stand p l e ({ frames := 0, cells := 0, slots := 0, locals := 0 } : Room) s m #[(.ref a1), (.double x2)] below meth cd s₁ [] 0 0 := Stand.of_body Bd
  have e0 : s₁.heap = h0 := by rw [← hh, Bd.state]; rfl
  have N0 := Fr.nil n0
  show own_R p.tables e below _ (s₁.setTop (entryFrame m #[(.ref a1), (.double x2)] 3))
  refine own_by (fun t kZ => castTop (ef_6 m a1 x2) kZ) ?_
  show own_R p.tables e below _ (s₁.setTop (mkF m 0 #[.val (.ref a1), .val (.double x2), .second] []))
  refine own_by (fun _ kZ => own_dloadN X0.here hx rfl (hb hby d6_0) rfl kZ) ?_
  show own_R p.tables e below _ (s₁.setTop (mkF m 1 #[.val (.ref a1), .val (.double x2), .second] [(.double x2)]))
  refine own_by (fun _ kZ => XS.aloadN X0.here hx rfl (hb hby d6_1) rfl rfl kZ) ?_
  show own_R p.tables e below _ (s₁.setTop (mkF m 2 #[.val (.ref a1), .val (.double x2), .second] [(.ref a1), (.double x2)]))
  obtain ⟨T14, X14, e14, st14⟩ := getF X0 hx hZ hown (host := "") (Or.inl (hw _ (List.mem_of_getElem? (i := 31) rfl))) Via.refl e0 Fs (g := (mkF m 2 #[.val (.ref a1), .val (.double x2), .second] [(.ref a1), (.double x2)])) rfl rfl (hb hby d6_2)
  refine own_by st14 ?_
  show own_R p.tables e below _ (T14.setTop (mkF m 5 #[.val (.ref a1), .val (.double x2), .second] [(.double xs), (.double x2)]))
  refine own_by (fun _ kZ => X14.ldc2DoubleC hx hown (mvT hZ (hw _ (List.mem_of_getElem? (i := 38) rfl))) (g := (mkF m 5 #[.val (.ref a1), .val (.double x2), .second] [(.double xs), (.double x2)])) rfl (hb hby d6_5) _ kZ) ?_
  show own_R p.tables e below _ (T14.setTop (mkF m 8 #[.val (.ref a1), .val (.double x2), .second] [(.double (4517329193108106637 : UInt64)), (.double xs), (.double x2)]))
  refine own_by (fun _ kZ => own_dadd X14.here hx rfl (hb hby d6_8) rfl (own_Dno hf) kZ) ?_
  show own_R p.tables e below _ (T14.setTop (mkF m 9 #[.val (.ref a1), .val (.double x2), .second] [(.double (FP.dadd xs (4517329193108106637 : UInt64))), (.double x2)]))
  show own_R p.tables e below _ (T14.setTop (mkF m 9 #[.val (.ref a1), .val (.double x2), .second] [(.double (own_D xs)), (.double x2)]))
  refine own_by (fun _ kZ => own_dcmp X14.here hx rfl (hb hby d6_9) rfl kZ) ?_
  show own_R p.tables e below _ (T14.setTop (mkF m 10 #[.val (.ref a1), .val (.double x2), .second] [(.int (cmpValue (FP.dcmp x2 (own_D xs)) .g))]))
  by_cases h1 : (0 : Int32) < (cmpValue (FP.dcmp x2 (own_D xs)) .g)
  · skip
    refine own_by (fun _ kZ => XS.ifYes X14.here hx rfl (pc0 := 10) (pc' := 17) rfl (hb hby d6_10) rfl ((if0 _ _).trans (tlt h1).2.2.1) (by decide) (by decide) kZ) ?_
    show own_R p.tables e below _ (T14.setTop (mkF m 17 #[.val (.ref a1), .val (.double x2), .second] []))
    refine own_by (fun _ kZ => XS.iconst X14.here hx rfl (hb hby d6_17) kZ) ?_
    show own_R p.tables e below _ (T14.setTop (mkF m 18 #[.val (.ref a1), .val (.double x2), .second] [(.int (0 : Int32))]))
    obtain ⟨fs, hr, hrun, hended, hW, hsame⟩ := X14.leave (v := some (.int (0 : Int32))) (fun h => by rw [Bd.returns] at h; cases h)
    refine own_end ⟨_, _, ?_, hrun, hended, _, _, rfl, ?_, ⟨_, rfl⟩, hW, hsame.mono (by decide) (by decide)⟩
    · exact retN X14 hx (t := .boolean) Bd.returns (by simp) (hb hby d6_18) hr
    · show Q6 Z a1 x2 xs h0 n0 _ T14.heap _
      rw [e14]
      exact ⟨by rw [if_pos h1], N0, rfl⟩
  · skip
    refine own_by (fun _ kZ => XS.ifNo X14.here hx rfl (hb hby d6_10) rfl ((if0 _ _).trans (flt h1).2.2.1) kZ) ?_
    show own_R p.tables e below _ (T14.setTop (mkF m 13 #[.val (.ref a1), .val (.double x2), .second] []))
    refine own_by (fun _ kZ => XS.iconst X14.here hx rfl (hb hby d6_13) kZ) ?_
    show own_R p.tables e below _ (T14.setTop (mkF m 14 #[.val (.ref a1), .val (.double x2), .second] [(.int (1 : Int32))]))
    refine own_by (fun _ kZ => XS.goto X14.here hx rfl (pc0 := 14) (pc' := 18) rfl (hb hby d6_14) (by decide) (by decide) kZ) ?_
    show own_R p.tables e below _ (T14.setTop (mkF m 18 #[.val (.ref a1), .val (.double x2), .second] [(.int (1 : Int32))]))
    obtain ⟨fs, hr, hrun, hended, hW, hsame⟩ := X14.leave (v := some (.int (1 : Int32))) (fun h => by rw [Bd.returns] at h; cases h)
    refine own_end ⟨_, _, ?_, hrun, hended, _, _, rfl, ?_, ⟨_, rfl⟩, hW, hsame.mono (by decide) (by decide)⟩
    · exact retN X14 hx (t := .boolean) Bd.returns (by simp) (hb hby d6_18) hr
    · show Q6 Z a1 x2 xs h0 n0 _ T14.heap _
      rw [e14]
      exact ⟨by rw [if_neg h1], N0, rfl⟩
theorem ef_0 (m : MethodId) (p1 : Int32) (p2 : Int32) (p3 : Int32) (q4 : Int64) (q5 : Int64) (p6 : Int32) : entryFrame m #[(.int p1), (.int p2), (.int p3), (.long q4), (.long q5), (.int p6)] maxLocals = mkF m 0 #[.val (.int p1), .val (.int p2), .val (.int p3), .val (.long q4), .second, .val (.long q5), .second, .val (.int p6), .unset, .unset, .unset, .unset, .unset, .unset, .unset] [] := by first | (simp [entryFrame, mkF, argsToLocals, Value.category, maxLocals]; done) | rfl
def Q0 (Z : State) (p1 : Int32) (p2 : Int32) (p3 : Int32) (q4 : Int64) (q5 : Int64) (p6 : Int32)  (h0 : Heap) (n0 : Nat) (v : Option Value) (h : Heap) (L : List Loc) : Prop := v = some (.int 1) ∧ Fr n0 L
set_option maxRecDepth 65536 in
set_option maxHeartbeats 40000000 in
theorem rm0 (l : Launch) (Z : State) (a0 : Array Value) (hw : ∀ d ∈ tables_1, d.before a0 Z = true) (ws : List Jvm.Cond) (p1 : Int32) (p2 : Int32) (p3 : Int32) (q4 : Int64) (q5 : Int64) (p6 : Int32)  (h0 : Heap) (n0 : Nat) (Z0 : n0 ≤ h0.size)  :
    MetFree l x (head1 (Jvm.Cond.code x code maxLocals ret :: ws) room_1) (fun a U => a = #[(.int p1), (.int p2), (.int p3), (.long q4), (.long q5), (.int p6)] ∧ Z.Warmed39 U.vm ∧ U.heap = h0) (fun _ _ _ _ _ => True) (fun _ U o U' => ∃ v L, o = .returned v ∧ Q0 Z p1 p2 p3 q4 q5 p6 h0 n0 v U'.heap L ∧ ReturnedEndW U o U' L room_1.cells room_1.slots) := by
  refine MetFree.of_bodySF (plainFor_of_name pn_0) hisR ?_
  intro p e s m args below meth cd s₁ Bd hml0 hP hK
  obtain ⟨rfl, hZ, hh⟩ := hP
  have hx := Bd.exec
  have hby := Bd.bytes
  have hml : cd.maxLocals = 15 := hml0
  have hown : s.vm.findClass "com/example/frugal_scheduler/frugalscheduler/model/DeadlineIsMetByPinLaw" = some m.cls := findClass_of_methodNamed Bd.named
  have hnm := (name_of_methodNamed Bd.named Bd.method).1
  have X0 : Stand p l e room_1 s m #[(.int p1), (.int p2), (.int p3), (.long q4), (.long q5), (.int p6)] below meth cd s₁ [] 0 0 := Stand.of_body Bd
  have e0 : s₁.heap = h0 := by rw [← hh, Bd.state]; rfl
  have N0 := Fr.nil n0
  show own_R p.tables e below _ (s₁.setTop (entryFrame m #[(.int p1), (.int p2), (.int p3), (.long q4), (.long q5), (.int p6)] maxLocals))
  refine own_by (fun t kZ => castTop (ef_0 m p1 p2 p3 q4 q5 p6) kZ) ?_
  show own_R p.tables e below _ (s₁.setTop (mkF m 0 #[.val (.int p1), .val (.int p2), .val (.int p3), .val (.long q4), .second, .val (.long q5), .second, .val (.int p6), .unset, .unset, .unset, .unset, .unset, .unset, .unset] []))
  refine own_by (fun _ kZ => XS.iload X0.here hx rfl (hb hby at_0) rfl kZ) ?_
  show own_R p.tables e below _ (s₁.setTop (mkF m 2 #[.val (.int p1), .val (.int p2), .val (.int p3), .val (.long q4), .second, .val (.long q5), .second, .val (.int p6), .unset, .unset, .unset, .unset, .unset, .unset, .unset] [(.int p6)]))
  refine own_by (fun _ kZ => XS.iconst X0.here hx rfl (hb hby at_2) kZ) ?_
  show own_R p.tables e below _ (s₁.setTop (mkF m 3 #[.val (.int p1), .val (.int p2), .val (.int p3), .val (.long q4), .second, .val (.long q5), .second, .val (.int p6), .unset, .unset, .unset, .unset, .unset, .unset, .unset] [(.int (1 : Int32)), (.int p6)]))
  refine own_by (fun _ kZ => XS.iand X0.here hx rfl (hb hby at_3) rfl kZ) ?_
  show own_R p.tables e below _ (s₁.setTop (mkF m 4 #[.val (.int p1), .val (.int p2), .val (.int p3), .val (.long q4), .second, .val (.long q5), .second, .val (.int p6), .unset, .unset, .unset, .unset, .unset, .unset, .unset] [(.int (p6 &&& (1 : Int32)))]))
  by_cases h0c : (p6 &&& (1 : Int32)) = (0 : Int32)
  · skip
    refine own_by (fun _ kZ => XS.ifNo X0.here hx rfl (hb hby at_4) rfl ((if0 _ _).trans (teq h0c).2) kZ) ?_
    show own_R p.tables e below _ (s₁.setTop (mkF m 7 #[.val (.int p1), .val (.int p2), .val (.int p3), .val (.long q4), .second, .val (.long q5), .second, .val (.int p6), .unset, .unset, .unset, .unset, .unset, .unset, .unset] []))
    refine own_by (fun _ kZ => XS.iloadN X0.here hx rfl (hb hby at_7) rfl kZ) ?_
    show own_R p.tables e below _ (s₁.setTop (mkF m 8 #[.val (.int p1), .val (.int p2), .val (.int p3), .val (.long q4), .second, .val (.long q5), .second, .val (.int p6), .unset, .unset, .unset, .unset, .unset, .unset, .unset] [(.int p1)]))
    refine own_by (fun _ kZ => X0.ldcInt hx hown (mvT hZ (hw _ (List.mem_of_getElem? (i := 39) rfl))) (g := (mkF m 8 #[.val (.int p1), .val (.int p2), .val (.int p3), .val (.long q4), .second, .val (.long q5), .second, .val (.int p6), .unset, .unset, .unset, .unset, .unset, .unset, .unset] [(.int p1)])) rfl (hb hby at_8) _ kZ) ?_
    show own_R p.tables e below _ (s₁.setTop (mkF m 10 #[.val (.int p1), .val (.int p2), .val (.int p3), .val (.long q4), .second, .val (.long q5), .second, .val (.int p6), .unset, .unset, .unset, .unset, .unset, .unset, .unset] [(.int (65535 : Int32)), (.int p1)]))
    refine own_by (fun _ kZ => XS.iand X0.here hx rfl (hb hby at_10) rfl kZ) ?_
    show own_R p.tables e below _ (s₁.setTop (mkF m 11 #[.val (.int p1), .val (.int p2), .val (.int p3), .val (.long q4), .second, .val (.long q5), .second, .val (.int p6), .unset, .unset, .unset, .unset, .unset, .unset, .unset] [(.int (p1 &&& (65535 : Int32)))]))
    obtain ⟨ss, h_ss⟩ : ∃ z : Int32, z = (p1 &&& (65535 : Int32)) := ⟨_, rfl⟩
    rw [← h_ss]
    show own_R p.tables e below _ (s₁.setTop (mkF m 11 #[.val (.int p1), .val (.int p2), .val (.int p3), .val (.long q4), .second, .val (.long q5), .second, .val (.int p6), .unset, .unset, .unset, .unset, .unset, .unset, .unset] [(.int ss)]))
    have hs : 0 ≤ ss.toInt ∧ ss.toInt ≤ 65535 := by rw [h_ss]; exact c_and _ 65535 (by decide)
    refine own_by (fun _ kZ => XS.istore X0.here hx rfl (hb hby at_11) rfl (l' := #[.val (.int p1), .val (.int p2), .val (.int p3), .val (.long q4), .second, .val (.long q5), .second, .val (.int p6), .val (.int ss), .unset, .unset, .unset, .unset, .unset, .unset]) rfl kZ) ?_
    show own_R p.tables e below _ (s₁.setTop (mkF m 13 #[.val (.int p1), .val (.int p2), .val (.int p3), .val (.long q4), .second, .val (.long q5), .second, .val (.int p6), .val (.int ss), .unset, .unset, .unset, .unset, .unset, .unset] []))
    refine own_by (fun _ kZ => XS.iloadN X0.here hx rfl (hb hby at_13) rfl kZ) ?_
    show own_R p.tables e below _ (s₁.setTop (mkF m 14 #[.val (.int p1), .val (.int p2), .val (.int p3), .val (.long q4), .second, .val (.long q5), .second, .val (.int p6), .val (.int ss), .unset, .unset, .unset, .unset, .unset, .unset] [(.int p2)]))
    refine own_by (fun _ kZ => XS.bipush X0.here hx rfl (hb hby at_14) kZ) ?_
    show own_R p.tables e below _ (s₁.setTop (mkF m 16 #[.val (.int p1), .val (.int p2), .val (.int p3), .val (.long q4), .second, .val (.long q5), .second, .val (.int p6), .val (.int ss), .unset, .unset, .unset, .unset, .unset, .unset] [(.int (15 : Int32)), (.int p2)]))
    refine own_by (fun _ kZ => XS.ishr X0.here hx rfl (hb hby at_16) rfl kZ) ?_
    show own_R p.tables e below _ (s₁.setTop (mkF m 17 #[.val (.int p1), .val (.int p2), .val (.int p3), .val (.long q4), .second, .val (.long q5), .second, .val (.int p6), .val (.int ss), .unset, .unset, .unset, .unset, .unset, .unset] [(.int (p2 >>> ((15 : Int32) &&& 31)))]))
    obtain ⟨mm, h_mm⟩ : ∃ z : Int32, z = (p2 >>> ((15 : Int32) &&& 31)) := ⟨_, rfl⟩
    rw [← h_mm]
    show own_R p.tables e below _ (s₁.setTop (mkF m 17 #[.val (.int p1), .val (.int p2), .val (.int p3), .val (.long q4), .second, .val (.long q5), .second, .val (.int p6), .val (.int ss), .unset, .unset, .unset, .unset, .unset, .unset] [(.int mm)]))
    have hm : -65536 ≤ mm.toInt ∧ mm.toInt < 65536 := by
      rw [h_mm, own_sh15]
      have q1 := p2.toInt_lt
      have q2 := p2.le_toInt
      omega
    refine own_by (fun _ kZ => XS.istore X0.here hx rfl (hb hby at_17) rfl (l' := #[.val (.int p1), .val (.int p2), .val (.int p3), .val (.long q4), .second, .val (.long q5), .second, .val (.int p6), .val (.int ss), .val (.int mm), .unset, .unset, .unset, .unset, .unset]) rfl kZ) ?_
    show own_R p.tables e below _ (s₁.setTop (mkF m 19 #[.val (.int p1), .val (.int p2), .val (.int p3), .val (.long q4), .second, .val (.long q5), .second, .val (.int p6), .val (.int ss), .val (.int mm), .unset, .unset, .unset, .unset, .unset] []))
    refine own_by (fun _ kZ => XS.iloadN X0.here hx rfl (hb hby at_19) rfl kZ) ?_
    show own_R p.tables e below _ (s₁.setTop (mkF m 20 #[.val (.int p1), .val (.int p2), .val (.int p3), .val (.long q4), .second, .val (.long q5), .second, .val (.int p6), .val (.int ss), .val (.int mm), .unset, .unset, .unset, .unset, .unset] [(.int p3)]))
    refine own_by (fun _ kZ => XS.sipush X0.here hx rfl (hb hby at_20) kZ) ?_
    show own_R p.tables e below _ (s₁.setTop (mkF m 23 #[.val (.int p1), .val (.int p2), .val (.int p3), .val (.long q4), .second, .val (.long q5), .second, .val (.int p6), .val (.int ss), .val (.int mm), .unset, .unset, .unset, .unset, .unset] [(.int (4095 : Int32)), (.int p3)]))
    refine own_by (fun _ kZ => XS.iand X0.here hx rfl (hb hby at_23) rfl kZ) ?_
    show own_R p.tables e below _ (s₁.setTop (mkF m 24 #[.val (.int p1), .val (.int p2), .val (.int p3), .val (.long q4), .second, .val (.long q5), .second, .val (.int p6), .val (.int ss), .val (.int mm), .unset, .unset, .unset, .unset, .unset] [(.int (p3 &&& (4095 : Int32)))]))
    obtain ⟨kk, h_kk⟩ : ∃ z : Int32, z = (p3 &&& (4095 : Int32)) := ⟨_, rfl⟩
    rw [← h_kk]
    show own_R p.tables e below _ (s₁.setTop (mkF m 24 #[.val (.int p1), .val (.int p2), .val (.int p3), .val (.long q4), .second, .val (.long q5), .second, .val (.int p6), .val (.int ss), .val (.int mm), .unset, .unset, .unset, .unset, .unset] [(.int kk)]))
    have hk : 0 ≤ kk.toInt ∧ kk.toInt ≤ 4095 := by rw [h_kk]; exact c_and _ 4095 (by decide)
    refine own_by (fun _ kZ => XS.istore X0.here hx rfl (hb hby at_24) rfl (l' := #[.val (.int p1), .val (.int p2), .val (.int p3), .val (.long q4), .second, .val (.long q5), .second, .val (.int p6), .val (.int ss), .val (.int mm), .val (.int kk), .unset, .unset, .unset, .unset]) rfl kZ) ?_
    show own_R p.tables e below _ (s₁.setTop (mkF m 26 #[.val (.int p1), .val (.int p2), .val (.int p3), .val (.long q4), .second, .val (.long q5), .second, .val (.int p6), .val (.int ss), .val (.int mm), .val (.int kk), .unset, .unset, .unset, .unset] []))
    refine own_by (fun _ kZ => XS.iload X0.here hx rfl (hb hby at_26) rfl kZ) ?_
    show own_R p.tables e below _ (s₁.setTop (mkF m 28 #[.val (.int p1), .val (.int p2), .val (.int p3), .val (.long q4), .second, .val (.long q5), .second, .val (.int p6), .val (.int ss), .val (.int mm), .val (.int kk), .unset, .unset, .unset, .unset] [(.int mm)]))
    refine own_by (fun _ kZ => own_i2d X0.here hx rfl (hb hby at_28) rfl kZ) ?_
    show own_R p.tables e below _ (s₁.setTop (mkF m 29 #[.val (.int p1), .val (.int p2), .val (.int p3), .val (.long q4), .second, .val (.long q5), .second, .val (.int p6), .val (.int ss), .val (.int mm), .val (.int kk), .unset, .unset, .unset, .unset] [(.double (FP.i2d mm))]))
    refine own_by (fun _ kZ => XS.iload X0.here hx rfl (hb hby at_29) rfl kZ) ?_
    show own_R p.tables e below _ (s₁.setTop (mkF m 31 #[.val (.int p1), .val (.int p2), .val (.int p3), .val (.long q4), .second, .val (.long q5), .second, .val (.int p6), .val (.int ss), .val (.int mm), .val (.int kk), .unset, .unset, .unset, .unset] [(.int kk), (.double (FP.i2d mm))]))
    refine own_by (fun _ kZ => own_i2d X0.here hx rfl (hb hby at_31) rfl kZ) ?_
    show own_R p.tables e below _ (s₁.setTop (mkF m 32 #[.val (.int p1), .val (.int p2), .val (.int p3), .val (.long q4), .second, .val (.long q5), .second, .val (.int p6), .val (.int ss), .val (.int mm), .val (.int kk), .unset, .unset, .unset, .unset] [(.double (FP.i2d kk)), (.double (FP.i2d mm))]))
    refine own_by (fun _ kZ => X0.ldc2DoubleC hx hown (mvT hZ (hw _ (List.mem_of_getElem? (i := 40) rfl))) (g := (mkF m 32 #[.val (.int p1), .val (.int p2), .val (.int p3), .val (.long q4), .second, .val (.long q5), .second, .val (.int p6), .val (.int ss), .val (.int mm), .val (.int kk), .unset, .unset, .unset, .unset] [(.double (FP.i2d kk)), (.double (FP.i2d mm))])) rfl (hb hby at_32) _ kZ) ?_
    show own_R p.tables e below _ (s₁.setTop (mkF m 35 #[.val (.int p1), .val (.int p2), .val (.int p3), .val (.long q4), .second, .val (.long q5), .second, .val (.int p6), .val (.int ss), .val (.int mm), .val (.int kk), .unset, .unset, .unset, .unset] [(.double (4742290407621132288 : UInt64)), (.double (FP.i2d kk)), (.double (FP.i2d mm))]))
    refine own_by (fun _ kZ => own_ddiv X0.here hx rfl (hb hby at_35) rfl (own_no (own_k kk hk).1) kZ) ?_
    show own_R p.tables e below _ (s₁.setTop (mkF m 36 #[.val (.int p1), .val (.int p2), .val (.int p3), .val (.long q4), .second, .val (.long q5), .second, .val (.int p6), .val (.int ss), .val (.int mm), .val (.int kk), .unset, .unset, .unset, .unset] [(.double (FP.ddiv (FP.i2d kk) (4742290407621132288 : UInt64))), (.double (FP.i2d mm))]))
    refine own_by (fun _ kZ => own_dadd X0.here hx rfl (hb hby at_36) rfl (Jvm.Free.Fl.val64_no.mpr (own_Mn mm kk hk)) kZ) ?_
    show own_R p.tables e below _ (s₁.setTop (mkF m 37 #[.val (.int p1), .val (.int p2), .val (.int p3), .val (.long q4), .second, .val (.long q5), .second, .val (.int p6), .val (.int ss), .val (.int mm), .val (.int kk), .unset, .unset, .unset, .unset] [(.double (FP.dadd (FP.i2d mm) (FP.ddiv (FP.i2d kk) (4742290407621132288 : UInt64))))]))
    show own_R p.tables e below _ (s₁.setTop (mkF m 37 #[.val (.int p1), .val (.int p2), .val (.int p3), .val (.long q4), .second, .val (.long q5), .second, .val (.int p6), .val (.int ss), .val (.int mm), .val (.int kk), .unset, .unset, .unset, .unset] [(.double (own_M mm kk))]))
    refine own_by (fun _ kZ => own_dstore X0.here hx rfl (hb hby at_37) rfl (l' := #[.val (.int p1), .val (.int p2), .val (.int p3), .val (.long q4), .second, .val (.long q5), .second, .val (.int p6), .val (.int ss), .val (.int mm), .val (.int kk), .val (.double (own_M mm kk)), .second, .unset, .unset]) rfl kZ) ?_
    show own_R p.tables e below _ (s₁.setTop (mkF m 39 #[.val (.int p1), .val (.int p2), .val (.int p3), .val (.long q4), .second, .val (.long q5), .second, .val (.int p6), .val (.int ss), .val (.int mm), .val (.int kk), .val (.double (own_M mm kk)), .second, .unset, .unset] []))
    obtain ⟨T15, h15, X15, e15, E15, A15, D15, -, st15⟩ := newO X0 hx hZ hown (hw _ (List.mem_of_getElem? (i := 1) rfl)) (hw _ (List.mem_of_getElem? (i := 2) rfl)) (hw _ (List.mem_of_getElem? (i := 3) rfl)) e0 (g := (mkF m 39 #[.val (.int p1), .val (.int p2), .val (.int p3), .val (.long q4), .second, .val (.long q5), .second, .val (.int p6), .val (.int ss), .val (.int mm), .val (.int kk), .val (.double (own_M mm kk)), .second, .unset, .unset] [])) rfl (hb hby at_39) (by decide) (by decide)
    obtain ⟨bo, g15⟩ : ∃ z, z = h0.size := ⟨_, rfl⟩
    have ge_bo : n0 ≤ bo := Nat.le_trans Z0 (Nat.le_of_eq g15.symm)
    rw [← g15] at A15 D15 st15
    have Z16 : n0 ≤ h15.size := Nat.le_trans Z0 E15.1
    have F15_seconds : Fld Z h15 bo "com/example/frugal_scheduler/frugalscheduler/model/Deadline" "seconds" "D" (.double (0 : UInt64)) := D15 (Or.inr (hw _ (List.mem_of_getElem? (i := 32) rfl))) (ty := .double) (by decide)
    refine own_by st15 ?_
    show own_R p.tables e below _ (T15.setTop (mkF m 42 #[.val (.int p1), .val (.int p2), .val (.int p3), .val (.long q4), .second, .val (.long q5), .second, .val (.int p6), .val (.int ss), .val (.int mm), .val (.int kk), .val (.double (own_M mm kk)), .second, .unset, .unset] [(.ref bo)]))
    refine own_by (fun _ kZ => XS.dup X15.here hx rfl (hb hby at_42) rfl rfl kZ) ?_
    show own_R p.tables e below _ (T15.setTop (mkF m 43 #[.val (.int p1), .val (.int p2), .val (.int p3), .val (.long q4), .second, .val (.long q5), .second, .val (.int p6), .val (.int ss), .val (.int mm), .val (.int kk), .val (.double (own_M mm kk)), .second, .unset, .unset] [(.ref bo), (.ref bo)]))
    refine own_by (fun _ kZ => XS.iload X15.here hx rfl (hb hby at_43) rfl kZ) ?_
    show own_R p.tables e below _ (T15.setTop (mkF m 45 #[.val (.int p1), .val (.int p2), .val (.int p3), .val (.long q4), .second, .val (.long q5), .second, .val (.int p6), .val (.int ss), .val (.int mm), .val (.int kk), .val (.double (own_M mm kk)), .second, .unset, .unset] [(.int ss), (.ref bo), (.ref bo)]))
    refine own_by (fun _ kZ => own_i2d X15.here hx rfl (hb hby at_45) rfl kZ) ?_
    show own_R p.tables e below _ (T15.setTop (mkF m 46 #[.val (.int p1), .val (.int p2), .val (.int p3), .val (.long q4), .second, .val (.long q5), .second, .val (.int p6), .val (.int ss), .val (.int mm), .val (.int kk), .val (.double (own_M mm kk)), .second, .unset, .unset] [(.double (FP.i2d ss)), (.ref bo), (.ref bo)]))
    obtain ⟨_, _, ⟨T17, L17, k17, n17⟩, -, X17, hS17, hg17, ⟨Lc17, hQ17, l17, y17, z17⟩, st17⟩ := X15.specialBackS hx (y := (⟨"com/example/frugal_scheduler/frugalscheduler/model/Deadline", "<init>", "(D)V"⟩ : MethodName)) rfl hown (mvT hZ (hw _ (List.mem_of_getElem? (i := 4) rfl))) (mvT hZ (hw _ (List.mem_of_getElem? (i := 5) rfl))) (mvT hZ (hw _ (List.mem_of_getElem? (i := 6) rfl))) (by decide) (backOfS (W := 1) (rm1 l Z a0 hw [] bo (FP.i2d ss) h15 n0 Z16 ge_bo (FP.Core.i2d_fin ss) (own_posI ss hs.1) A15 F15_seconds) hZ (hw _ (List.mem_of_getElem? (i := 6) rfl)) (hw _ (List.mem_of_getElem? (i := 3) rfl)) (by decide) (by decide)) (g := (mkF m 46 #[.val (.int p1), .val (.int p2), .val (.int p3), .val (.long q4), .second, .val (.long q5), .second, .val (.int p6), .val (.int ss), .val (.int mm), .val (.int kk), .val (.double (own_M mm kk)), .second, .unset, .unset] [(.double (FP.i2d ss)), (.ref bo), (.ref bo)])) rfl (by rw [hml]; rfl) (Steps.refl _) (a := bo) (argsL := [(.double (FP.i2d ss))]) (rest := [(.ref bo)]) (lenOf own_pd3 rfl) rfl (by show 2 * 0 + _ ≤ _; exact Nat.le_of_eq rfl) (hb hby at_46) (fun _ _ => ⟨rfl, e15, (by decide : 1 + 2 ≤ _), (by decide : 1 + 36 ≤ _)⟩)
    replace hZ : Z.Warmed39 (s.setVm T17.vm).vm := State.Warmed39.trans (t := s) hZ hS17.1
    replace hown : (s.setVm T17.vm).vm.findClass "com/example/frugal_scheduler/frugalscheduler/model/DeadlineIsMetByPinLaw" = some m.cls := by rw [show (s.setVm T17.vm).vm = T17.vm from rfl, hS17.1.alike.findClass]; exact hown
    dsimp only [Pt.U, Pt.locs, Pt.cells, Pt.slots] at X17 l17 y17 z17 st17 hQ17
    subst l17 y17 z17
    obtain ⟨rfl, Nq17, K17, Fs17⟩ := hQ17
    have N17 := Fr.app N0 Nq17
    have f18_bo : Exa Z T17.heap bo "com/example/frugal_scheduler/frugalscheduler/model/Deadline" := A15.keep K17
    have Z19 : n0 ≤ T17.heap.size := Nat.le_trans Z16 K17.1
    refine own_by (fun _ kZ => st17.trans kZ) ?_
    show own_R p.tables e below _ (T17.setTop (mkF m 49 #[.val (.int p1), .val (.int p2), .val (.int p3), .val (.long q4), .second, .val (.long q5), .second, .val (.int p6), .val (.int ss), .val (.int mm), .val (.int kk), .val (.double (own_M mm kk)), .second, .unset, .unset] [(.ref bo)]))
    refine own_by (fun _ kZ => XS.astore X17.here hx rfl (hb hby at_49) rfl rfl (l' := #[.val (.int p1), .val (.int p2), .val (.int p3), .val (.long q4), .second, .val (.long q5), .second, .val (.int p6), .val (.int ss), .val (.int mm), .val (.int kk), .val (.double (own_M mm kk)), .second, .val (.ref bo), .unset]) rfl kZ) ?_
    show own_R p.tables e below _ (T17.setTop (mkF m 51 #[.val (.int p1), .val (.int p2), .val (.int p3), .val (.long q4), .second, .val (.long q5), .second, .val (.int p6), .val (.int ss), .val (.int mm), .val (.int kk), .val (.double (own_M mm kk)), .second, .val (.ref bo), .unset] []))
    refine own_by (fun _ kZ => XS.iload X17.here hx rfl (hb hby at_51) rfl kZ) ?_
    show own_R p.tables e below _ (T17.setTop (mkF m 53 #[.val (.int p1), .val (.int p2), .val (.int p3), .val (.long q4), .second, .val (.long q5), .second, .val (.int p6), .val (.int ss), .val (.int mm), .val (.int kk), .val (.double (own_M mm kk)), .second, .val (.ref bo), .unset] [(.int mm)]))
    refine own_by (fun _ kZ => XS.iload X17.here hx rfl (hb hby at_53) rfl kZ) ?_
    show own_R p.tables e below _ (T17.setTop (mkF m 55 #[.val (.int p1), .val (.int p2), .val (.int p3), .val (.long q4), .second, .val (.long q5), .second, .val (.int p6), .val (.int ss), .val (.int mm), .val (.int kk), .val (.double (own_M mm kk)), .second, .val (.ref bo), .unset] [(.int ss), (.int mm)]))
    obtain ⟨ex, h_ex⟩ : ∃ z : Int32, z = (if mm < ss then (1 : Int32) else (if ss < mm then (0 : Int32) else (if (1073 : Int32) < kk then (0 : Int32) else (1 : Int32)))) := ⟨_, rfl⟩
    refine own_by (S' := T17.setTop (mkF m 92 #[.val (.int p1), .val (.int p2), .val (.int p3), .val (.long q4), .second, .val (.long q5), .second, .val (.int p6), .val (.int ss), .val (.int mm), .val (.int kk), .val (.double (own_M mm kk)), .second, .val (.ref bo), .val (.int ex)] [])) (fun _ kZ => ?_) ?_
    · skip
      show Steps p.tables e below (T17.setTop (mkF m 55 #[.val (.int p1), .val (.int p2), .val (.int p3), .val (.long q4), .second, .val (.long q5), .second, .val (.int p6), .val (.int ss), .val (.int mm), .val (.int kk), .val (.double (own_M mm kk)), .second, .val (.ref bo), .unset] [(.int ss), (.int mm)])) _
      by_cases hd55 : mm < ss
      · skip
        refine XS.icmpNo X17.here hx rfl (hb hby at_55) rfl (tlt hd55).2.1 ?_
        show Steps p.tables e below (T17.setTop (mkF m 58 #[.val (.int p1), .val (.int p2), .val (.int p3), .val (.long q4), .second, .val (.long q5), .second, .val (.int p6), .val (.int ss), .val (.int mm), .val (.int kk), .val (.double (own_M mm kk)), .second, .val (.ref bo), .unset] [])) _
        refine XS.iconst X17.here hx rfl (hb hby at_58) ?_
        show Steps p.tables e below (T17.setTop (mkF m 59 #[.val (.int p1), .val (.int p2), .val (.int p3), .val (.long q4), .second, .val (.long q5), .second, .val (.int p6), .val (.int ss), .val (.int mm), .val (.int kk), .val (.double (own_M mm kk)), .second, .val (.ref bo), .unset] [(.int (1 : Int32))])) _
        refine XS.istore X17.here hx rfl (hb hby at_59) rfl (l' := #[.val (.int p1), .val (.int p2), .val (.int p3), .val (.long q4), .second, .val (.long q5), .second, .val (.int p6), .val (.int ss), .val (.int mm), .val (.int kk), .val (.double (own_M mm kk)), .second, .val (.ref bo), .val (.int (1 : Int32))]) rfl ?_
        show Steps p.tables e below (T17.setTop (mkF m 61 #[.val (.int p1), .val (.int p2), .val (.int p3), .val (.long q4), .second, .val (.long q5), .second, .val (.int p6), .val (.int ss), .val (.int mm), .val (.int kk), .val (.double (own_M mm kk)), .second, .val (.ref bo), .val (.int (1 : Int32))] [])) _
        refine XS.goto X17.here hx rfl (pc0 := 61) (pc' := 92) rfl (hb hby at_61) (by decide) (by decide) ?_
        show Steps p.tables e below (T17.setTop (mkF m 92 #[.val (.int p1), .val (.int p2), .val (.int p3), .val (.long q4), .second, .val (.long q5), .second, .val (.int p6), .val (.int ss), .val (.int mm), .val (.int kk), .val (.double (own_M mm kk)), .second, .val (.ref bo), .val (.int (1 : Int32))] [])) _
        rw [if_pos hd55] at h_ex
        subst h_ex
        exact kZ
      · skip
        refine XS.icmpYes X17.here hx rfl (pc0 := 55) (pc' := 64) rfl (hb hby at_55) rfl (flt hd55).2.1 (by decide) (by decide) ?_
        show Steps p.tables e below (T17.setTop (mkF m 64 #[.val (.int p1), .val (.int p2), .val (.int p3), .val (.long q4), .second, .val (.long q5), .second, .val (.int p6), .val (.int ss), .val (.int mm), .val (.int kk), .val (.double (own_M mm kk)), .second, .val (.ref bo), .unset] [])) _
        refine XS.iload X17.here hx rfl (hb hby at_64) rfl ?_
        show Steps p.tables e below (T17.setTop (mkF m 66 #[.val (.int p1), .val (.int p2), .val (.int p3), .val (.long q4), .second, .val (.long q5), .second, .val (.int p6), .val (.int ss), .val (.int mm), .val (.int kk), .val (.double (own_M mm kk)), .second, .val (.ref bo), .unset] [(.int mm)])) _
        refine XS.iload X17.here hx rfl (hb hby at_66) rfl ?_
        show Steps p.tables e below (T17.setTop (mkF m 68 #[.val (.int p1), .val (.int p2), .val (.int p3), .val (.long q4), .second, .val (.long q5), .second, .val (.int p6), .val (.int ss), .val (.int mm), .val (.int kk), .val (.double (own_M mm kk)), .second, .val (.ref bo), .unset] [(.int ss), (.int mm)])) _
        by_cases hd68 : ss < mm
        · skip
          refine XS.icmpNo X17.here hx rfl (hb hby at_68) rfl (tlt hd68).2.2.2 ?_
          show Steps p.tables e below (T17.setTop (mkF m 71 #[.val (.int p1), .val (.int p2), .val (.int p3), .val (.long q4), .second, .val (.long q5), .second, .val (.int p6), .val (.int ss), .val (.int mm), .val (.int kk), .val (.double (own_M mm kk)), .second, .val (.ref bo), .unset] [])) _
          refine XS.iconst X17.here hx rfl (hb hby at_71) ?_
          show Steps p.tables e below (T17.setTop (mkF m 72 #[.val (.int p1), .val (.int p2), .val (.int p3), .val (.long q4), .second, .val (.long q5), .second, .val (.int p6), .val (.int ss), .val (.int mm), .val (.int kk), .val (.double (own_M mm kk)), .second, .val (.ref bo), .unset] [(.int (0 : Int32))])) _
          refine XS.istore X17.here hx rfl (hb hby at_72) rfl (l' := #[.val (.int p1), .val (.int p2), .val (.int p3), .val (.long q4), .second, .val (.long q5), .second, .val (.int p6), .val (.int ss), .val (.int mm), .val (.int kk), .val (.double (own_M mm kk)), .second, .val (.ref bo), .val (.int (0 : Int32))]) rfl ?_
          show Steps p.tables e below (T17.setTop (mkF m 74 #[.val (.int p1), .val (.int p2), .val (.int p3), .val (.long q4), .second, .val (.long q5), .second, .val (.int p6), .val (.int ss), .val (.int mm), .val (.int kk), .val (.double (own_M mm kk)), .second, .val (.ref bo), .val (.int (0 : Int32))] [])) _
          refine XS.goto X17.here hx rfl (pc0 := 74) (pc' := 92) rfl (hb hby at_74) (by decide) (by decide) ?_
          show Steps p.tables e below (T17.setTop (mkF m 92 #[.val (.int p1), .val (.int p2), .val (.int p3), .val (.long q4), .second, .val (.long q5), .second, .val (.int p6), .val (.int ss), .val (.int mm), .val (.int kk), .val (.double (own_M mm kk)), .second, .val (.ref bo), .val (.int (0 : Int32))] [])) _
          rw [if_neg hd55, if_pos hd68] at h_ex
          subst h_ex
          exact kZ
        · skip
          refine XS.icmpYes X17.here hx rfl (pc0 := 68) (pc' := 77) rfl (hb hby at_68) rfl (flt hd68).2.2.2 (by decide) (by decide) ?_
          show Steps p.tables e below (T17.setTop (mkF m 77 #[.val (.int p1), .val (.int p2), .val (.int p3), .val (.long q4), .second, .val (.long q5), .second, .val (.int p6), .val (.int ss), .val (.int mm), .val (.int kk), .val (.double (own_M mm kk)), .second, .val (.ref bo), .unset] [])) _
          refine XS.iload X17.here hx rfl (hb hby at_77) rfl ?_
          show Steps p.tables e below (T17.setTop (mkF m 79 #[.val (.int p1), .val (.int p2), .val (.int p3), .val (.long q4), .second, .val (.long q5), .second, .val (.int p6), .val (.int ss), .val (.int mm), .val (.int kk), .val (.double (own_M mm kk)), .second, .val (.ref bo), .unset] [(.int kk)])) _
          refine XS.sipush X17.here hx rfl (hb hby at_79) ?_
          show Steps p.tables e below (T17.setTop (mkF m 82 #[.val (.int p1), .val (.int p2), .val (.int p3), .val (.long q4), .second, .val (.long q5), .second, .val (.int p6), .val (.int ss), .val (.int mm), .val (.int kk), .val (.double (own_M mm kk)), .second, .val (.ref bo), .unset] [(.int (1073 : Int32)), (.int kk)])) _
          by_cases hd82 : (1073 : Int32) < kk
          · skip
            refine XS.icmpYes X17.here hx rfl (pc0 := 82) (pc' := 89) rfl (hb hby at_82) rfl (tlt hd82).2.2.1 (by decide) (by decide) ?_
            show Steps p.tables e below (T17.setTop (mkF m 89 #[.val (.int p1), .val (.int p2), .val (.int p3), .val (.long q4), .second, .val (.long q5), .second, .val (.int p6), .val (.int ss), .val (.int mm), .val (.int kk), .val (.double (own_M mm kk)), .second, .val (.ref bo), .unset] [])) _
            refine XS.iconst X17.here hx rfl (hb hby at_89) ?_
            show Steps p.tables e below (T17.setTop (mkF m 90 #[.val (.int p1), .val (.int p2), .val (.int p3), .val (.long q4), .second, .val (.long q5), .second, .val (.int p6), .val (.int ss), .val (.int mm), .val (.int kk), .val (.double (own_M mm kk)), .second, .val (.ref bo), .unset] [(.int (0 : Int32))])) _
            refine XS.istore X17.here hx rfl (hb hby at_90) rfl (l' := #[.val (.int p1), .val (.int p2), .val (.int p3), .val (.long q4), .second, .val (.long q5), .second, .val (.int p6), .val (.int ss), .val (.int mm), .val (.int kk), .val (.double (own_M mm kk)), .second, .val (.ref bo), .val (.int (0 : Int32))]) rfl ?_
            show Steps p.tables e below (T17.setTop (mkF m 92 #[.val (.int p1), .val (.int p2), .val (.int p3), .val (.long q4), .second, .val (.long q5), .second, .val (.int p6), .val (.int ss), .val (.int mm), .val (.int kk), .val (.double (own_M mm kk)), .second, .val (.ref bo), .val (.int (0 : Int32))] [])) _
            rw [if_neg hd55, if_neg hd68, if_pos hd82] at h_ex
            subst h_ex
            exact kZ
          · skip
            refine XS.icmpNo X17.here hx rfl (hb hby at_82) rfl (flt hd82).2.2.1 ?_
            show Steps p.tables e below (T17.setTop (mkF m 85 #[.val (.int p1), .val (.int p2), .val (.int p3), .val (.long q4), .second, .val (.long q5), .second, .val (.int p6), .val (.int ss), .val (.int mm), .val (.int kk), .val (.double (own_M mm kk)), .second, .val (.ref bo), .unset] [])) _
            refine XS.iconst X17.here hx rfl (hb hby at_85) ?_
            show Steps p.tables e below (T17.setTop (mkF m 86 #[.val (.int p1), .val (.int p2), .val (.int p3), .val (.long q4), .second, .val (.long q5), .second, .val (.int p6), .val (.int ss), .val (.int mm), .val (.int kk), .val (.double (own_M mm kk)), .second, .val (.ref bo), .unset] [(.int (1 : Int32))])) _
            refine XS.goto X17.here hx rfl (pc0 := 86) (pc' := 90) rfl (hb hby at_86) (by decide) (by decide) ?_
            show Steps p.tables e below (T17.setTop (mkF m 90 #[.val (.int p1), .val (.int p2), .val (.int p3), .val (.long q4), .second, .val (.long q5), .second, .val (.int p6), .val (.int ss), .val (.int mm), .val (.int kk), .val (.double (own_M mm kk)), .second, .val (.ref bo), .unset] [(.int (1 : Int32))])) _
            refine XS.istore X17.here hx rfl (hb hby at_90) rfl (l' := #[.val (.int p1), .val (.int p2), .val (.int p3), .val (.long q4), .second, .val (.long q5), .second, .val (.int p6), .val (.int ss), .val (.int mm), .val (.int kk), .val (.double (own_M mm kk)), .second, .val (.ref bo), .val (.int (1 : Int32))]) rfl ?_
            show Steps p.tables e below (T17.setTop (mkF m 92 #[.val (.int p1), .val (.int p2), .val (.int p3), .val (.long q4), .second, .val (.long q5), .second, .val (.int p6), .val (.int ss), .val (.int mm), .val (.int kk), .val (.double (own_M mm kk)), .second, .val (.ref bo), .val (.int (1 : Int32))] [])) _
            rw [if_neg hd55, if_neg hd68, if_neg hd82] at h_ex
            subst h_ex
            exact kZ
    show own_R p.tables e below _ (T17.setTop (mkF m 92 #[.val (.int p1), .val (.int p2), .val (.int p3), .val (.long q4), .second, .val (.long q5), .second, .val (.int p6), .val (.int ss), .val (.int mm), .val (.int kk), .val (.double (own_M mm kk)), .second, .val (.ref bo), .val (.int ex)] []))
    refine own_by (fun _ kZ => XS.aload X17.here hx rfl (hb hby at_92) rfl rfl kZ) ?_
    show own_R p.tables e below _ (T17.setTop (mkF m 94 #[.val (.int p1), .val (.int p2), .val (.int p3), .val (.long q4), .second, .val (.long q5), .second, .val (.int p6), .val (.int ss), .val (.int mm), .val (.int kk), .val (.double (own_M mm kk)), .second, .val (.ref bo), .val (.int ex)] [(.ref bo)]))
    refine own_by (fun _ kZ => own_dload X17.here hx rfl (hb hby at_94) rfl kZ) ?_
    show own_R p.tables e below _ (T17.setTop (mkF m 96 #[.val (.int p1), .val (.int p2), .val (.int p3), .val (.long q4), .second, .val (.long q5), .second, .val (.int p6), .val (.int ss), .val (.int mm), .val (.int kk), .val (.double (own_M mm kk)), .second, .val (.ref bo), .val (.int ex)] [(.double (own_M mm kk)), (.ref bo)]))
    obtain ⟨cq20, kq20, q20a, q20b, q20c⟩ := isOf hZ rfl f18_bo
    obtain ⟨_, _, ⟨T20, L20, k20, n20⟩, -, X20, ⟨Lc20, hQ20, l20, y20, z20⟩, st20⟩ := X17.virtualBack hx (y := (⟨"com/example/frugal_scheduler/frugalscheduler/model/Deadline", "isMetBy", "(D)Z"⟩ : MethodName)) (z := (⟨"com/example/frugal_scheduler/frugalscheduler/model/Deadline", "isMetBy", "(D)Z"⟩ : MethodName)) hown (mvT hZ (hw _ (List.mem_of_getElem? (i := 33) rfl))) (mvT hZ (hw _ (List.mem_of_getElem? (i := 34) rfl))) (notFace_of_selects (args := #[]) (mvT hZ (hw _ (List.mem_of_getElem? (i := 36) rfl)))) (mvT hZ (hw _ (List.mem_of_getElem? (i := 36) rfl))) (mvT hZ (hw _ (List.mem_of_getElem? (i := 35) rfl))) (by decide) (backOf (W := 0) (rm6 l Z a0 hw [] bo (own_M mm kk) (FP.i2d ss) T17.heap n0 Z19 (FP.Core.i2d_fin ss) Fs17) hZ (hw _ (List.mem_of_getElem? (i := 37) rfl)) (hw _ (List.mem_of_getElem? (i := 3) rfl)) (by decide) (by decide)) q20a q20c (g := (mkF m 96 #[.val (.int p1), .val (.int p2), .val (.int p3), .val (.long q4), .second, .val (.long q5), .second, .val (.int p6), .val (.int ss), .val (.int mm), .val (.int kk), .val (.double (own_M mm kk)), .second, .val (.ref bo), .val (.int ex)] [(.double (own_M mm kk)), (.ref bo)])) rfl (by rw [hml]; rfl) (Steps.refl _) (argsL := [(.double (own_M mm kk))]) (rest := []) (lenOf own_pd1 rfl) rfl (by show 2 * 0 + _ ≤ _; exact Nat.le_of_eq rfl) (hb hby at_96) (fun _ _ => ⟨rfl, rfl, (by decide : 3 + 0 ≤ _), (by decide : 37 + 0 ≤ _)⟩)
    dsimp only [Pt.U, Pt.locs, Pt.cells, Pt.slots] at X20 l20 y20 z20 st20 hQ20
    subst l20 y20 z20
    obtain ⟨rfl, Nq20, e20⟩ := hQ20
    have N20 := Fr.app N17 Nq20
    refine own_by (fun _ kZ => st20.trans kZ) ?_
    show own_R p.tables e below _ (T20.setTop (mkF m 99 #[.val (.int p1), .val (.int p2), .val (.int p3), .val (.long q4), .second, .val (.long q5), .second, .val (.int p6), .val (.int ss), .val (.int mm), .val (.int kk), .val (.double (own_M mm kk)), .second, .val (.ref bo), .val (.int ex)] [(.int (if (0 : Int32) < cmpValue (FP.dcmp (own_M mm kk) (own_D (FP.i2d ss))) .g then (0 : Int32) else 1))]))
    rw [show (if (0 : Int32) < cmpValue (FP.dcmp (own_M mm kk) (own_D (FP.i2d ss))) .g then (0 : Int32) else 1) = ex from by
      simp only [own_met1 ss mm kk hs hm hk]
      exact own_exp1 ss mm kk ex hk h_ex]
    show own_R p.tables e below _ (T20.setTop (mkF m 99 #[.val (.int p1), .val (.int p2), .val (.int p3), .val (.long q4), .second, .val (.long q5), .second, .val (.int p6), .val (.int ss), .val (.int mm), .val (.int kk), .val (.double (own_M mm kk)), .second, .val (.ref bo), .val (.int ex)] [(.int ex)]))
    refine own_by (fun _ kZ => XS.iload X20.here hx rfl (hb hby at_99) rfl kZ) ?_
    show own_R p.tables e below _ (T20.setTop (mkF m 101 #[.val (.int p1), .val (.int p2), .val (.int p3), .val (.long q4), .second, .val (.long q5), .second, .val (.int p6), .val (.int ss), .val (.int mm), .val (.int kk), .val (.double (own_M mm kk)), .second, .val (.ref bo), .val (.int ex)] [(.int ex), (.int ex)]))
    refine own_by (fun _ kZ => XS.icmpNo X20.here hx rfl (hb hby at_101) rfl (teq (rfl : ex = ex)).2 kZ) ?_
    show own_R p.tables e below _ (T20.setTop (mkF m 104 #[.val (.int p1), .val (.int p2), .val (.int p3), .val (.long q4), .second, .val (.long q5), .second, .val (.int p6), .val (.int ss), .val (.int mm), .val (.int kk), .val (.double (own_M mm kk)), .second, .val (.ref bo), .val (.int ex)] []))
    refine own_by (fun _ kZ => XS.iconst X20.here hx rfl (hb hby at_104) kZ) ?_
    show own_R p.tables e below _ (T20.setTop (mkF m 105 #[.val (.int p1), .val (.int p2), .val (.int p3), .val (.long q4), .second, .val (.long q5), .second, .val (.int p6), .val (.int ss), .val (.int mm), .val (.int kk), .val (.double (own_M mm kk)), .second, .val (.ref bo), .val (.int ex)] [(.int (1 : Int32))]))
    refine own_by (fun _ kZ => XS.goto X20.here hx rfl (pc0 := 105) (pc' := 109) rfl (hb hby at_105) (by decide) (by decide) kZ) ?_
    show own_R p.tables e below _ (T20.setTop (mkF m 109 #[.val (.int p1), .val (.int p2), .val (.int p3), .val (.long q4), .second, .val (.long q5), .second, .val (.int p6), .val (.int ss), .val (.int mm), .val (.int kk), .val (.double (own_M mm kk)), .second, .val (.ref bo), .val (.int ex)] [(.int (1 : Int32))]))
    obtain ⟨fs, hr, hrun, hended, hRW⟩ := leaveW X20 hS17 (by rw [e20]; exact (Nat.le_refl _)) (v := some (.int (1 : Int32))) (fun h => by rw [Bd.returns] at h; cases h)
    refine own_end ⟨_, _, ?_, hrun, hended, _, _, rfl, ?_, own_monoW hRW (by decide) (by decide)⟩
    · exact retN X20 hx (t := .boolean) Bd.returns (by simp) (hb hby at_109) hr
    · show Q0 Z p1 p2 p3 q4 q5 p6 h0 n0 _ T20.heap _
      rw [e20]
      exact ⟨rfl, N20⟩
  · skip
    refine own_by (fun _ kZ => XS.ifYes X0.here hx rfl (pc0 := 4) (pc' := 110) rfl (hb hby at_4) rfl ((if0 _ _).trans (feq h0c).2) (by decide) (by decide) kZ) ?_
    show own_R p.tables e below _ (s₁.setTop (mkF m 110 #[.val (.int p1), .val (.int p2), .val (.int p3), .val (.long q4), .second, .val (.long q5), .second, .val (.int p6), .unset, .unset, .unset, .unset, .unset, .unset, .unset] []))
    refine own_by (fun _ kZ => XS.lloadN X0.here hx rfl (hb hby at_110) rfl kZ) ?_
    show own_R p.tables e below _ (s₁.setTop (mkF m 111 #[.val (.int p1), .val (.int p2), .val (.int p3), .val (.long q4), .second, .val (.long q5), .second, .val (.int p6), .unset, .unset, .unset, .unset, .unset, .unset, .unset] [(.long q4)]))
    refine own_by (fun _ kZ => X0.ldc2Long hx hown (mvT hZ (hw _ (List.mem_of_getElem? (i := 0) rfl))) (g := (mkF m 111 #[.val (.int p1), .val (.int p2), .val (.int p3), .val (.long q4), .second, .val (.long q5), .second, .val (.int p6), .unset, .unset, .unset, .unset, .unset, .unset, .unset] [(.long q4)])) rfl (hb hby at_111) _ kZ) ?_
    show own_R p.tables e below _ (s₁.setTop (mkF m 114 #[.val (.int p1), .val (.int p2), .val (.int p3), .val (.long q4), .second, .val (.long q5), .second, .val (.int p6), .unset, .unset, .unset, .unset, .unset, .unset, .unset] [(.long (9007199254740991 : Int64)), (.long q4)]))
    refine own_by (fun _ kZ => XS.land X0.here hx rfl (hb hby at_114) rfl kZ) ?_
    show own_R p.tables e below _ (s₁.setTop (mkF m 115 #[.val (.int p1), .val (.int p2), .val (.int p3), .val (.long q4), .second, .val (.long q5), .second, .val (.int p6), .unset, .unset, .unset, .unset, .unset, .unset, .unset] [(.long (q4 &&& (9007199254740991 : Int64)))]))
    obtain ⟨sl, h_sl⟩ : ∃ z : Int64, z = (q4 &&& (9007199254740991 : Int64)) := ⟨_, rfl⟩
    rw [← h_sl]
    show own_R p.tables e below _ (s₁.setTop (mkF m 115 #[.val (.int p1), .val (.int p2), .val (.int p3), .val (.long q4), .second, .val (.long q5), .second, .val (.int p6), .unset, .unset, .unset, .unset, .unset, .unset, .unset] [(.long sl)]))
    have hs : 0 ≤ sl.toInt ∧ sl.toInt ≤ 9007199254740991 := by rw [h_sl]; exact own_andL _
    refine own_by (fun _ kZ => XS.lstore X0.here hx rfl (hb hby at_115) rfl (l' := #[.val (.int p1), .val (.int p2), .val (.int p3), .val (.long q4), .second, .val (.long q5), .second, .val (.int p6), .val (.long sl), .second, .unset, .unset, .unset, .unset, .unset]) rfl kZ) ?_
    show own_R p.tables e below _ (s₁.setTop (mkF m 117 #[.val (.int p1), .val (.int p2), .val (.int p3), .val (.long q4), .second, .val (.long q5), .second, .val (.int p6), .val (.long sl), .second, .unset, .unset, .unset, .unset, .unset] []))
    refine own_by (fun _ kZ => XS.lload X0.here hx rfl (hb hby at_117) rfl kZ) ?_
    show own_R p.tables e below _ (s₁.setTop (mkF m 119 #[.val (.int p1), .val (.int p2), .val (.int p3), .val (.long q4), .second, .val (.long q5), .second, .val (.int p6), .val (.long sl), .second, .unset, .unset, .unset, .unset, .unset] [(.long q5)]))
    refine own_by (fun _ kZ => XS.bipush X0.here hx rfl (hb hby at_119) kZ) ?_
    show own_R p.tables e below _ (s₁.setTop (mkF m 121 #[.val (.int p1), .val (.int p2), .val (.int p3), .val (.long q4), .second, .val (.long q5), .second, .val (.int p6), .val (.long sl), .second, .unset, .unset, .unset, .unset, .unset] [(.int (10 : Int32)), (.long q5)]))
    refine own_by (fun _ kZ => XS.lshr X0.here hx rfl (hb hby at_121) rfl kZ) ?_
    show own_R p.tables e below _ (s₁.setTop (mkF m 122 #[.val (.int p1), .val (.int p2), .val (.int p3), .val (.long q4), .second, .val (.long q5), .second, .val (.int p6), .val (.long sl), .second, .unset, .unset, .unset, .unset, .unset] [(.long (q5 >>> ((10 : Int32) &&& 0x3f).toInt64))]))
    obtain ⟨ml, h_ml⟩ : ∃ z : Int64, z = (q5 >>> ((10 : Int32) &&& 0x3f).toInt64) := ⟨_, rfl⟩
    rw [← h_ml]
    show own_R p.tables e below _ (s₁.setTop (mkF m 122 #[.val (.int p1), .val (.int p2), .val (.int p3), .val (.long q4), .second, .val (.long q5), .second, .val (.int p6), .val (.long sl), .second, .unset, .unset, .unset, .unset, .unset] [(.long ml)]))
    have hm : -9007199254740992 ≤ ml.toInt ∧ ml.toInt < 9007199254740992 := by
      rw [h_ml, own_sh10]
      have q1 := q5.toInt_lt
      have q2 := q5.le_toInt
      omega
    refine own_by (fun _ kZ => XS.lstore X0.here hx rfl (hb hby at_122) rfl (l' := #[.val (.int p1), .val (.int p2), .val (.int p3), .val (.long q4), .second, .val (.long q5), .second, .val (.int p6), .val (.long sl), .second, .val (.long ml), .second, .unset, .unset, .unset]) rfl kZ) ?_
    show own_R p.tables e below _ (s₁.setTop (mkF m 124 #[.val (.int p1), .val (.int p2), .val (.int p3), .val (.long q4), .second, .val (.long q5), .second, .val (.int p6), .val (.long sl), .second, .val (.long ml), .second, .unset, .unset, .unset] []))
    obtain ⟨T21, h21, X21, e21, E21, A21, D21, -, st21⟩ := newO X0 hx hZ hown (hw _ (List.mem_of_getElem? (i := 1) rfl)) (hw _ (List.mem_of_getElem? (i := 2) rfl)) (hw _ (List.mem_of_getElem? (i := 3) rfl)) e0 (g := (mkF m 124 #[.val (.int p1), .val (.int p2), .val (.int p3), .val (.long q4), .second, .val (.long q5), .second, .val (.int p6), .val (.long sl), .second, .val (.long ml), .second, .unset, .unset, .unset] [])) rfl (hb hby at_124) (by decide) (by decide)
    obtain ⟨bo, g21⟩ : ∃ z, z = h0.size := ⟨_, rfl⟩
    have ge_bo : n0 ≤ bo := Nat.le_trans Z0 (Nat.le_of_eq g21.symm)
    rw [← g21] at A21 D21 st21
    have Z22 : n0 ≤ h21.size := Nat.le_trans Z0 E21.1
    have F21_seconds : Fld Z h21 bo "com/example/frugal_scheduler/frugalscheduler/model/Deadline" "seconds" "D" (.double (0 : UInt64)) := D21 (Or.inr (hw _ (List.mem_of_getElem? (i := 32) rfl))) (ty := .double) (by decide)
    refine own_by st21 ?_
    show own_R p.tables e below _ (T21.setTop (mkF m 127 #[.val (.int p1), .val (.int p2), .val (.int p3), .val (.long q4), .second, .val (.long q5), .second, .val (.int p6), .val (.long sl), .second, .val (.long ml), .second, .unset, .unset, .unset] [(.ref bo)]))
    refine own_by (fun _ kZ => XS.dup X21.here hx rfl (hb hby at_127) rfl rfl kZ) ?_
    show own_R p.tables e below _ (T21.setTop (mkF m 128 #[.val (.int p1), .val (.int p2), .val (.int p3), .val (.long q4), .second, .val (.long q5), .second, .val (.int p6), .val (.long sl), .second, .val (.long ml), .second, .unset, .unset, .unset] [(.ref bo), (.ref bo)]))
    refine own_by (fun _ kZ => XS.lload X21.here hx rfl (hb hby at_128) rfl kZ) ?_
    show own_R p.tables e below _ (T21.setTop (mkF m 130 #[.val (.int p1), .val (.int p2), .val (.int p3), .val (.long q4), .second, .val (.long q5), .second, .val (.int p6), .val (.long sl), .second, .val (.long ml), .second, .unset, .unset, .unset] [(.long sl), (.ref bo), (.ref bo)]))
    refine own_by (fun _ kZ => own_l2d X21.here hx rfl (hb hby at_130) rfl kZ) ?_
    show own_R p.tables e below _ (T21.setTop (mkF m 131 #[.val (.int p1), .val (.int p2), .val (.int p3), .val (.long q4), .second, .val (.long q5), .second, .val (.int p6), .val (.long sl), .second, .val (.long ml), .second, .unset, .unset, .unset] [(.double (FP.l2d sl)), (.ref bo), (.ref bo)]))
    obtain ⟨_, _, ⟨T23, L23, k23, n23⟩, -, X23, hS23, hg23, ⟨Lc23, hQ23, l23, y23, z23⟩, st23⟩ := X21.specialBackS hx (y := (⟨"com/example/frugal_scheduler/frugalscheduler/model/Deadline", "<init>", "(D)V"⟩ : MethodName)) rfl hown (mvT hZ (hw _ (List.mem_of_getElem? (i := 4) rfl))) (mvT hZ (hw _ (List.mem_of_getElem? (i := 5) rfl))) (mvT hZ (hw _ (List.mem_of_getElem? (i := 6) rfl))) (by decide) (backOfS (W := 1) (rm1 l Z a0 hw [] bo (FP.l2d sl) h21 n0 Z22 ge_bo (FP.Core.l2d_fin sl) (own_posL sl hs) A21 F21_seconds) hZ (hw _ (List.mem_of_getElem? (i := 6) rfl)) (hw _ (List.mem_of_getElem? (i := 3) rfl)) (by decide) (by decide)) (g := (mkF m 131 #[.val (.int p1), .val (.int p2), .val (.int p3), .val (.long q4), .second, .val (.long q5), .second, .val (.int p6), .val (.long sl), .second, .val (.long ml), .second, .unset, .unset, .unset] [(.double (FP.l2d sl)), (.ref bo), (.ref bo)])) rfl (by rw [hml]; rfl) (Steps.refl _) (a := bo) (argsL := [(.double (FP.l2d sl))]) (rest := [(.ref bo)]) (lenOf own_pd3 rfl) rfl (by show 2 * 0 + _ ≤ _; exact Nat.le_of_eq rfl) (hb hby at_131) (fun _ _ => ⟨rfl, e21, (by decide : 1 + 2 ≤ _), (by decide : 1 + 36 ≤ _)⟩)
    replace hZ : Z.Warmed39 (s.setVm T23.vm).vm := State.Warmed39.trans (t := s) hZ hS23.1
    replace hown : (s.setVm T23.vm).vm.findClass "com/example/frugal_scheduler/frugalscheduler/model/DeadlineIsMetByPinLaw" = some m.cls := by rw [show (s.setVm T23.vm).vm = T23.vm from rfl, hS23.1.alike.findClass]; exact hown
    dsimp only [Pt.U, Pt.locs, Pt.cells, Pt.slots] at X23 l23 y23 z23 st23 hQ23
    subst l23 y23 z23
    obtain ⟨rfl, Nq23, K23, Fs23⟩ := hQ23
    have N23 := Fr.app N0 Nq23
    have f24_bo : Exa Z T23.heap bo "com/example/frugal_scheduler/frugalscheduler/model/Deadline" := A21.keep K23
    have Z25 : n0 ≤ T23.heap.size := Nat.le_trans Z22 K23.1
    refine own_by (fun _ kZ => st23.trans kZ) ?_
    show own_R p.tables e below _ (T23.setTop (mkF m 134 #[.val (.int p1), .val (.int p2), .val (.int p3), .val (.long q4), .second, .val (.long q5), .second, .val (.int p6), .val (.long sl), .second, .val (.long ml), .second, .unset, .unset, .unset] [(.ref bo)]))
    refine own_by (fun _ kZ => XS.astore X23.here hx rfl (hb hby at_134) rfl rfl (l' := #[.val (.int p1), .val (.int p2), .val (.int p3), .val (.long q4), .second, .val (.long q5), .second, .val (.int p6), .val (.long sl), .second, .val (.long ml), .second, .val (.ref bo), .unset, .unset]) rfl kZ) ?_
    show own_R p.tables e below _ (T23.setTop (mkF m 136 #[.val (.int p1), .val (.int p2), .val (.int p3), .val (.long q4), .second, .val (.long q5), .second, .val (.int p6), .val (.long sl), .second, .val (.long ml), .second, .val (.ref bo), .unset, .unset] []))
    refine own_by (fun _ kZ => XS.aload X23.here hx rfl (hb hby at_136) rfl rfl kZ) ?_
    show own_R p.tables e below _ (T23.setTop (mkF m 138 #[.val (.int p1), .val (.int p2), .val (.int p3), .val (.long q4), .second, .val (.long q5), .second, .val (.int p6), .val (.long sl), .second, .val (.long ml), .second, .val (.ref bo), .unset, .unset] [(.ref bo)]))
    refine own_by (fun _ kZ => XS.lload X23.here hx rfl (hb hby at_138) rfl kZ) ?_
    show own_R p.tables e below _ (T23.setTop (mkF m 140 #[.val (.int p1), .val (.int p2), .val (.int p3), .val (.long q4), .second, .val (.long q5), .second, .val (.int p6), .val (.long sl), .second, .val (.long ml), .second, .val (.ref bo), .unset, .unset] [(.long ml), (.ref bo)]))
    refine own_by (fun _ kZ => own_l2d X23.here hx rfl (hb hby at_140) rfl kZ) ?_
    show own_R p.tables e below _ (T23.setTop (mkF m 141 #[.val (.int p1), .val (.int p2), .val (.int p3), .val (.long q4), .second, .val (.long q5), .second, .val (.int p6), .val (.long sl), .second, .val (.long ml), .second, .val (.ref bo), .unset, .unset] [(.double (FP.l2d ml)), (.ref bo)]))
    obtain ⟨cq26, kq26, q26a, q26b, q26c⟩ := isOf hZ rfl f24_bo
    obtain ⟨_, _, ⟨T26, L26, k26, n26⟩, -, X26, ⟨Lc26, hQ26, l26, y26, z26⟩, st26⟩ := X23.virtualBack hx (y := (⟨"com/example/frugal_scheduler/frugalscheduler/model/Deadline", "isMetBy", "(D)Z"⟩ : MethodName)) (z := (⟨"com/example/frugal_scheduler/frugalscheduler/model/Deadline", "isMetBy", "(D)Z"⟩ : MethodName)) hown (mvT hZ (hw _ (List.mem_of_getElem? (i := 33) rfl))) (mvT hZ (hw _ (List.mem_of_getElem? (i := 34) rfl))) (notFace_of_selects (args := #[]) (mvT hZ (hw _ (List.mem_of_getElem? (i := 36) rfl)))) (mvT hZ (hw _ (List.mem_of_getElem? (i := 36) rfl))) (mvT hZ (hw _ (List.mem_of_getElem? (i := 35) rfl))) (by decide) (backOf (W := 0) (rm6 l Z a0 hw [] bo (FP.l2d ml) (FP.l2d sl) T23.heap n0 Z25 (FP.Core.l2d_fin sl) Fs23) hZ (hw _ (List.mem_of_getElem? (i := 37) rfl)) (hw _ (List.mem_of_getElem? (i := 3) rfl)) (by decide) (by decide)) q26a q26c (g := (mkF m 141 #[.val (.int p1), .val (.int p2), .val (.int p3), .val (.long q4), .second, .val (.long q5), .second, .val (.int p6), .val (.long sl), .second, .val (.long ml), .second, .val (.ref bo), .unset, .unset] [(.double (FP.l2d ml)), (.ref bo)])) rfl (by rw [hml]; rfl) (Steps.refl _) (argsL := [(.double (FP.l2d ml))]) (rest := []) (lenOf own_pd1 rfl) rfl (by show 2 * 0 + _ ≤ _; exact Nat.le_of_eq rfl) (hb hby at_141) (fun _ _ => ⟨rfl, rfl, (by decide : 3 + 0 ≤ _), (by decide : 37 + 0 ≤ _)⟩)
    dsimp only [Pt.U, Pt.locs, Pt.cells, Pt.slots] at X26 l26 y26 z26 st26 hQ26
    subst l26 y26 z26
    obtain ⟨rfl, Nq26, e26⟩ := hQ26
    have N26 := Fr.app N23 Nq26
    refine own_by (fun _ kZ => st26.trans kZ) ?_
    show own_R p.tables e below _ (T26.setTop (mkF m 144 #[.val (.int p1), .val (.int p2), .val (.int p3), .val (.long q4), .second, .val (.long q5), .second, .val (.int p6), .val (.long sl), .second, .val (.long ml), .second, .val (.ref bo), .unset, .unset] [(.int (if (0 : Int32) < cmpValue (FP.dcmp (FP.l2d ml) (own_D (FP.l2d sl))) .g then (0 : Int32) else 1))]))
    rw [show (if (0 : Int32) < cmpValue (FP.dcmp (FP.l2d ml) (own_D (FP.l2d sl))) .g then (0 : Int32) else 1) = (if sl.toInt < ml.toInt then (0 : Int32) else 1) from by simp only [own_met2 sl ml hs hm]]
    show own_R p.tables e below _ (T26.setTop (mkF m 144 #[.val (.int p1), .val (.int p2), .val (.int p3), .val (.long q4), .second, .val (.long q5), .second, .val (.int p6), .val (.long sl), .second, .val (.long ml), .second, .val (.ref bo), .unset, .unset] [(.int (if sl.toInt < ml.toInt then (0 : Int32) else 1))]))
    refine own_by (fun _ kZ => XS.lload X26.here hx rfl (hb hby at_144) rfl kZ) ?_
    show own_R p.tables e below _ (T26.setTop (mkF m 146 #[.val (.int p1), .val (.int p2), .val (.int p3), .val (.long q4), .second, .val (.long q5), .second, .val (.int p6), .val (.long sl), .second, .val (.long ml), .second, .val (.ref bo), .unset, .unset] [(.long ml), (.int (if sl.toInt < ml.toInt then (0 : Int32) else 1))]))
    refine own_by (fun _ kZ => XS.lload X26.here hx rfl (hb hby at_146) rfl kZ) ?_
    show own_R p.tables e below _ (T26.setTop (mkF m 148 #[.val (.int p1), .val (.int p2), .val (.int p3), .val (.long q4), .second, .val (.long q5), .second, .val (.int p6), .val (.long sl), .second, .val (.long ml), .second, .val (.ref bo), .unset, .unset] [(.long sl), (.long ml), (.int (if sl.toInt < ml.toInt then (0 : Int32) else 1))]))
    refine own_by (fun _ kZ => XS.lcmp X26.here hx rfl (hb hby at_148) rfl kZ) ?_
    show own_R p.tables e below _ (T26.setTop (mkF m 149 #[.val (.int p1), .val (.int p2), .val (.int p3), .val (.long q4), .second, .val (.long q5), .second, .val (.int p6), .val (.long sl), .second, .val (.long ml), .second, .val (.ref bo), .unset, .unset] [(.int (lcmpW ml sl)), (.int (if sl.toInt < ml.toInt then (0 : Int32) else 1))]))
    obtain ⟨ex, h_ex⟩ : ∃ z : Int32, z = (if (0 : Int32) < (lcmpW ml sl) then (0 : Int32) else (1 : Int32)) := ⟨_, rfl⟩
    refine own_by (S' := T26.setTop (mkF m 157 #[.val (.int p1), .val (.int p2), .val (.int p3), .val (.long q4), .second, .val (.long q5), .second, .val (.int p6), .val (.long sl), .second, .val (.long ml), .second, .val (.ref bo), .unset, .unset] [(.int ex), (.int (if sl.toInt < ml.toInt then (0 : Int32) else 1))])) (fun _ kZ => ?_) ?_
    · skip
      show Steps p.tables e below (T26.setTop (mkF m 149 #[.val (.int p1), .val (.int p2), .val (.int p3), .val (.long q4), .second, .val (.long q5), .second, .val (.int p6), .val (.long sl), .second, .val (.long ml), .second, .val (.ref bo), .unset, .unset] [(.int (lcmpW ml sl)), (.int (if sl.toInt < ml.toInt then (0 : Int32) else 1))])) _
      by_cases hd149 : (0 : Int32) < (lcmpW ml sl)
      · skip
        refine XS.ifYes X26.here hx rfl (pc0 := 149) (pc' := 156) rfl (hb hby at_149) rfl ((if0 _ _).trans (tlt hd149).2.2.1) (by decide) (by decide) ?_
        show Steps p.tables e below (T26.setTop (mkF m 156 #[.val (.int p1), .val (.int p2), .val (.int p3), .val (.long q4), .second, .val (.long q5), .second, .val (.int p6), .val (.long sl), .second, .val (.long ml), .second, .val (.ref bo), .unset, .unset] [(.int (if sl.toInt < ml.toInt then (0 : Int32) else 1))])) _
        refine XS.iconst X26.here hx rfl (hb hby at_156) ?_
        show Steps p.tables e below (T26.setTop (mkF m 157 #[.val (.int p1), .val (.int p2), .val (.int p3), .val (.long q4), .second, .val (.long q5), .second, .val (.int p6), .val (.long sl), .second, .val (.long ml), .second, .val (.ref bo), .unset, .unset] [(.int (0 : Int32)), (.int (if sl.toInt < ml.toInt then (0 : Int32) else 1))])) _
        rw [if_pos hd149] at h_ex
        subst h_ex
        exact kZ
      · skip
        refine XS.ifNo X26.here hx rfl (hb hby at_149) rfl ((if0 _ _).trans (flt hd149).2.2.1) ?_
        show Steps p.tables e below (T26.setTop (mkF m 152 #[.val (.int p1), .val (.int p2), .val (.int p3), .val (.long q4), .second, .val (.long q5), .second, .val (.int p6), .val (.long sl), .second, .val (.long ml), .second, .val (.ref bo), .unset, .unset] [(.int (if sl.toInt < ml.toInt then (0 : Int32) else 1))])) _
        refine XS.iconst X26.here hx rfl (hb hby at_152) ?_
        show Steps p.tables e below (T26.setTop (mkF m 153 #[.val (.int p1), .val (.int p2), .val (.int p3), .val (.long q4), .second, .val (.long q5), .second, .val (.int p6), .val (.long sl), .second, .val (.long ml), .second, .val (.ref bo), .unset, .unset] [(.int (1 : Int32)), (.int (if sl.toInt < ml.toInt then (0 : Int32) else 1))])) _
        refine XS.goto X26.here hx rfl (pc0 := 153) (pc' := 157) rfl (hb hby at_153) (by decide) (by decide) ?_
        show Steps p.tables e below (T26.setTop (mkF m 157 #[.val (.int p1), .val (.int p2), .val (.int p3), .val (.long q4), .second, .val (.long q5), .second, .val (.int p6), .val (.long sl), .second, .val (.long ml), .second, .val (.ref bo), .unset, .unset] [(.int (1 : Int32)), (.int (if sl.toInt < ml.toInt then (0 : Int32) else 1))])) _
        rw [if_neg hd149] at h_ex
        subst h_ex
        exact kZ
    show own_R p.tables e below _ (T26.setTop (mkF m 157 #[.val (.int p1), .val (.int p2), .val (.int p3), .val (.long q4), .second, .val (.long q5), .second, .val (.int p6), .val (.long sl), .second, .val (.long ml), .second, .val (.ref bo), .unset, .unset] [(.int ex), (.int (if sl.toInt < ml.toInt then (0 : Int32) else 1))]))
    have hq : (if sl.toInt < ml.toInt then (0 : Int32) else 1) = ex := by
      rw [h_ex, lcW]
      simp only [lc_gt, Int64.lt_iff_toInt_lt]
    rw [show (if sl.toInt < ml.toInt then (0 : Int32) else 1) = ex from hq]
    show own_R p.tables e below _ (T26.setTop (mkF m 157 #[.val (.int p1), .val (.int p2), .val (.int p3), .val (.long q4), .second, .val (.long q5), .second, .val (.int p6), .val (.long sl), .second, .val (.long ml), .second, .val (.ref bo), .unset, .unset] [(.int ex), (.int ex)]))
    refine own_by (fun _ kZ => XS.icmpNo X26.here hx rfl (hb hby at_157) rfl (teq (rfl : ex = ex)).2 kZ) ?_
    show own_R p.tables e below _ (T26.setTop (mkF m 160 #[.val (.int p1), .val (.int p2), .val (.int p3), .val (.long q4), .second, .val (.long q5), .second, .val (.int p6), .val (.long sl), .second, .val (.long ml), .second, .val (.ref bo), .unset, .unset] []))
    refine own_by (fun _ kZ => XS.iconst X26.here hx rfl (hb hby at_160) kZ) ?_
    show own_R p.tables e below _ (T26.setTop (mkF m 161 #[.val (.int p1), .val (.int p2), .val (.int p3), .val (.long q4), .second, .val (.long q5), .second, .val (.int p6), .val (.long sl), .second, .val (.long ml), .second, .val (.ref bo), .unset, .unset] [(.int (1 : Int32))]))
    refine own_by (fun _ kZ => XS.goto X26.here hx rfl (pc0 := 161) (pc' := 165) rfl (hb hby at_161) (by decide) (by decide) kZ) ?_
    show own_R p.tables e below _ (T26.setTop (mkF m 165 #[.val (.int p1), .val (.int p2), .val (.int p3), .val (.long q4), .second, .val (.long q5), .second, .val (.int p6), .val (.long sl), .second, .val (.long ml), .second, .val (.ref bo), .unset, .unset] [(.int (1 : Int32))]))
    obtain ⟨fs, hr, hrun, hended, hRW⟩ := leaveW X26 hS23 (by rw [e26]; exact (Nat.le_refl _)) (v := some (.int (1 : Int32))) (fun h => by rw [Bd.returns] at h; cases h)
    refine own_end ⟨_, _, ?_, hrun, hended, _, _, rfl, ?_, own_monoW hRW (by decide) (by decide)⟩
    · exact retN X26 hx (t := .boolean) Bd.returns (by simp) (hb hby at_165) hr
    · show Q0 Z p1 p2 p3 q4 q5 p6 h0 n0 _ T26.heap _
      rw [e26]
      exact ⟨rfl, N26⟩
set_option maxRecDepth 65536 in
set_option maxHeartbeats 40000000 in
theorem comes_1 {Post : Tables → Env → Array Value → State → Outcome → State → Prop} (hpost : ∀ tb e args s v u, (limb_1_1.after args s (.returned v) u = true ∧ limb_1_2.after args s (.returned v) u = true) → ReturnedEndW s (.returned v) u (Jvm.fieldLocs frame_1_writes args s ++ Jvm.arrayLocs frame_1_arrays args s ++ Jvm.staticLocs frame_1_statics s) 16 1152 → Post tb e args s (.returned v) u) :
    ArmFor flags0 classFile x code maxLocals ret World_1 tables_1 room_1 Calls_1 rest_1 Pre_1 Post := by
  intro l hfl _ _ p e ha hc hk s m args below hf hA hF happ hP
  obtain ⟨hcalls, hrest, hpre⟩ := hP
  obtain ⟨-, -, -, hnamed, -, -, -, hat⟩ := (Spec.applies_iff hf).mp happ
  obtain ⟨hg, hn⟩ := and_e (Cond.before_iff.mp (show (Jvm.Cond.and given_1 narrow_1).before args s = true from hpre))
  obtain ⟨g0, q0⟩ := and_e hg
  obtain ⟨g1, q1⟩ := and_e q0
  obtain ⟨g2, q2⟩ := and_e q1
  obtain ⟨g3, q3⟩ := and_e q2
  obtain ⟨g4, q4⟩ := and_e q3
  obtain ⟨g5, q5⟩ := and_e q4
  have g6 := q5
  obtain ⟨w0, w1, w2, w3, w4, w5, rfl⟩ : ∃ w0 w1 w2 w3 w4 w5 : Value, args = #[w0, w1, w2, w3, w4, w5] := by
    have hs : args.size = 6 := by simpa [Cond.value, given_1] using g0
    obtain ⟨L⟩ := args
    match L, hs with
    | [w0, w1, w2, w3, w4, w5], _ => exact ⟨w0, w1, w2, w3, w4, w5, rfl⟩
  have hw := fun d (hd : d ∈ tables_1) => atoms_spec (ws := Jvm.Cond.code x code maxLocals ret :: tables_1) hat d (List.mem_cons_of_mem _ hd)
  have hfit : Fit s := fun {y c} hc i hi => by
    obtain ⟨ha, rfl⟩ := Array.getElem?_eq_some_iff.mp hc
    have q := List.all_eq_true.mp ((Array.all_eq_true_iff_forall_mem.mp hF) _ (Array.getElem_mem ha)) i (List.mem_range.mpr hi)
    simpa [Array.getElem?_eq_getElem hi] using q
  obtain ⟨i0, ei0⟩ := is_v g1
  obtain rfl : w0 = (.int i0) := Option.some.inj ei0
  obtain ⟨i1, ei1⟩ := is_v g2
  obtain rfl : w1 = (.int i1) := Option.some.inj ei1
  obtain ⟨i2, ei2⟩ := is_v g3
  obtain rfl : w2 = (.int i2) := Option.some.inj ei2
  obtain ⟨i3, ei3⟩ := isL_v g4
  obtain rfl : w3 = (.long i3) := Option.some.inj ei3
  obtain ⟨i4, ei4⟩ := isL_v g5
  obtain rfl : w4 = (.long i4) := Option.some.inj ei4
  obtain ⟨i5, ei5⟩ := is_v g6
  obtain rfl : w5 = (.int i5) := Option.some.inj ei5
  obtain ⟨n, o, h1, h2, h3, _, L, rfl, ⟨rfl, N⟩, hq⟩ := rm0 l s _ hw tables_1 i0 i1 i2 i3 i4 i5  s.heap s.heap.size (Nat.le_refl _)  p e ha hc hk s m _ below hf ((Spec.applies_iff_loose hf).mp happ).1 ⟨rfl, State.Warmed39.refl s, rfl⟩ trivial
  refine ⟨n, _, h1, h2, h3, hpost _ _ _ _ _ _ ⟨Cond.after_iff.mpr rfl, Cond.after_iff.mpr (eq_i res_at (Term.int_eval (1)) rfl)⟩ ⟨hq.1, hq.2.1, hq.2.2.1, (hq.2.2.2.sift fun y hy => Or.inr (N y hy)).mono (by decide) (by decide)⟩⟩
theorem main_1_1 : Claimed_1_1 := comes_1 fun _ _ _ _ _ _ h hF => ⟨h.1, hF⟩
theorem main_1_2 : Claimed_1_2 := comes_1 fun _ _ _ _ _ _ h hF => ⟨h.2, hF⟩
end Jvm.Pilot.@@N@@
namespace Jvm.Pilot.@@N@@
open Jvm Jvm.ClassFile Sem Op Lib Jvm.Free Jvm.Stand Jvm.Pilot.@@N@@.Jvm.D
/-! MADE BY PROGRAM (witnessworld.py) out of the Statement's table words and the real class files: 18 classes; the members and pool entries that the words name. The judged class is class 1, her method 1. -/
namespace start1
open Jvm.ClassFile
def u (s : String) : CpInfo := .utf8 (stringToUtf16 s)
/-- a pool by its gaps: so many unusable entries, then the entry; so many at the end -/
def gap : Nat → List CpInfo → List CpInfo
  | 0, r => r
  | n + 1, r => .unusable :: gap n r
def poolList (es : List (Nat × CpInfo)) (last : Nat) : List CpInfo := es.foldr (fun e r => gap e.1 (e.2 :: r)) (gap last [])
def pool (es : List (Nat × CpInfo)) (last : Nat) : Array CpInfo := ⟨poolList es last⟩
def fileOf (pool : Array CpInfo) (this : Nat) (attrs : Array Attribute := #[]) (ms : Array MethodInfo := #[]) (fl : Nat := 33) (sup : Nat := 0) (ifs : Array Nat := #[]) (fds : Array FieldInfo := #[]) : ClassFile where
  minorVersion := 0
  majorVersion := 65
  constantPool := pool
  accessFlags := fl
  thisClass := this
  superClass := sup
  interfaces := ifs
  fields := fds
  methods := ms
  attributes := attrs
def plain (name : String) (sup : Option ClassId) : Class where
  name := name
  kind := .ordinary
  loader := none
  accessFlags := 33
  super := sup
  interfaces := #[]
  cf := none
  fields := #[]
  methods := #[]
  instanceTypes := #[]
  staticTypes := #[]
  resolved := #[]
  callSites := []
  init := .initialized
  statics := none
  mirror := none

def pool0 : Array CpInfo := pool [(5, u "<init>"), (0, u "()V"), (1, .class_ 10), (1, u "java/lang/Object")] 113

def k0c0 : Code := { maxStack := 0, maxLocals := 1, code := object_method_1_code, exceptionTable := #[], attributes := #[] }
def k0m0 : Method := { name := "<init>", desc := "()V", sig := { parameters := [], returnType := none }, accessFlags := 1, code := some k0c0 }
/-- java/lang/Object -/
def k0 : Class := { plain "java/lang/Object" none with
  accessFlags := 33
  interfaces := #[]
  cf := some (fileOf pool0 8 #[] #[{ accessFlags := 1, nameIndex := 5, descriptorIndex := 6, attributes := #[] }] 33 0 #[] #[])
  fields := #[]
  methods := #[k0m0]
  instanceTypes := #[]
  staticTypes := #[]
  resolved := Array.replicate 124 none
  statics := none }

def pool1 : Array CpInfo := pool [(2, .class_ 4), (1, u "java/lang/Object"), (0, u "<init>"), (0, u "()V"), (0, .integer 65535), (0, .double 4742290407621132288), (1, .class_ 11), (0, u "com/example/frugal_scheduler/frugalscheduler/model/Deadline"), (0, .methodref 10 13), (0, .nameAndType 5 14), (0, u "(D)V"), (0, .methodref 10 16), (0, .nameAndType 17 18), (0, u "isMetBy"), (0, u "(D)Z"), (0, .long 9007199254740991), (1, .class_ 22), (0, u "com/example/frugal_scheduler/frugalscheduler/model/DeadlineIsMetByPinLaw"), (2, u "law"), (0, u "(IIIJJI)Z")] 3

def k1m0 : Method := { name := "<init>", desc := "()V", sig := { parameters := [], returnType := none }, accessFlags := 1, code := none }
def k1c1 : Code := { maxStack := 6, maxLocals := 15, code := code, exceptionTable := #[], attributes := #[] }
def k1m1 : Method := { name := "law", desc := "(IIIJJI)Z", sig := { parameters := [.int, .int, .int, .long, .long, .int], returnType := some .boolean }, accessFlags := 9, code := some k1c1 }
/-- com/example/frugal_scheduler/frugalscheduler/model/DeadlineIsMetByPinLaw -/
def k1 : Class := { plain "com/example/frugal_scheduler/frugalscheduler/model/DeadlineIsMetByPinLaw" (some 0) with
  accessFlags := 49
  interfaces := #[]
  cf := some (fileOf pool1 21 #[] #[{ accessFlags := 1, nameIndex := 5, descriptorIndex := 6, attributes := #[] }, { accessFlags := 9, nameIndex := 25, descriptorIndex := 26, attributes := #[] }] 49 2 #[] #[])
  fields := #[]
  methods := #[k1m0, k1m1]
  instanceTypes := #[]
  staticTypes := #[]
  resolved := Array.replicate 30 none
  statics := none }

def pool2 : Array CpInfo := pool [(1, .methodref 2 3), (0, .class_ 4), (0, .nameAndType 5 6), (0, u "java/lang/Object"), (0, u "<init>"), (0, u "()V"), (0, .string 8), (0, u "deadline"), (0, .methodref 10 11), (0, .class_ 12), (0, .nameAndType 13 14), (0, u "com/example/frugal_scheduler/frugalscheduler/model/Checks"), (0, u "nonNegative"), (0, u "(DLjava/lang/String;)D"), (0, .fieldref 16 17), (0, .class_ 18), (0, .nameAndType 19 20), (0, u "com/example/frugal_scheduler/frugalscheduler/model/Deadline"), (0, u "seconds"), (0, u "D"), (16, u "(D)V"), (2, .double 4517329193108106637), (1, u "BEST_TRY_SLACK"), (8, u "isMetBy"), (0, u "(D)Z")] 3

def k2c0 : Code := { maxStack := 4, maxLocals := 3, code := prog_10_method_1_code, exceptionTable := #[], attributes := #[] }
def k2m0 : Method := { name := "<init>", desc := "(D)V", sig := { parameters := [.double], returnType := none }, accessFlags := 1, code := some k2c0 }
def k2c1 : Code := { maxStack := 6, maxLocals := 3, code := prog_10_method_4_code, exceptionTable := #[], attributes := #[] }
def k2m1 : Method := { name := "isMetBy", desc := "(D)Z", sig := { parameters := [.double], returnType := some .boolean }, accessFlags := 1, code := some k2c1 }
/-- com/example/frugal_scheduler/frugalscheduler/model/Deadline -/
def k2 : Class := { plain "com/example/frugal_scheduler/frugalscheduler/model/Deadline" (some 0) with
  accessFlags := 33
  interfaces := #[]
  cf := some (fileOf pool2 16 #[] #[{ accessFlags := 1, nameIndex := 5, descriptorIndex := 37, attributes := #[] }, { accessFlags := 1, nameIndex := 51, descriptorIndex := 52, attributes := #[] }] 33 2 #[] #[{ accessFlags := 26, nameIndex := 42, descriptorIndex := 20, attributes := #[] }, { accessFlags := 18, nameIndex := 19, descriptorIndex := 20, attributes := #[] }])
  fields := #[{ name := "BEST_TRY_SLACK", type := .double, accessFlags := 26, slot := 0, constantValue := 0 }, { name := "seconds", type := .double, accessFlags := 18, slot := 0, constantValue := 0 }]
  methods := #[k2m0, k2m1]
  instanceTypes := #[.double]
  staticTypes := #[.double]
  resolved := Array.replicate 56 none
  statics := none }

def pool3 : Array CpInfo := pool [(1, .class_ 2), (0, u "java/io/Serializable"), (0, .class_ 4), (0, u "java/lang/Object")] 2

/-- java/io/Serializable -/
def k3 : Class := { plain "java/io/Serializable" (some 0) with
  accessFlags := 1537
  interfaces := #[]
  cf := some (fileOf pool3 1 #[] #[] 1537 3 #[] #[])
  fields := #[]
  methods := #[]
  instanceTypes := #[]
  staticTypes := #[]
  resolved := Array.replicate 7 none
  statics := none }

def pool4 : Array CpInfo := pool [(1, .class_ 2), (0, u "java/lang/Comparable"), (0, .class_ 4), (0, u "java/lang/Object")] 7

/-- java/lang/Comparable -/
def k4 : Class := { plain "java/lang/Comparable" (some 0) with
  accessFlags := 1537
  interfaces := #[]
  cf := some (fileOf pool4 1 #[] #[] 1537 3 #[] #[])
  fields := #[]
  methods := #[]
  instanceTypes := #[]
  staticTypes := #[]
  resolved := Array.replicate 12 none
  statics := none }

def pool5 : Array CpInfo := pool [(2, .class_ 4), (1, u "java/lang/CharSequence"), (42, .class_ 48), (0, u "java/lang/CharSequence$1CodePointIterator"), (10, .class_ 60), (0, u "java/lang/CharSequence$1CharIterator"), (5, .class_ 67), (0, u "java/lang/Object")] 63

/-- java/lang/CharSequence -/
def k5 : Class := { plain "java/lang/CharSequence" (some 0) with
  accessFlags := 1537
  interfaces := #[]
  cf := some (fileOf pool5 2 #[.nestMembers #[47, 59]] #[] 1537 66 #[] #[])
  fields := #[]
  methods := #[]
  instanceTypes := #[]
  staticTypes := #[]
  resolved := Array.replicate 131 none
  statics := none }

def pool6 : Array CpInfo := pool [(1, .class_ 2), (0, u "java/lang/constant/Constable"), (0, .class_ 4), (0, u "java/lang/Object")] 6

/-- java/lang/constant/Constable -/
def k6 : Class := { plain "java/lang/constant/Constable" (some 0) with
  accessFlags := 1537
  interfaces := #[]
  cf := some (fileOf pool6 1 #[] #[] 1537 3 #[] #[])
  fields := #[]
  methods := #[]
  instanceTypes := #[]
  staticTypes := #[]
  resolved := Array.replicate 11 none
  statics := none }

def pool7 : Array CpInfo := pool [(1, .class_ 2), (0, u "java/lang/constant/ConstantDesc"), (0, .class_ 4), (0, u "java/lang/Object")] 32

/-- java/lang/constant/ConstantDesc -/
def k7 : Class := { plain "java/lang/constant/ConstantDesc" (some 0) with
  accessFlags := 1537
  interfaces := #[]
  cf := some (fileOf pool7 1 #[] #[] 1537 3 #[] #[])
  fields := #[]
  methods := #[]
  instanceTypes := #[]
  staticTypes := #[]
  resolved := Array.replicate 37 none
  statics := none }

def pool8 : Array CpInfo := pool [(2, .class_ 4), (1, u "java/lang/Object"), (0, u "<init>"), (0, u "()V"), (3, .class_ 12), (1, u "java/lang/String"), (0, u "value"), (0, u "[B"), (2, u "coder"), (0, u "B"), (2, u "hash"), (0, u "I"), (2, u "hashIsZero"), (0, u "Z"), (13, u "COMPACT_STRINGS"), (534, .class_ 576), (0, u "java/lang/CharSequence"), (22, u "CASE_INSENSITIVE_ORDER"), (0, u "Ljava/util/Comparator;"), (500, u "serialPersistentFields"), (0, u "[Ljava/io/ObjectStreamField;"), (0, .class_ 1104), (0, u "java/lang/String$CaseInsensitiveComparator"), (1, .class_ 1107), (0, u "java/io/Serializable"), (0, .class_ 1109), (0, u "java/lang/Comparable"), (0, .class_ 1111), (0, u "java/lang/constant/Constable"), (0, .class_ 1113), (0, u "java/lang/constant/ConstantDesc"), (2, u "serialVersionUID"), (0, u "J"), (3, u "REPL"), (0, u "C"), (2, u "LATIN1"), (1, u "UTF16")] 323

def k8m0 : Method := { name := "<init>", desc := "()V", sig := { parameters := [], returnType := none }, accessFlags := 1, code := none }
/-- java/lang/String -/
def k8 : Class := { plain "java/lang/String" (some 0) with
  accessFlags := 49
  interfaces := #[3, 4, 5, 6, 7]
  cf := some (fileOf pool8 10 #[.nestMembers #[1103]] #[{ accessFlags := 1, nameIndex := 5, descriptorIndex := 6, attributes := #[] }] 49 2 #[1106, 1108, 575, 1110, 1112] #[{ accessFlags := 18, nameIndex := 13, descriptorIndex := 14, attributes := #[] }, { accessFlags := 18, nameIndex := 17, descriptorIndex := 18, attributes := #[] }, { accessFlags := 2, nameIndex := 21, descriptorIndex := 22, attributes := #[] }, { accessFlags := 2, nameIndex := 25, descriptorIndex := 26, attributes := #[] }, { accessFlags := 26, nameIndex := 1116, descriptorIndex := 1117, attributes := #[] }, { accessFlags := 24, nameIndex := 40, descriptorIndex := 26, attributes := #[] }, { accessFlags := 26, nameIndex := 1101, descriptorIndex := 1102, attributes := #[] }, { accessFlags := 26, nameIndex := 1121, descriptorIndex := 1122, attributes := #[] }, { accessFlags := 25, nameIndex := 599, descriptorIndex := 600, attributes := #[] }, { accessFlags := 24, nameIndex := 1125, descriptorIndex := 18, attributes := #[] }, { accessFlags := 24, nameIndex := 1127, descriptorIndex := 18, attributes := #[] }])
  fields := #[{ name := "value", type := (.array .byte), accessFlags := 18, slot := 0, constantValue := 0 }, { name := "coder", type := .byte, accessFlags := 18, slot := 1, constantValue := 0 }, { name := "hash", type := .int, accessFlags := 2, slot := 2, constantValue := 0 }, { name := "hashIsZero", type := .boolean, accessFlags := 2, slot := 3, constantValue := 0 }, { name := "serialVersionUID", type := .long, accessFlags := 26, slot := 0, constantValue := 0 }, { name := "COMPACT_STRINGS", type := .boolean, accessFlags := 24, slot := 1, constantValue := 0 }, { name := "serialPersistentFields", type := (.array (.object "java/io/ObjectStreamField")), accessFlags := 26, slot := 2, constantValue := 0 }, { name := "REPL", type := .char, accessFlags := 26, slot := 3, constantValue := 0 }, { name := "CASE_INSENSITIVE_ORDER", type := (.object "java/util/Comparator"), accessFlags := 25, slot := 4, constantValue := 0 }, { name := "LATIN1", type := .byte, accessFlags := 24, slot := 5, constantValue := 0 }, { name := "UTF16", type := .byte, accessFlags := 24, slot := 6, constantValue := 0 }]
  methods := #[k8m0]
  instanceTypes := #[(.array .byte), .byte, .int, .boolean]
  staticTypes := #[.long, .boolean, (.array (.object "java/io/ObjectStreamField")), .char, (.object "java/util/Comparator"), .byte, .byte]
  resolved := Array.replicate 1451 none
  statics := none }

def pool9 : Array CpInfo := pool [(2, .class_ 4), (1, u "java/lang/Object"), (0, u "<init>"), (0, u "()V"), (0, .methodref 8 9), (0, .class_ 10), (0, .nameAndType 11 12), (0, u "java/lang/Double"), (0, u "isInfinite"), (0, u "(D)Z"), (14, .class_ 28), (0, u "com/example/frugal_scheduler/frugalscheduler/model/Checks"), (3, u "(DLjava/lang/String;)D"), (2, u "nonNegative")] 21

def k9m0 : Method := { name := "<init>", desc := "()V", sig := { parameters := [], returnType := none }, accessFlags := 2, code := none }
def k9c1 : Code := { maxStack := 5, maxLocals := 3, code := prog_8_method_4_code, exceptionTable := #[], attributes := #[] }
def k9m1 : Method := { name := "nonNegative", desc := "(DLjava/lang/String;)D", sig := { parameters := [.double, (.object "java/lang/String")], returnType := some .double }, accessFlags := 8, code := some k9c1 }
/-- com/example/frugal_scheduler/frugalscheduler/model/Checks -/
def k9 : Class := { plain "com/example/frugal_scheduler/frugalscheduler/model/Checks" (some 0) with
  accessFlags := 32
  interfaces := #[]
  cf := some (fileOf pool9 27 #[] #[{ accessFlags := 2, nameIndex := 5, descriptorIndex := 6, attributes := #[] }, { accessFlags := 8, nameIndex := 35, descriptorIndex := 32, attributes := #[] }] 32 2 #[] #[])
  fields := #[]
  methods := #[k9m0, k9m1]
  instanceTypes := #[]
  staticTypes := #[]
  resolved := Array.replicate 57 none
  statics := none }

def pool10 : Array CpInfo := pool [(2, .class_ 4), (1, u "java/lang/Object"), (0, u "<init>"), (0, u "()V"), (1, .class_ 10), (1, u "java/lang/Number"), (2, .class_ 14), (0, u "java/io/Serializable"), (0, u "serialVersionUID"), (0, u "J")] 20

def k10m0 : Method := { name := "<init>", desc := "()V", sig := { parameters := [], returnType := none }, accessFlags := 1, code := none }
/-- java/lang/Number -/
def k10 : Class := { plain "java/lang/Number" (some 0) with
  accessFlags := 1057
  interfaces := #[3]
  cf := some (fileOf pool10 8 #[] #[{ accessFlags := 1, nameIndex := 5, descriptorIndex := 6, attributes := #[] }] 1057 2 #[13] #[{ accessFlags := 26, nameIndex := 15, descriptorIndex := 16, attributes := #[] }])
  fields := #[{ name := "serialVersionUID", type := .long, accessFlags := 26, slot := 0, constantValue := 0 }]
  methods := #[k10m0]
  instanceTypes := #[]
  staticTypes := #[.long]
  resolved := Array.replicate 37 none
  statics := none }

def pool11 : Array CpInfo := pool [(1, .class_ 2), (0, u "java/lang/Double"), (11, u "(D)Z"), (8, .class_ 25), (1, u "java/lang/Math"), (12, .methodref 23 39), (0, .nameAndType 40 41), (0, u "abs"), (0, u "(D)D"), (69, .double 9218868437227405311), (2, .class_ 116), (1, u "java/lang/Number"), (3, u "value"), (0, u "D"), (5, u "isInfinite"), (45, u "TYPE"), (0, u "Ljava/lang/Class;"), (0, .class_ 176), (0, u "java/lang/Comparable"), (0, .class_ 178), (0, u "java/lang/constant/Constable"), (0, .class_ 180), (0, u "java/lang/constant/ConstantDesc"), (0, u "POSITIVE_INFINITY"), (3, u "NEGATIVE_INFINITY"), (2, u "NaN"), (2, u "MAX_VALUE"), (0, u "MIN_NORMAL"), (0, u "MIN_VALUE"), (2, u "SIZE"), (0, u "I"), (1, u "PRECISION"), (1, u "MAX_EXPONENT"), (1, u "MIN_EXPONENT"), (1, u "BYTES"), (3, u "serialVersionUID"), (0, u "J")] 79

def k11c0 : Code := { maxStack := 4, maxLocals := 2, code := jdk_117_method_7_code, exceptionTable := #[], attributes := #[] }
def k11m0 : Method := { name := "isInfinite", desc := "(D)Z", sig := { parameters := [.double], returnType := some .boolean }, accessFlags := 9, code := some k11c0 }
/-- java/lang/Double -/
def k11 : Class := { plain "java/lang/Double" (some 10) with
  accessFlags := 49
  interfaces := #[4, 6, 7]
  cf := some (fileOf pool11 1 #[] #[{ accessFlags := 9, nameIndex := 127, descriptorIndex := 14, attributes := #[] }] 49 114 #[175, 177, 179] #[{ accessFlags := 25, nameIndex := 181, descriptorIndex := 121, attributes := #[] }, { accessFlags := 25, nameIndex := 185, descriptorIndex := 121, attributes := #[] }, { accessFlags := 25, nameIndex := 188, descriptorIndex := 121, attributes := #[] }, { accessFlags := 25, nameIndex := 191, descriptorIndex := 121, attributes := #[] }, { accessFlags := 25, nameIndex := 192, descriptorIndex := 121, attributes := #[] }, { accessFlags := 25, nameIndex := 193, descriptorIndex := 121, attributes := #[] }, { accessFlags := 25, nameIndex := 196, descriptorIndex := 197, attributes := #[] }, { accessFlags := 25, nameIndex := 199, descriptorIndex := 197, attributes := #[] }, { accessFlags := 25, nameIndex := 201, descriptorIndex := 197, attributes := #[] }, { accessFlags := 25, nameIndex := 203, descriptorIndex := 197, attributes := #[] }, { accessFlags := 25, nameIndex := 205, descriptorIndex := 197, attributes := #[] }, { accessFlags := 25, nameIndex := 173, descriptorIndex := 174, attributes := #[] }, { accessFlags := 18, nameIndex := 120, descriptorIndex := 121, attributes := #[] }, { accessFlags := 26, nameIndex := 209, descriptorIndex := 210, attributes := #[] }])
  fields := #[{ name := "POSITIVE_INFINITY", type := .double, accessFlags := 25, slot := 0, constantValue := 0 }, { name := "NEGATIVE_INFINITY", type := .double, accessFlags := 25, slot := 1, constantValue := 0 }, { name := "NaN", type := .double, accessFlags := 25, slot := 2, constantValue := 0 }, { name := "MAX_VALUE", type := .double, accessFlags := 25, slot := 3, constantValue := 0 }, { name := "MIN_NORMAL", type := .double, accessFlags := 25, slot := 4, constantValue := 0 }, { name := "MIN_VALUE", type := .double, accessFlags := 25, slot := 5, constantValue := 0 }, { name := "SIZE", type := .int, accessFlags := 25, slot := 6, constantValue := 0 }, { name := "PRECISION", type := .int, accessFlags := 25, slot := 7, constantValue := 0 }, { name := "MAX_EXPONENT", type := .int, accessFlags := 25, slot := 8, constantValue := 0 }, { name := "MIN_EXPONENT", type := .int, accessFlags := 25, slot := 9, constantValue := 0 }, { name := "BYTES", type := .int, accessFlags := 25, slot := 10, constantValue := 0 }, { name := "TYPE", type := (.object "java/lang/Class"), accessFlags := 25, slot := 11, constantValue := 0 }, { name := "value", type := .double, accessFlags := 18, slot := 0, constantValue := 0 }, { name := "serialVersionUID", type := .long, accessFlags := 26, slot := 12, constantValue := 0 }]
  methods := #[k11m0]
  instanceTypes := #[.double]
  staticTypes := #[.double, .double, .double, .double, .double, .double, .int, .int, .int, .int, .int, (.object "java/lang/Class"), .long]
  resolved := Array.replicate 290 none
  statics := none }

def pool12 : Array CpInfo := pool [(1, .class_ 2), (0, u "java/lang/Math"), (1, .class_ 6), (1, u "java/lang/Object"), (0, u "<init>"), (0, u "()V"), (5, u "(D)D"), (83, .class_ 100), (1, u "java/lang/Math$RandomNumberGeneratorHolder"), (23, u "abs"), (47, u "negativeZeroFloatBits"), (0, u "J"), (2, u "negativeZeroDoubleBits"), (68, u "$assertionsDisabled"), (0, u "Z"), (91, u "twoToTheDoubleScaleDown"), (0, u "D"), (4, u "twoToTheDoubleScaleUp"), (9, u "E"), (3, u "PI"), (2, u "TAU"), (2, u "DEGREES_TO_RADIANS"), (0, u "RADIANS_TO_DEGREES")] 94

def k12m0 : Method := { name := "<init>", desc := "()V", sig := { parameters := [], returnType := none }, accessFlags := 2, code := none }
def k12c1 : Code := { maxStack := 4, maxLocals := 2, code := jdk_29_method_64_code, exceptionTable := #[], attributes := #[] }
def k12m1 : Method := { name := "abs", desc := "(D)D", sig := { parameters := [.double], returnType := some .double }, accessFlags := 9, code := some k12c1 }
/-- java/lang/Math -/
def k12 : Class := { plain "java/lang/Math" (some 0) with
  accessFlags := 49
  interfaces := #[]
  cf := some (fileOf pool12 1 #[.nestMembers #[98]] #[{ accessFlags := 2, nameIndex := 7, descriptorIndex := 8, attributes := #[] }, { accessFlags := 9, nameIndex := 124, descriptorIndex := 14, attributes := #[] }] 49 4 #[] #[{ accessFlags := 25, nameIndex := 354, descriptorIndex := 339, attributes := #[] }, { accessFlags := 25, nameIndex := 358, descriptorIndex := 339, attributes := #[] }, { accessFlags := 25, nameIndex := 361, descriptorIndex := 339, attributes := #[] }, { accessFlags := 26, nameIndex := 364, descriptorIndex := 339, attributes := #[] }, { accessFlags := 26, nameIndex := 365, descriptorIndex := 339, attributes := #[] }, { accessFlags := 26, nameIndex := 172, descriptorIndex := 173, attributes := #[] }, { accessFlags := 26, nameIndex := 176, descriptorIndex := 173, attributes := #[] }, { accessFlags := 8, nameIndex := 344, descriptorIndex := 339, attributes := #[] }, { accessFlags := 8, nameIndex := 338, descriptorIndex := 339, attributes := #[] }, { accessFlags := 4120, nameIndex := 245, descriptorIndex := 246, attributes := #[] }])
  fields := #[{ name := "E", type := .double, accessFlags := 25, slot := 0, constantValue := 0 }, { name := "PI", type := .double, accessFlags := 25, slot := 1, constantValue := 0 }, { name := "TAU", type := .double, accessFlags := 25, slot := 2, constantValue := 0 }, { name := "DEGREES_TO_RADIANS", type := .double, accessFlags := 26, slot := 3, constantValue := 0 }, { name := "RADIANS_TO_DEGREES", type := .double, accessFlags := 26, slot := 4, constantValue := 0 }, { name := "negativeZeroFloatBits", type := .long, accessFlags := 26, slot := 5, constantValue := 0 }, { name := "negativeZeroDoubleBits", type := .long, accessFlags := 26, slot := 6, constantValue := 0 }, { name := "twoToTheDoubleScaleUp", type := .double, accessFlags := 8, slot := 7, constantValue := 0 }, { name := "twoToTheDoubleScaleDown", type := .double, accessFlags := 8, slot := 8, constantValue := 0 }, { name := "$assertionsDisabled", type := .boolean, accessFlags := 4120, slot := 9, constantValue := 0 }]
  methods := #[k12m0, k12m1]
  instanceTypes := #[]
  staticTypes := #[.double, .double, .double, .double, .double, .long, .long, .double, .double, .boolean]
  resolved := Array.replicate 460 none
  statics := none }

def pool13 : Array CpInfo := pool [(1, u "java/lang/Cloneable"), (0, .class_ 1), (0, u "java/lang/Object"), (0, .class_ 3)] 3

/-- java/lang/Cloneable -/
def k13 : Class := { plain "java/lang/Cloneable" (some 0) with
  accessFlags := 1537
  interfaces := #[]
  cf := some (fileOf pool13 2 #[] #[] 1537 4 #[] #[])
  fields := #[]
  methods := #[]
  instanceTypes := #[]
  staticTypes := #[]
  resolved := Array.replicate 8 none
  statics := none }

/-- the primitive byte -/
def k14 : Class := { plain "byte" none with kind := .primitive 'B', accessFlags := 0x411 }
/-- [B -/
def k15 : Class := { plain "[B" (some 0) with kind := .array 14 .byte, interfaces := #[13, 3], accessFlags := 1041 }

/-- the primitive int -/
def k16 : Class := { plain "int" none with kind := .primitive 'I', accessFlags := 0x411 }
/-- [I -/
def k17 : Class := { plain "[I" (some 0) with kind := .array 16 .int, interfaces := #[13, 3], accessFlags := 1041 }

def heap : Heap := #[]
def classes : Array Class := #[k0, k1, k2, k3, k4, k5, k6, k7, k8, k9, k10, k11, k12, k13, k14, k15, k16, k17]
def interned : List (Array UInt16 × Addr) := []
def slotsUsed : Nat := 0
def theMethod : MethodId := ⟨1, 1⟩
def args0 : Array Value := #[.int 5, .int 6, .int 7, .long 8, .long 9, .int 10]
def aboutOver (below : List Frame) : State where
  vm := { classes := classes, interned := interned.toArray }
  heap := heap
  slotsUsed := slotsUsed
  threads := #[{ frames := .invoking theMethod args0 :: below }]
def below0 : List Frame := [.native { method := ⟨0, 0⟩, args := #[] }]
def about1 : State := aboutOver below0
def p0 : Program := .bare "" "" ""
def e0 : Env := launch0.env 0 0 0
theorem w_frames : about1.frames = Frame.invoking theMethod args0 :: below0 := rfl
set_option maxRecDepth 65536 in
theorem w_args : argsFit about1.vm theMethod args0 = true := by decide +kernel
set_option maxRecDepth 65536 in
theorem w_heap : heapFits about1 = true := by decide +kernel
set_option maxRecDepth 65536 in
theorem w_runnable : about1.curStatus? = some .runnable := by decide +kernel
set_option maxRecDepth 65536 in
theorem w_alone : about1.alone = true := by decide +kernel
set_option maxRecDepth 65536 in
theorem w_named : about1.methodNamed? x = some theMethod := by decide +kernel
set_option maxRecDepth 65536 in
theorem w_hears : about1.hears theMethod below0 = true := by decide +kernel
set_option maxRecDepth 65536 in
theorem w_ripe : about1.ripe theMethod args0 below0 = true := by decide +kernel
theorem w_running : about1.status = .running := rfl
set_option maxRecDepth 65536 in
theorem w_room : about1.hasRoom e0.platform room_1 = true :=
  launch0.hasRoom_least _ room_1 (by decide +kernel) (by decide +kernel) (by decide +kernel) (by decide +kernel) (by decide +kernel) (by decide +kernel)
theorem allAtoms_all (ts : List Jvm.Cond) (a : Array Jvm.Value) (st : Jvm.State) : (allAtoms ts).before a st = ts.all (fun c => c.before a st) := by
  induction ts with
  | nil => rfl
  | cons c t ih =>
    show (Jvm.Cond.and c (allAtoms t)).before a st = _
    rw [Jvm.Cond.before_and, ih, List.all_cons]
def words1 : List Jvm.Cond := Jvm.Cond.code x code maxLocals ret :: tables_1
/-- a 'code' word, met by the world's own term for the bytes: nothing is compared byte by byte -/
theorem code_word {y : MethodName} {bytes : ByteArray} {mx : Nat} {rt : Option FieldType} {a : Array Value} {s : State} {m : MethodId} {meth : Method} {c : Code} (h1 : s.methodNamed? y = some m) (h2 : s.vm.method? m = some meth) (h3 : meth.code = some c) (h4 : c.code = bytes)
    (h5 : (c.maxLocals == mx && c.exceptionTable.isEmpty && decide (c.maxStack ≤ mostOperands) && decide (meth.sig.returnType = rt) && !meth.locks && decide (parseMethodDescriptor y.desc = some meth.sig)) = true) : (Jvm.Cond.code y bytes mx rt).before a s = true := by
  simp only [Bool.and_eq_true, beq_iff_eq, Bool.not_eq_true', decide_eq_true_eq] at h5
  obtain ⟨⟨⟨⟨⟨g1, g2⟩, g3⟩, g4⟩, g5⟩, g6⟩ := h5
  simp [Cond.before, Cond.holds, Cond.value, h1, h2, h3, h4, g1, g2, g3, g4, g5, g6]
def isCode : Jvm.Cond → Bool
  | .code _ _ _ _ => true
  | _ => false
theorem all_split {L : List Jvm.Cond} {P : Jvm.Cond → Bool} (h1 : L.all (fun c => isCode c || P c) = true) (h2 : ∀ c ∈ L.filter isCode, P c = true) : L.all P = true := by
  refine List.all_eq_true.mpr fun c hc => ?_
  have h := List.all_eq_true.mp h1 c hc
  rcases Bool.eq_false_or_eq_true (isCode c) with hi | hi
  · exact h2 c (List.mem_filter.mpr ⟨hc, hi⟩)
  · simpa [hi] using h
set_option maxRecDepth 65536 in
theorem w_c0 : (Jvm.Cond.code x code maxLocals ret).before args0 about1 = true := code_word (m := ⟨1, 1⟩) (meth := k1m1) (c := k1c1) (by decide +kernel) rfl rfl rfl (by decide +kernel)
set_option maxRecDepth 65536 in
theorem w_c1 : (Jvm.Cond.code ({ cls := "com/example/frugal_scheduler/frugalscheduler/model/Deadline", name := "<init>", desc := "(D)V" } : Jvm.MethodName) prog_10_method_1_code (3 : Nat) (Option.none : Option Jvm.ClassFile.FieldType)).before args0 about1 = true := code_word (m := ⟨2, 0⟩) (meth := k2m0) (c := k2c0) (by decide +kernel) rfl rfl rfl (by decide +kernel)
set_option maxRecDepth 65536 in
theorem w_c2 : (Jvm.Cond.code ({ cls := "java/lang/Object", name := "<init>", desc := "()V" } : Jvm.MethodName) object_method_1_code (1 : Nat) (Option.none : Option Jvm.ClassFile.FieldType)).before args0 about1 = true := code_word (m := ⟨0, 0⟩) (meth := k0m0) (c := k0c0) (by decide +kernel) rfl rfl rfl (by decide +kernel)
set_option maxRecDepth 65536 in
theorem w_c3 : (Jvm.Cond.code ({ cls := "com/example/frugal_scheduler/frugalscheduler/model/Checks", name := "nonNegative", desc := "(DLjava/lang/String;)D" } : Jvm.MethodName) prog_8_method_4_code (3 : Nat) (Option.some Jvm.ClassFile.FieldType.double)).before args0 about1 = true := code_word (m := ⟨9, 1⟩) (meth := k9m1) (c := k9c1) (by decide +kernel) rfl rfl rfl (by decide +kernel)
set_option maxRecDepth 65536 in
theorem w_c4 : (Jvm.Cond.code ({ cls := "java/lang/Double", name := "isInfinite", desc := "(D)Z" } : Jvm.MethodName) jdk_117_method_7_code (2 : Nat) (Option.some Jvm.ClassFile.FieldType.boolean)).before args0 about1 = true := code_word (m := ⟨11, 0⟩) (meth := k11m0) (c := k11c0) (by decide +kernel) rfl rfl rfl (by decide +kernel)
set_option maxRecDepth 65536 in
theorem w_c5 : (Jvm.Cond.code ({ cls := "java/lang/Math", name := "abs", desc := "(D)D" } : Jvm.MethodName) jdk_29_method_64_code (2 : Nat) (Option.some Jvm.ClassFile.FieldType.double)).before args0 about1 = true := code_word (m := ⟨12, 1⟩) (meth := k12m1) (c := k12c1) (by decide +kernel) rfl rfl rfl (by decide +kernel)
set_option maxRecDepth 65536 in
theorem w_c6 : (Jvm.Cond.code ({ cls := "com/example/frugal_scheduler/frugalscheduler/model/Deadline", name := "isMetBy", desc := "(D)Z" } : Jvm.MethodName) prog_10_method_4_code (3 : Nat) (Option.some Jvm.ClassFile.FieldType.boolean)).before args0 about1 = true := code_word (m := ⟨2, 1⟩) (meth := k2m1) (c := k2c1) (by decide +kernel) rfl rfl rfl (by decide +kernel)
def codes1 : List Jvm.Cond := [Jvm.Cond.code x code maxLocals ret, Jvm.Cond.code ({ cls := "com/example/frugal_scheduler/frugalscheduler/model/Deadline", name := "<init>", desc := "(D)V" } : Jvm.MethodName) prog_10_method_1_code (3 : Nat) (Option.none : Option Jvm.ClassFile.FieldType), Jvm.Cond.code ({ cls := "java/lang/Object", name := "<init>", desc := "()V" } : Jvm.MethodName) object_method_1_code (1 : Nat) (Option.none : Option Jvm.ClassFile.FieldType), Jvm.Cond.code ({ cls := "com/example/frugal_scheduler/frugalscheduler/model/Checks", name := "nonNegative", desc := "(DLjava/lang/String;)D" } : Jvm.MethodName) prog_8_method_4_code (3 : Nat) (Option.some Jvm.ClassFile.FieldType.double), Jvm.Cond.code ({ cls := "java/lang/Double", name := "isInfinite", desc := "(D)Z" } : Jvm.MethodName) jdk_117_method_7_code (2 : Nat) (Option.some Jvm.ClassFile.FieldType.boolean), Jvm.Cond.code ({ cls := "java/lang/Math", name := "abs", desc := "(D)D" } : Jvm.MethodName) jdk_29_method_64_code (2 : Nat) (Option.some Jvm.ClassFile.FieldType.double), Jvm.Cond.code ({ cls := "com/example/frugal_scheduler/frugalscheduler/model/Deadline", name := "isMetBy", desc := "(D)Z" } : Jvm.MethodName) prog_10_method_4_code (3 : Nat) (Option.some Jvm.ClassFile.FieldType.boolean)]
set_option maxRecDepth 65536 in
theorem codes_eq : words1.filter isCode = codes1 := rfl
theorem w_codes : ∀ c ∈ words1.filter isCode, c.before args0 about1 = true := by
  rw [codes_eq]
  intro c hc
  simp only [codes1, List.mem_cons, List.not_mem_nil, or_false] at hc
  rcases hc with rfl | rfl | rfl | rfl | rfl | rfl | rfl
  · exact w_c0
  · exact w_c1
  · exact w_c2
  · exact w_c3
  · exact w_c4
  · exact w_c5
  · exact w_c6
set_option maxRecDepth 65536 in
theorem w_t1 : (words1.take 24).all (fun c => isCode c || c.before args0 about1) = true := by decide +kernel
set_option maxRecDepth 65536 in
theorem w_t2 : (words1.drop 24).all (fun c => isCode c || c.before args0 about1) = true := by decide +kernel
theorem w_tables : (allAtoms (Jvm.Cond.code x code maxLocals ret :: tables_1)).before args0 about1 = true := by
  rw [allAtoms_all]
  show words1.all (fun c => c.before args0 about1) = true
  refine all_split ?_ w_codes
  rw [← List.take_append_drop 24 words1, List.all_append, w_t1, w_t2]
  rfl
set_option maxRecDepth 65536 in
theorem w_case : (Jvm.Cond.and given_1 narrow_1).before args0 about1 = true := by decide +kernel
theorem w_applies : (headSpec (Jvm.Cond.code x code maxLocals ret :: tables_1) room_1).applies x e0.platform about1 = true :=
  (Spec.applies_iff w_frames).mpr ⟨w_running, w_runnable, w_alone, w_named, w_hears, w_ripe, w_room, w_tables⟩
theorem atStart : AtStart classFile x code maxLocals ret World_1 tables_1 room_1 Calls_1 rest_1 Pre_1 launch0 p0 e0 about1 theMethod args0 below0 :=
  ⟨lists_1, trivial, launch0.admits_env _ _ _, launch0.least_env, fairChoices_fair.cas, fairChoices_fair.clock, w_frames, w_args, w_heap, w_applies, trivial, trivial, w_case⟩
end start1
theorem witness_1 : WitnessClaimed_1 := ⟨start1.p0, start1.e0, start1.about1, start1.theMethod, start1.args0, start1.below0, start1.atStart⟩
end Jvm.Pilot.@@N@@
