import JvmDerived
import JvmDerived.Pilot.@@N@@Statement
import JvmDerived.Pilot.@@N@@Code
set_option linter.unusedVariables false
set_option linter.unusedSimpArgs false

namespace Jvm.Pilot.@@N@@
open Jvm Jvm.ClassFile Sem Op Lib Jvm.Free Jvm.Stand Jvm.LawKit Jvm.RoadKit Bundle Jvm.Pilot.@@N@@.Jvm.D
/-! from S the run comes to an end that A accepts -/
def own_R (tb : Tables) (e : Env) (below : List Frame) (A : State → Outcome → Prop) (S : State) : Prop := ∃ t o, Steps tb e below S t ∧ A t o
theorem own_by {tb : Tables} {e : Env} {below : List Frame} {A : State → Outcome → Prop} {S S' : State} (st : ∀ t, Steps tb e below S' t → Steps tb e below S t) (k : own_R tb e below A S') : own_R tb e below A S := by
  obtain ⟨t, o, k1, k2⟩ := k
  exact ⟨t, o, st t k1, k2⟩
theorem own_join {α : Type} {tb : Tables} {e : Env} {below : List Frame} {A : State → Outcome → Prop} {S : State} (F : α → State) (P : α → Prop) (h1 : (∀ x, P x → own_R tb e below A (F x)) → own_R tb e below A S) (h2 : ∀ x, P x → own_R tb e below A (F x)) : own_R tb e below A S := h1 h2
theorem own_end {tb : Tables} {e : Env} {below : List Frame} {A : State → Outcome → Prop} {S : State} (k : ∃ t o, Steps tb e below S t ∧ A t o) : own_R tb e below A S := k
theorem own_retI {p : Program} {l : Launch} {e : Env} {R : Room} {s : State} {m : MethodId} {args : Array Value} {below : List Frame} {meth : Method} {c : Code} {T : State} {locs : List Loc} {cells slots : Nat} (X : Stand p l e R s m args below meth c T locs cells slots) (hx : p.tables.exec = Jvm.exec) {pc : Nat} {Ls : Array Slot} {z : Int32} {rest : List Value} (hret : meth.sig.returnType = some .int) (hd : decode c.code pc = .ok (.ireturn, 1)) {fs : List Frame}
    (hl : ∀ (f : JFrame) (acts : List Action), f.method = m → f.locked = none → f.entered = [] → (doReturn e (T.setTop f) acts (some (.int z))).1 = T.setFrames fs) : Steps p.tables e below (T.setTop (mkF m pc Ls (.int z :: rest))) (T.setFrames fs) :=
  retOut X hx hret rfl (Or.inl ⟨rfl, Or.inl rfl, z, rfl⟩) hd hl
theorem own_retJ {p : Program} {l : Launch} {e : Env} {R : Room} {s : State} {m : MethodId} {args : Array Value} {below : List Frame} {meth : Method} {c : Code} {T : State} {locs : List Loc} {cells slots : Nat} (X : Stand p l e R s m args below meth c T locs cells slots) (hx : p.tables.exec = Jvm.exec) {pc : Nat} {Ls : Array Slot} {z : Int64} {rest : List Value} (hret : meth.sig.returnType = some .long) (hd : decode c.code pc = .ok (.lreturn, 1)) {fs : List Frame}
    (hl : ∀ (f : JFrame) (acts : List Action), f.method = m → f.locked = none → f.entered = [] → (doReturn e (T.setTop f) acts (some (.long z))).1 = T.setFrames fs) : Steps p.tables e below (T.setTop (mkF m pc Ls (.long z :: rest))) (T.setFrames fs) :=
  retOut X hx hret rfl (Or.inr (Or.inl ⟨rfl, rfl, z, rfl⟩)) hd hl
/-! an array of n places, place j holds mk (g j) -/
def own_K {α : Type} (mk : α → Value) (Z : State) (h : Heap) (a : Addr) (ty : FieldType) (n : Nat) (g : Nat → α) : Prop := ∃ c : Cell, Arr Z h a c ty ∧ c.slots.size = n ∧ n < 2 ^ 31 ∧ ∀ j, j < n → c.slots[j]? = some (mk (g j))
section OwnK
variable {α : Type} {mk : α → Value} {Z : State} {h h' : Heap} {a b : Addr} {ty : FieldType} {n : Nat} {f g : Nat → α} {ws : List Addr} {sl : Nat} {v : Value}
theorem own_K.lt (F : own_K mk Z h a ty n f) : a < h.size := by obtain ⟨c, A, -⟩ := F; exact A.lt
theorem own_K.ext (F : own_K mk Z h a ty n f) (E : Ext h h') : own_K mk Z h' a ty n f := by obtain ⟨c, A, r⟩ := F; exact ⟨c, A.ext E, r⟩
theorem own_K.other (F : own_K mk Z h b ty n f) (W : Wr h h' a sl v) (q : b ≠ a) : own_K mk Z h' b ty n f := by obtain ⟨c, A, r⟩ := F; exact ⟨c, A.other W q, r⟩
theorem own_K.keep (F : own_K mk Z h a ty n f) (K : Keep h h' ws) (q : a ∉ ws) : own_K mk Z h' a ty n f := by obtain ⟨c, A, r⟩ := F; exact ⟨c, ⟨K.2.1 a c A.1 q, A.2⟩, r⟩
theorem own_K.new {k : ClassId} {z : Int32} {d : α} (A : Arr Z h a (newA k ty z) ty) (q : ¬ z < 0) (hz : z.toNatClampNeg = n) (hd : mk d = defaultValue ty) : own_K mk Z h a ty n (fun _ => d) := by
  subst hz
  exact ⟨_, A, sz_new _ _ _, (back32 q).2, fun j hj => by simp [newA, hj, hd]⟩
theorem own_K.eq (F : own_K mk Z h a ty n f) (e : ∀ j, j < n → f j = g j) : own_K mk Z h a ty n g := by
  obtain ⟨c, A, s1, s2, H⟩ := F
  exact ⟨c, A, s1, s2, fun j hj => (H j hj).trans (congrArg (fun z => some (mk z)) (e j hj))⟩
theorem own_K.rd {i : Int32} {p : Nat} (F : own_K mk Z h a ty n f) (hp : i.toNatClampNeg = p) (h0 : ¬ i < 0) (h1 : p < n) : ∃ c : Cell, Arr Z h a c ty ∧ ¬ (i < 0 ∨ c.slots.size ≤ i.toNatClampNeg) ∧ c.slots[i.toNatClampNeg]? = some (mk (f p)) := by
  obtain ⟨c, A, s1, s2, H⟩ := F
  subst hp
  exact ⟨c, A, by rw [s1]; exact fun q => q.elim h0 (fun z => absurd h1 (Nat.not_lt.mpr z)), H _ h1⟩
theorem own_K.ln (F : own_K mk Z h a ty n f) : ∃ c : Cell, Arr Z h a c ty ∧ c.slots.size.toInt32 = Int32.ofNat n := by
  obtain ⟨c, A, s1, -, -⟩ := F
  exact ⟨c, A, by rw [s1]⟩
/-! the function with one place turned -/
def own_uk {α : Type} (g : Nat → α) (i : Nat) (x : α) : Nat → α := fun j => if j = i then x else g j
theorem own_K.set {i : Int32} {p : Nat} {x : α} (F : own_K mk Z h a ty n f) (hp : i.toNatClampNeg = p) (W : Wr h h' a i.toNatClampNeg (mk x)) : own_K mk Z h' a ty n (own_uk f p x) := by
  obtain ⟨c, A, s1, s2, H⟩ := F
  subst hp
  refine ⟨_, A.same W, by rw [sz_set]; exact s1, s2, fun j hj => ?_⟩
  unfold own_uk
  by_cases u : j = i.toNatClampNeg
  · subst u
    simp [Cell.setSlot, s1, hj]
  · rw [if_neg u]
    simp only [Cell.setSlot]
    rw [Array.getElem?_setIfInBounds_ne (Ne.symm u)]
    exact H j hj
end OwnK
/-! doubles: single steps -/
section OwnD
variable {tb : Tables} [Ours tb] {e : Env} {below : List Frame} {T target : State} {m : MethodId} {c : Code} {g : JFrame}
theorem own_dloadN (h : At T m c below) (hx : tb.exec = Jvm.exec) (hg : g.method = m) {k : Fin 4} {v : UInt64} (hd : decode c.code g.pc = .ok (.dload_n k, 1)) (hl : g.locals[k.val]? = some (.val (.double v)))
    (hr : Steps tb e below (T.setTop { g with pc := g.pc + 1, stack := .double v :: g.stack }) target) : Steps tb e below (T.setTop g) target := by
  subst hg
  jvm_step h [h.top, hx, hd, hl]
  exact hr
theorem own_dload (h : At T m c below) (hx : tb.exec = Jvm.exec) (hg : g.method = m) {k : Nat} {v : UInt64} (hd : decode c.code g.pc = .ok (.dload k, 2)) (hl : g.locals[k]? = some (.val (.double v)))
    (hr : Steps tb e below (T.setTop { g with pc := g.pc + 2, stack := .double v :: g.stack }) target) : Steps tb e below (T.setTop g) target := by
  subst hg
  jvm_step h [h.top, hx, hd, hl]
  exact hr
theorem own_dstoreN (h : At T m c below) (hx : tb.exec = Jvm.exec) (hg : g.method = m) {k : Fin 4} {x : UInt64} {rest : List Value} {l' : Array Slot} (hd : decode c.code g.pc = .ok (.dstore_n k, 1)) (hs : g.stack = .double x :: rest) (hl : storeLocals g.locals k.val (.double x) = some l')
    (hr : Steps tb e below (T.setTop { g with pc := g.pc + 1, stack := rest, locals := l' }) target) : Steps tb e below (T.setTop g) target := by
  subst hg
  jvm_step h [h.top, hx, hd, hs, hl]
  exact hr
theorem own_dstore (h : At T m c below) (hx : tb.exec = Jvm.exec) (hg : g.method = m) {k : Nat} {x : UInt64} {rest : List Value} {l' : Array Slot} (hd : decode c.code g.pc = .ok (.dstore k, 2)) (hs : g.stack = .double x :: rest) (hl : storeLocals g.locals k (.double x) = some l')
    (hr : Steps tb e below (T.setTop { g with pc := g.pc + 2, stack := rest, locals := l' }) target) : Steps tb e below (T.setTop g) target := by
  subst hg
  jvm_step h [h.top, hx, hd, hs, hl]
  exact hr
theorem own_i2d (h : At T m c below) (hx : tb.exec = Jvm.exec) (hg : g.method = m) {x : Int32} {rest : List Value} (hd : decode c.code g.pc = .ok (.i2d, 1)) (hs : g.stack = .int x :: rest)
    (hr : Steps tb e below (T.setTop { g with pc := g.pc + 1, stack := .double (FP.i2d x) :: rest }) target) : Steps tb e below (T.setTop g) target := by
  subst hg
  jvm_step h [h.top, hx, hd, hs]
  exact hr
theorem own_l2d (h : At T m c below) (hx : tb.exec = Jvm.exec) (hg : g.method = m) {x : Int64} {rest : List Value} (hd : decode c.code g.pc = .ok (.l2d, 1)) (hs : g.stack = .long x :: rest)
    (hr : Steps tb e below (T.setTop { g with pc := g.pc + 1, stack := .double (FP.l2d x) :: rest }) target) : Steps tb e below (T.setTop g) target := by
  subst hg
  jvm_step h [h.top, hx, hd, hs]
  exact hr
theorem own_dcmp (h : At T m c below) (hx : tb.exec = Jvm.exec) (hg : g.method = m) {op : CmpOp} {x y : UInt64} {rest : List Value} (hd : decode c.code g.pc = .ok (.dcmp op, 1)) (hs : g.stack = .double y :: .double x :: rest)
    (hr : Steps tb e below (T.setTop { g with pc := g.pc + 1, stack := .int (cmpValue (FP.dcmp x y) op) :: rest }) target) : Steps tb e below (T.setTop g) target := by
  subst hg
  jvm_step h [h.top, hx, hd, dcmp.wp_sem, hs]
  exact hr
end OwnD
section OwnD2
variable {p : Program} {l : Launch} {e : Env} {R : Room} {s : State} {m : MethodId} {args : Array Value} {below : List Frame} {meth : Method} {c : Code} {T : State} {locs : List Loc} {cells slots : Nat}
theorem own_daload (X : Stand p l e R s m args below meth c T locs cells slots) (hexec : p.tables.exec = Jvm.exec) {a : Addr} {cell : Cell} {j : Int32} {v : Value} (hcell : T.heap[a]? = some cell) (harr : s.isArrayOf cell .double) (hknown : cell.vm ≠ .unknown)
    (hin : ¬ (j < 0 ∨ cell.slots.size ≤ j.toNatClampNeg)) (hv : cell.slots[j.toNatClampNeg]? = some v)
    {g : JFrame} (hg : g.method = m) {rest : List Value} (hstack : g.stack = .int j :: .ref a :: rest) (hdg : decode c.code g.pc = .ok (.daload, 1)) (target : State)
    (hrest : Steps p.tables e below (T.setTop { g with pc := g.pc + 1, stack := v :: rest }) target) : Steps p.tables e below (T.setTop g) target := by
  have hT := State.isArrayOf_alike X.warmed.alike harr
  subst hg
  jvm_step X.here [hexec, hdg, daload.wp_sem, hstack, hcell, hT.isArray, hin, hknown, hv]
  exact ⟨hT, hrest⟩
theorem own_dastore (X : Stand p l e R s m args below meth c T locs cells slots) (hexec : p.tables.exec = Jvm.exec) {a : Addr} {cell : Cell} {j : Int32} {x : UInt64} (hcell : T.heap[a]? = some cell) (harr : s.isArrayOf cell .double) (hknown : cell.vm ≠ .unknown)
    (hin : ¬ (j < 0 ∨ cell.slots.size ≤ j.toNatClampNeg))
    {g : JFrame} (hg : g.method = m) {rest : List Value} (hstack : g.stack = .double x :: .int j :: .ref a :: rest) (hdg : decode c.code g.pc = .ok (.dastore, 1)) :
    Stand p l e R s m args below meth c (T.setCell a (cell.setSlot j.toNatClampNeg (.double x))) (locs ++ [⟨a, j.toNatClampNeg⟩]) cells slots ∧
      ∀ target, Steps p.tables e below ((T.setCell a (cell.setSlot j.toNatClampNeg (.double x))).setTop { g with pc := g.pc + 1, stack := rest }) target → Steps p.tables e below (T.setTop g) target := by
  have hT := State.isArrayOf_alike X.warmed.alike harr
  have hfit : T.fitsSlot cell.cls cell.vm j.toNatClampNeg (.double x) = true := by
    obtain ⟨hobj, k, hk, comp, hkind⟩ := hT
    cases hvm : cell.vm <;> first | exact absurd hvm (hobj _) | simp [State.fitsSlot, State.slotType?, hk, hkind, fits]
  refine ⟨X.stored hcell _ _, fun target hrest => ?_⟩
  subst hg
  jvm_step X.here [hexec, hdg, dastore.wp_sem, hstack, hcell, hT.isArray, hin, hknown, hfit]
  refine ⟨x, j, .ref a, rest, ⟨rfl, rfl, rfl, rfl⟩, cell, hcell, hT.isArray, ?_⟩
  rw [if_neg hin]
  exact ⟨hT, hknown, hfit, hrest⟩
theorem own_stD {Z : State} {h : Heap} (X : Stand p l e R s m args below meth c T locs cells slots) (hx : p.tables.exec = Jvm.exec) (hZ : Z.Warmed39 s.vm) (eT : T.heap = h) {a : Addr} {cl : Cell} (A : Arr Z h a cl .double) {j : Int32} {x : UInt64} (hj : ¬ (j < 0 ∨ cl.slots.size ≤ j.toNatClampNeg)) {g : JFrame} (hg : g.method = m) {rest : List Value} (hs : g.stack = .double x :: .int j :: .ref a :: rest) (hd : decode c.code g.pc = .ok (.dastore, 1)) :
    ∃ T' h', Stand p l e R s m args below meth c T' (locs ++ [⟨a, j.toNatClampNeg⟩]) cells slots ∧ T'.heap = h' ∧ Wr h h' a j.toNatClampNeg (.double x) ∧ ∀ target, Steps p.tables e below (T'.setTop { g with pc := g.pc + 1, stack := rest }) target → Steps p.tables e below (T.setTop g) target := by
  obtain ⟨X', st⟩ := own_dastore X hx (by rw [eT]; exact A.1) (State.isArrayOf_alike hZ.alike A.2.1) A.2.2 hj hg hs hd
  exact ⟨_, _, X', rfl, ⟨cl, A.1, A.plain, Nat.lt_of_not_le fun q => hj (Or.inr q), by rw [← eT]; rfl⟩, st⟩
theorem own_retD (X : Stand p l e R s m args below meth c T locs cells slots) (hx : p.tables.exec = Jvm.exec) {pc : Nat} {Ls : Array Slot} {z : UInt64} {rest : List Value} (hret : meth.sig.returnType = some .double) (hd : decode c.code pc = .ok (.dreturn, 1)) {fs : List Frame}
    (hl : ∀ (f : JFrame) (acts : List Action), f.method = m → f.locked = none → f.entered = [] → (doReturn e (T.setTop f) acts (some (.double z))).1 = T.setFrames fs) : Steps p.tables e below (T.setTop (mkF m pc Ls (.double z :: rest))) (T.setFrames fs) :=
  retOut X hx hret rfl (Or.inr (Or.inr (Or.inl ⟨rfl, rfl, z, rfl⟩))) hd hl
end OwnD2
theorem own_toInt {n : Nat} (h : n < 2 ^ 31) : (Int32.ofNat n).toInt = n := Int32.toInt_ofNat_of_lt h
theorem own_ltI {a b : Nat} (ha : a < 2 ^ 31) (hb : b < 2 ^ 31) : Int32.ofNat a < Int32.ofNat b ↔ a < b := by
  rw [Int32.lt_iff_toInt_lt, own_toInt ha, own_toInt hb]; omega
theorem own_inj {a b : Nat} (ha : a < 2 ^ 31) (hb : b < 2 ^ 31) : Int32.ofNat a = Int32.ofNat b ↔ a = b := by
  rw [← Int32.toInt_inj, own_toInt ha, own_toInt hb]; omega
theorem own_add1 (a : Nat) : Int32.ofNat a + 1 = Int32.ofNat (a + 1) := by
  rw [Int32.ofNat_add]; rfl
theorem own_addI (a b : Nat) : Int32.ofNat a + Int32.ofNat b = Int32.ofNat (a + b) := by
  rw [Int32.ofNat_add]
theorem own_sub1 (a : Nat) : Int32.ofNat (a + 1) - 1 = Int32.ofNat a := by
  rw [← own_add1]; exact Int32.add_sub_cancel _ _
theorem own_clamp {a : Nat} (h : a < 2 ^ 31) : (Int32.ofNat a).toNatClampNeg = a := by
  rw [Int32.toNatClampNeg, own_toInt h]; rfl
theorem own_nn {a : Nat} (h : a < 2 ^ 31) : ¬ Int32.ofNat a < 0 := by
  rw [Int32.lt_iff_toInt_lt, own_toInt h]; show ¬ (a : Int) < 0; omega
theorem own_ofInt (x : Int32) (h : 0 ≤ x.toInt) : ∃ n : Nat, x = Int32.ofNat n ∧ (n : Int) = x.toInt := by
  refine ⟨x.toInt.toNat, ?_, Int.toNat_of_nonneg h⟩
  rw [← Int32.toInt_inj, own_toInt (by have := x.toInt_lt; omega)]
  omega
def own_WL (Z : State) (h : Heap) (n0 : Nat) (a b c : Addr) (sz ol : Int32) (ga gs : Nat → UInt64) : Prop := Exa Z h a "com/example/bucket/bucket/simulation/WaitingLine" ∧ Fld Z h a "com/example/bucket/bucket/simulation/WaitingLine" "m_arrivals" "[D" (.ref b) ∧ Fld Z h a "com/example/bucket/bucket/simulation/WaitingLine" "m_sizes" "[D" (.ref c) ∧ Fld Z h a "com/example/bucket/bucket/simulation/WaitingLine" "m_size" "I" (.int sz) ∧ Fld Z h a "com/example/bucket/bucket/simulation/WaitingLine" "m_oldest" "I" (.int ol) ∧ own_K .double Z h b .double 16 ga ∧ own_K .double Z h c .double 16 gs ∧ a ≠ b ∧ a ≠ c ∧ b ≠ c ∧ n0 ≤ a ∧ n0 ≤ b ∧ n0 ≤ c
theorem own_dd (x : Int32) (op : CmpOp) : cmpValue (FP.dcmp (FP.i2d x) (FP.i2d x)) op = 0 := by
  rw [show FP.dcmp (FP.i2d x) (FP.i2d x) = some (compare x.toInt x.toInt) from FP.Core.dcmp_int (FP.Core.i2d_int x) (FP.Core.i2d_int x)]
  simp [cmpValue]
theorem own_r (k : Int32) : ((1 : Int32) + (k &&& (1 : Int32))) + (((k.toUInt32 >>> ((1 : Int32) &&& 31).toUInt32).toInt32) &&& (1 : Int32)) = 1 ∨ ((1 : Int32) + (k &&& (1 : Int32))) + (((k.toUInt32 >>> ((1 : Int32) &&& 31).toUInt32).toInt32) &&& (1 : Int32)) = 2 ∨ ((1 : Int32) + (k &&& (1 : Int32))) + (((k.toUInt32 >>> ((1 : Int32) &&& 31).toUInt32).toInt32) &&& (1 : Int32)) = 3 := by
  rcases and_one k with h | h <;> rcases and_one ((k.toUInt32 >>> ((1 : Int32) &&& 31).toUInt32).toInt32) with h2 | h2 <;> rw [h, h2] <;> decide
theorem d1_0 : decode prog_76_method_1_code 0 = .ok (.aload_n 0, 1) := by decide +kernel
theorem d1_1 : decode prog_76_method_1_code 1 = .ok (.invokespecial 1, 3) := by decide +kernel
theorem d1_4 : decode prog_76_method_1_code 4 = .ok (.aload_n 0, 1) := by decide +kernel
theorem d1_5 : decode prog_76_method_1_code 5 = .ok (.bipush 16, 2) := by decide +kernel
theorem d1_7 : decode prog_76_method_1_code 7 = .ok (.newarray .double, 2) := by decide +kernel
theorem d1_9 : decode prog_76_method_1_code 9 = .ok (.putfield 7, 3) := by decide +kernel
theorem d1_12 : decode prog_76_method_1_code 12 = .ok (.aload_n 0, 1) := by decide +kernel
theorem d1_13 : decode prog_76_method_1_code 13 = .ok (.bipush 16, 2) := by decide +kernel
theorem d1_15 : decode prog_76_method_1_code 15 = .ok (.newarray .double, 2) := by decide +kernel
theorem d1_17 : decode prog_76_method_1_code 17 = .ok (.putfield 13, 3) := by decide +kernel
theorem d1_20 : decode prog_76_method_1_code 20 = .ok (.return_, 1) := by decide +kernel
theorem d3_0 : decode prog_76_method_3_code 0 = .ok (.aload_n 0, 1) := by decide +kernel
theorem d3_1 : decode prog_76_method_3_code 1 = .ok (.getfield 7, 3) := by decide +kernel
theorem d3_4 : decode prog_76_method_3_code 4 = .ok (.arraylength, 1) := by decide +kernel
theorem d3_5 : decode prog_76_method_3_code 5 = .ok (.aload_n 0, 1) := by decide +kernel
theorem d3_6 : decode prog_76_method_3_code 6 = .ok (.getfield 16, 3) := by decide +kernel
theorem d3_9 : decode prog_76_method_3_code 9 = .ok (.if_icmp .ne 7, 3) := by decide +kernel
theorem d3_12 : decode prog_76_method_3_code 12 = .ok (.aload_n 0, 1) := by decide +kernel
theorem d3_13 : decode prog_76_method_3_code 13 = .ok (.invokevirtual 20, 3) := by decide +kernel
theorem d3_16 : decode prog_76_method_3_code 16 = .ok (.aload_n 0, 1) := by decide +kernel
theorem d3_17 : decode prog_76_method_3_code 17 = .ok (.getfield 23, 3) := by decide +kernel
theorem d3_20 : decode prog_76_method_3_code 20 = .ok (.aload_n 0, 1) := by decide +kernel
theorem d3_21 : decode prog_76_method_3_code 21 = .ok (.getfield 16, 3) := by decide +kernel
theorem d3_24 : decode prog_76_method_3_code 24 = .ok (.iadd, 1) := by decide +kernel
theorem d3_25 : decode prog_76_method_3_code 25 = .ok (.aload_n 0, 1) := by decide +kernel
theorem d3_26 : decode prog_76_method_3_code 26 = .ok (.getfield 7, 3) := by decide +kernel
theorem d3_29 : decode prog_76_method_3_code 29 = .ok (.arraylength, 1) := by decide +kernel
theorem d3_30 : decode prog_76_method_3_code 30 = .ok (.iconst 1, 1) := by decide +kernel
theorem d3_31 : decode prog_76_method_3_code 31 = .ok (.isub, 1) := by decide +kernel
theorem d3_32 : decode prog_76_method_3_code 32 = .ok (.iand, 1) := by decide +kernel
theorem d3_33 : decode prog_76_method_3_code 33 = .ok (.istore 5, 2) := by decide +kernel
theorem d3_35 : decode prog_76_method_3_code 35 = .ok (.aload_n 0, 1) := by decide +kernel
theorem d3_36 : decode prog_76_method_3_code 36 = .ok (.getfield 7, 3) := by decide +kernel
theorem d3_39 : decode prog_76_method_3_code 39 = .ok (.iload 5, 2) := by decide +kernel
theorem d3_41 : decode prog_76_method_3_code 41 = .ok (.dload_n 1, 1) := by decide +kernel
theorem d3_42 : decode prog_76_method_3_code 42 = .ok (.dastore, 1) := by decide +kernel
theorem d3_43 : decode prog_76_method_3_code 43 = .ok (.aload_n 0, 1) := by decide +kernel
theorem d3_44 : decode prog_76_method_3_code 44 = .ok (.getfield 13, 3) := by decide +kernel
theorem d3_47 : decode prog_76_method_3_code 47 = .ok (.iload 5, 2) := by decide +kernel
theorem d3_49 : decode prog_76_method_3_code 49 = .ok (.dload_n 3, 1) := by decide +kernel
theorem d3_50 : decode prog_76_method_3_code 50 = .ok (.dastore, 1) := by decide +kernel
theorem d3_51 : decode prog_76_method_3_code 51 = .ok (.aload_n 0, 1) := by decide +kernel
theorem d3_52 : decode prog_76_method_3_code 52 = .ok (.dup, 1) := by decide +kernel
theorem d3_53 : decode prog_76_method_3_code 53 = .ok (.getfield 16, 3) := by decide +kernel
theorem d3_56 : decode prog_76_method_3_code 56 = .ok (.iconst 1, 1) := by decide +kernel
theorem d3_57 : decode prog_76_method_3_code 57 = .ok (.iadd, 1) := by decide +kernel
theorem d3_58 : decode prog_76_method_3_code 58 = .ok (.putfield 16, 3) := by decide +kernel
theorem d3_61 : decode prog_76_method_3_code 61 = .ok (.return_, 1) := by decide +kernel
theorem d4_0 : decode prog_76_method_6_code 0 = .ok (.aload_n 0, 1) := by decide +kernel
theorem d4_1 : decode prog_76_method_6_code 1 = .ok (.aload_n 0, 1) := by decide +kernel
theorem d4_2 : decode prog_76_method_6_code 2 = .ok (.getfield 23, 3) := by decide +kernel
theorem d4_5 : decode prog_76_method_6_code 5 = .ok (.iconst 1, 1) := by decide +kernel
theorem d4_6 : decode prog_76_method_6_code 6 = .ok (.iadd, 1) := by decide +kernel
theorem d4_7 : decode prog_76_method_6_code 7 = .ok (.aload_n 0, 1) := by decide +kernel
theorem d4_8 : decode prog_76_method_6_code 8 = .ok (.getfield 7, 3) := by decide +kernel
theorem d4_11 : decode prog_76_method_6_code 11 = .ok (.arraylength, 1) := by decide +kernel
theorem d4_12 : decode prog_76_method_6_code 12 = .ok (.iconst 1, 1) := by decide +kernel
theorem d4_13 : decode prog_76_method_6_code 13 = .ok (.isub, 1) := by decide +kernel
theorem d4_14 : decode prog_76_method_6_code 14 = .ok (.iand, 1) := by decide +kernel
theorem d4_15 : decode prog_76_method_6_code 15 = .ok (.putfield 23, 3) := by decide +kernel
theorem d4_18 : decode prog_76_method_6_code 18 = .ok (.aload_n 0, 1) := by decide +kernel
theorem d4_19 : decode prog_76_method_6_code 19 = .ok (.dup, 1) := by decide +kernel
theorem d4_20 : decode prog_76_method_6_code 20 = .ok (.getfield 16, 3) := by decide +kernel
theorem d4_23 : decode prog_76_method_6_code 23 = .ok (.iconst 1, 1) := by decide +kernel
theorem d4_24 : decode prog_76_method_6_code 24 = .ok (.isub, 1) := by decide +kernel
theorem d4_25 : decode prog_76_method_6_code 25 = .ok (.putfield 16, 3) := by decide +kernel
theorem d4_28 : decode prog_76_method_6_code 28 = .ok (.return_, 1) := by decide +kernel
theorem d5_0 : decode prog_76_method_2_code 0 = .ok (.aload_n 0, 1) := by decide +kernel
theorem d5_1 : decode prog_76_method_2_code 1 = .ok (.getfield 16, 3) := by decide +kernel
theorem d5_4 : decode prog_76_method_2_code 4 = .ok (.ireturn, 1) := by decide +kernel
theorem d6_0 : decode prog_76_method_4_code 0 = .ok (.aload_n 0, 1) := by decide +kernel
theorem d6_1 : decode prog_76_method_4_code 1 = .ok (.getfield 7, 3) := by decide +kernel
theorem d6_4 : decode prog_76_method_4_code 4 = .ok (.aload_n 0, 1) := by decide +kernel
theorem d6_5 : decode prog_76_method_4_code 5 = .ok (.getfield 23, 3) := by decide +kernel
theorem d6_8 : decode prog_76_method_4_code 8 = .ok (.daload, 1) := by decide +kernel
theorem d6_9 : decode prog_76_method_4_code 9 = .ok (.dreturn, 1) := by decide +kernel
theorem d7_0 : decode prog_76_method_5_code 0 = .ok (.aload_n 0, 1) := by decide +kernel
theorem d7_1 : decode prog_76_method_5_code 1 = .ok (.getfield 13, 3) := by decide +kernel
theorem d7_4 : decode prog_76_method_5_code 4 = .ok (.aload_n 0, 1) := by decide +kernel
theorem d7_5 : decode prog_76_method_5_code 5 = .ok (.getfield 23, 3) := by decide +kernel
theorem d7_8 : decode prog_76_method_5_code 8 = .ok (.daload, 1) := by decide +kernel
theorem d7_9 : decode prog_76_method_5_code 9 = .ok (.dreturn, 1) := by decide +kernel
theorem own_pd0 : parseMethodDescriptor "()V" = some ⟨[], none⟩ := by decide +kernel
theorem own_pd1 : parseMethodDescriptor "(DD)V" = some ⟨[.double, .double], none⟩ := by decide +kernel
theorem own_pd2 : parseMethodDescriptor "()I" = some ⟨[], some .int⟩ := by decide +kernel
theorem own_pd3 : parseMethodDescriptor "()D" = some ⟨[], some .double⟩ := by decide +kernel
theorem pn_0 : plainName "com/example/bucket/bucket/simulation/WaitingLineRemoveOldestPinLaw" = true := by first | (simp [plainName, overriddenIn]; done) | decide +kernel
theorem pn_1 : plainName "com/example/bucket/bucket/simulation/WaitingLine" = true := by first | (simp [plainName, overriddenIn]; done) | decide +kernel
theorem pn_3 : plainName "com/example/bucket/bucket/simulation/WaitingLine" = true := by first | (simp [plainName, overriddenIn]; done) | decide +kernel
theorem pn_4 : plainName "com/example/bucket/bucket/simulation/WaitingLine" = true := by first | (simp [plainName, overriddenIn]; done) | decide +kernel
theorem pn_5 : plainName "com/example/bucket/bucket/simulation/WaitingLine" = true := by first | (simp [plainName, overriddenIn]; done) | decide +kernel
theorem pn_6 : plainName "com/example/bucket/bucket/simulation/WaitingLine" = true := by first | (simp [plainName, overriddenIn]; done) | decide +kernel
theorem pn_7 : plainName "com/example/bucket/bucket/simulation/WaitingLine" = true := by first | (simp [plainName, overriddenIn]; done) | decide +kernel
theorem ef_1 (m : MethodId) (a1 : Addr) : entryFrame m #[(.ref a1)] 1 = mkF m 0 #[.val (.ref a1)] [] := by first | (simp [entryFrame, mkF, argsToLocals, Value.category]; done) | rfl
def Q1 (Z : State) (a1 : Addr)  (h0 : Heap) (n0 : Nat) (v : Option Value) (h : Heap) (L : List Loc) : Prop := v = none ∧ Fr n0 L ∧ Keep h0 h [a1] ∧ ∃ b c, own_WL Z h n0 a1 b c (0 : Int32) (0 : Int32) (fun _ => (0 : UInt64)) (fun _ => (0 : UInt64))
set_option maxRecDepth 65536 in
set_option maxHeartbeats 40000000 in
theorem rm1 (l : Launch) (Z : State) (a0 : Array Value) (hw : ∀ d ∈ tables_1, d.before a0 Z = true) (ws : List Jvm.Cond) (a1 : Addr)  (h0 : Heap) (n0 : Nat) (Z0 : n0 ≤ h0.size) (ge1 : n0 ≤ a1) (Ex : Exa Z h0 a1 "com/example/bucket/bucket/simulation/WaitingLine") (Fa : Fld Z h0 a1 "com/example/bucket/bucket/simulation/WaitingLine" "m_arrivals" "[D" .null) (Fs : Fld Z h0 a1 "com/example/bucket/bucket/simulation/WaitingLine" "m_sizes" "[D" .null) (Fz : Fld Z h0 a1 "com/example/bucket/bucket/simulation/WaitingLine" "m_size" "I" (.int (0 : Int32))) (Fo : Fld Z h0 a1 "com/example/bucket/bucket/simulation/WaitingLine" "m_oldest" "I" (.int (0 : Int32))) :
    MetFree l (⟨"com/example/bucket/bucket/simulation/WaitingLine", "<init>", "()V"⟩ : MethodName) (head1 (Jvm.Cond.code (⟨"com/example/bucket/bucket/simulation/WaitingLine", "<init>", "()V"⟩ : MethodName) prog_76_method_1_code 1 none :: ws) ({ frames := 1, cells := 2, slots := 32, locals := 13 } : Room)) (fun a U => a = #[(.ref a1)] ∧ Z.Warmed39 U.vm ∧ U.heap = h0) (fun _ _ _ _ _ => True) (fun _ U o U' => ∃ v L, o = .returned v ∧ Q1 Z a1 h0 n0 v U'.heap L ∧ FrameEnd U o U' L ({ frames := 1, cells := 2, slots := 32, locals := 13 } : Room).cells ({ frames := 1, cells := 2, slots := 32, locals := 13 } : Room).slots) := by
  refine MetFree.of_bodySF (plainFor_of_name pn_1) hisR ?_
  intro p e s m args below meth cd s₁ Bd hml0 hP hK
  obtain ⟨rfl, hZ, hh⟩ := hP
  have hx := Bd.exec
  have hby := Bd.bytes
  have hml : cd.maxLocals = 1 := hml0
  have hown : s.vm.findClass "com/example/bucket/bucket/simulation/WaitingLine" = some m.cls := findClass_of_methodNamed Bd.named
  have hnm := (name_of_methodNamed Bd.named Bd.method).1
  have X0 : Stand p l e ({ frames := 1, cells := 2, slots := 32, locals := 13 } : Room) s m #[(.ref a1)] below meth cd s₁ [] 0 0 := Stand.of_body Bd
  have e0 : s₁.heap = h0 := by rw [← hh, Bd.state]; rfl
  have N0 := Fr.nil n0
  show own_R p.tables e below _ (s₁.setTop (entryFrame m #[(.ref a1)] 1))
  refine own_by (fun t kZ => castTop (ef_1 m a1) kZ) ?_
  show own_R p.tables e below _ (s₁.setTop (mkF m 0 #[.val (.ref a1)] []))
  refine own_by (fun _ kZ => XS.aloadN X0.here hx rfl (hb hby d1_0) rfl rfl kZ) ?_
  show own_R p.tables e below _ (s₁.setTop (mkF m 1 #[.val (.ref a1)] [(.ref a1)]))
  obtain ⟨T1, X1, e1, st1⟩ := initO X0 hx hZ hown (hw _ (List.mem_of_getElem? (i := 6) rfl)) (hw _ (List.mem_of_getElem? (i := 7) rfl)) (hw _ (List.mem_of_getElem? (i := 8) rfl)) e0 (g := (mkF m 1 #[.val (.ref a1)] [(.ref a1)])) rfl (by rw [hml]; rfl) rfl (hb hby d1_1) (by decide) (W := 0) (by show 2 * 0 + _ ≤ _; exact Nat.le_of_eq rfl) (by decide)
  refine own_by st1 ?_
  show own_R p.tables e below _ (T1.setTop (mkF m 4 #[.val (.ref a1)] []))
  refine own_by (fun _ kZ => XS.aloadN X1.here hx rfl (hb hby d1_4) rfl rfl kZ) ?_
  show own_R p.tables e below _ (T1.setTop (mkF m 5 #[.val (.ref a1)] [(.ref a1)]))
  refine own_by (fun _ kZ => XS.bipush X1.here hx rfl (hb hby d1_5) kZ) ?_
  show own_R p.tables e below _ (T1.setTop (mkF m 7 #[.val (.ref a1)] [(.int (16 : Int32)), (.ref a1)]))
  obtain ⟨T2, h2, k2, X2, e2, E2, A2, st2⟩ := newP X1 hx hZ (hw _ (List.mem_of_getElem? (i := 9) rfl)) e1 (g := (mkF m 7 #[.val (.ref a1)] [(.int (16 : Int32)), (.ref a1)])) rfl (hb hby d1_7) rfl (by decide) (cap := 16) (by decide) (by decide) (by decide) (by decide)
  obtain ⟨b, g2⟩ : ∃ z, z = h0.size := ⟨_, rfl⟩
  have ne_a1_b : a1 ≠ b := Nat.ne_of_lt (Nat.lt_of_lt_of_le Ex.lt (Nat.le_of_eq g2.symm))
  have ge_b : n0 ≤ b := Nat.le_trans Z0 (Nat.le_of_eq g2.symm)
  have sz_b : h0.size ≤ b := Nat.le_trans (Keep.refl h0 [a1]).1 (Nat.le_of_eq g2.symm)
  rw [← g2] at A2 st2
  have f3_a1 : Exa Z h2 a1 "com/example/bucket/bucket/simulation/WaitingLine" := Ex.ext E2
  have f4_a1 : Fld Z h2 a1 "com/example/bucket/bucket/simulation/WaitingLine" "m_arrivals" "[D" .null := Fa.ext E2
  have f5_a1 : Fld Z h2 a1 "com/example/bucket/bucket/simulation/WaitingLine" "m_sizes" "[D" .null := Fs.ext E2
  have f6_a1 : Fld Z h2 a1 "com/example/bucket/bucket/simulation/WaitingLine" "m_size" "I" (.int (0 : Int32)) := Fz.ext E2
  have f7_a1 : Fld Z h2 a1 "com/example/bucket/bucket/simulation/WaitingLine" "m_oldest" "I" (.int (0 : Int32)) := Fo.ext E2
  have Z8 : n0 ≤ h2.size := Nat.le_trans Z0 E2.1
  have K8 : Keep h0 h2 [a1] := (Keep.refl h0 [a1]).ext E2
  have V2 : own_K .double Z h2 b .double 16 (fun _ => (0 : UInt64)) := own_K.new A2 (by decide) rfl rfl
  refine own_by st2 ?_
  show own_R p.tables e below _ (T2.setTop (mkF m 9 #[.val (.ref a1)] [(.ref b), (.ref a1)]))
  obtain ⟨T9, h9, X9, e9, W9, st9⟩ := putF X2 hx hZ hown (host := "") (Or.inl (hw _ (List.mem_of_getElem? (i := 10) rfl))) Via.refl e2 f4_a1 f3_a1 (Or.inl (hw _ (List.mem_of_getElem? (i := 11) rfl))) (hw _ (List.mem_of_getElem? (i := 1) rfl)) (ty := (.array .double)) (by decide) rfl rfl (g := (mkF m 9 #[.val (.ref a1)] [(.ref b), (.ref a1)])) rfl rfl (hb hby d1_9)
  have f10_a1 : Exa Z h9 a1 "com/example/bucket/bucket/simulation/WaitingLine" := f3_a1.wr W9
  have f11_a1 : Fld Z h9 a1 "com/example/bucket/bucket/simulation/WaitingLine" "m_arrivals" "[D" (.ref b) := f4_a1.same W9
  have f12_a1 : Fld Z h9 a1 "com/example/bucket/bucket/simulation/WaitingLine" "m_sizes" "[D" .null := f5_a1.other W9 (Or.inr (slot_ne (Or.inl (hw _ (List.mem_of_getElem? (i := 13) rfl))) (Or.inl (hw _ (List.mem_of_getElem? (i := 11) rfl))) (by decide) (t := (.array .double)) (t' := (.array .double)) (by decide) (by decide)))
  have f13_a1 : Fld Z h9 a1 "com/example/bucket/bucket/simulation/WaitingLine" "m_size" "I" (.int (0 : Int32)) := f6_a1.other W9 (Or.inr (slot_ne (Or.inl (hw _ (List.mem_of_getElem? (i := 20) rfl))) (Or.inl (hw _ (List.mem_of_getElem? (i := 11) rfl))) (by decide) (t := .int) (t' := (.array .double)) (by decide) (by decide)))
  have f14_a1 : Fld Z h9 a1 "com/example/bucket/bucket/simulation/WaitingLine" "m_oldest" "I" (.int (0 : Int32)) := f7_a1.other W9 (Or.inr (slot_ne (Or.inl (hw _ (List.mem_of_getElem? (i := 22) rfl))) (Or.inl (hw _ (List.mem_of_getElem? (i := 11) rfl))) (by decide) (t := .int) (t' := (.array .double)) (by decide) (by decide)))
  have f15_b : own_K .double Z h9 b .double 16 (fun _ => (0 : UInt64)) := V2.other W9 (Ne.symm ne_a1_b)
  have Z16 : n0 ≤ h9.size := Nat.le_trans Z8 (Keep.of_wr W9).1
  have K16 : Keep h0 h9 [a1] := K8.wr W9 (Or.inl (List.mem_of_getElem? (i := 0) rfl))
  have N16 := Fr.snoc X9 N0 ge1
  refine own_by st9 ?_
  show own_R p.tables e below _ (T9.setTop (mkF m 12 #[.val (.ref a1)] []))
  refine own_by (fun _ kZ => XS.aloadN X9.here hx rfl (hb hby d1_12) rfl rfl kZ) ?_
  show own_R p.tables e below _ (T9.setTop (mkF m 13 #[.val (.ref a1)] [(.ref a1)]))
  refine own_by (fun _ kZ => XS.bipush X9.here hx rfl (hb hby d1_13) kZ) ?_
  show own_R p.tables e below _ (T9.setTop (mkF m 15 #[.val (.ref a1)] [(.int (16 : Int32)), (.ref a1)]))
  obtain ⟨T17, h17, k17, X17, e17, E17, A17, st17⟩ := newP X9 hx hZ (hw _ (List.mem_of_getElem? (i := 9) rfl)) e9 (g := (mkF m 15 #[.val (.ref a1)] [(.int (16 : Int32)), (.ref a1)])) rfl (hb hby d1_15) rfl (by decide) (cap := 16) (by decide) (by decide) (by decide) (by decide)
  obtain ⟨c, g17⟩ : ∃ z, z = h9.size := ⟨_, rfl⟩
  have ne_a1_c : a1 ≠ c := Nat.ne_of_lt (Nat.lt_of_lt_of_le f10_a1.lt (Nat.le_of_eq g17.symm))
  have ne_b_c : b ≠ c := Nat.ne_of_lt (Nat.lt_of_lt_of_le f15_b.lt (Nat.le_of_eq g17.symm))
  have ge_c : n0 ≤ c := Nat.le_trans Z16 (Nat.le_of_eq g17.symm)
  have sz_c : h0.size ≤ c := Nat.le_trans K16.1 (Nat.le_of_eq g17.symm)
  rw [← g17] at A17 st17
  have f18_a1 : Exa Z h17 a1 "com/example/bucket/bucket/simulation/WaitingLine" := f10_a1.ext E17
  have f19_a1 : Fld Z h17 a1 "com/example/bucket/bucket/simulation/WaitingLine" "m_arrivals" "[D" (.ref b) := f11_a1.ext E17
  have f20_a1 : Fld Z h17 a1 "com/example/bucket/bucket/simulation/WaitingLine" "m_sizes" "[D" .null := f12_a1.ext E17
  have f21_a1 : Fld Z h17 a1 "com/example/bucket/bucket/simulation/WaitingLine" "m_size" "I" (.int (0 : Int32)) := f13_a1.ext E17
  have f22_a1 : Fld Z h17 a1 "com/example/bucket/bucket/simulation/WaitingLine" "m_oldest" "I" (.int (0 : Int32)) := f14_a1.ext E17
  have f23_b : own_K .double Z h17 b .double 16 (fun _ => (0 : UInt64)) := f15_b.ext E17
  have Z24 : n0 ≤ h17.size := Nat.le_trans Z16 E17.1
  have K24 : Keep h0 h17 [a1] := K16.ext E17
  have V17 : own_K .double Z h17 c .double 16 (fun _ => (0 : UInt64)) := own_K.new A17 (by decide) rfl rfl
  refine own_by st17 ?_
  show own_R p.tables e below _ (T17.setTop (mkF m 17 #[.val (.ref a1)] [(.ref c), (.ref a1)]))
  obtain ⟨T25, h25, X25, e25, W25, st25⟩ := putF X17 hx hZ hown (host := "") (Or.inl (hw _ (List.mem_of_getElem? (i := 12) rfl))) Via.refl e17 f20_a1 f18_a1 (Or.inl (hw _ (List.mem_of_getElem? (i := 13) rfl))) (hw _ (List.mem_of_getElem? (i := 1) rfl)) (ty := (.array .double)) (by decide) rfl rfl (g := (mkF m 17 #[.val (.ref a1)] [(.ref c), (.ref a1)])) rfl rfl (hb hby d1_17)
  have f26_a1 : Exa Z h25 a1 "com/example/bucket/bucket/simulation/WaitingLine" := f18_a1.wr W25
  have f27_a1 : Fld Z h25 a1 "com/example/bucket/bucket/simulation/WaitingLine" "m_arrivals" "[D" (.ref b) := f19_a1.other W25 (Or.inr (slot_ne (Or.inl (hw _ (List.mem_of_getElem? (i := 11) rfl))) (Or.inl (hw _ (List.mem_of_getElem? (i := 13) rfl))) (by decide) (t := (.array .double)) (t' := (.array .double)) (by decide) (by decide)))
  have f28_a1 : Fld Z h25 a1 "com/example/bucket/bucket/simulation/WaitingLine" "m_sizes" "[D" (.ref c) := f20_a1.same W25
  have f29_a1 : Fld Z h25 a1 "com/example/bucket/bucket/simulation/WaitingLine" "m_size" "I" (.int (0 : Int32)) := f21_a1.other W25 (Or.inr (slot_ne (Or.inl (hw _ (List.mem_of_getElem? (i := 20) rfl))) (Or.inl (hw _ (List.mem_of_getElem? (i := 13) rfl))) (by decide) (t := .int) (t' := (.array .double)) (by decide) (by decide)))
  have f30_a1 : Fld Z h25 a1 "com/example/bucket/bucket/simulation/WaitingLine" "m_oldest" "I" (.int (0 : Int32)) := f22_a1.other W25 (Or.inr (slot_ne (Or.inl (hw _ (List.mem_of_getElem? (i := 22) rfl))) (Or.inl (hw _ (List.mem_of_getElem? (i := 13) rfl))) (by decide) (t := .int) (t' := (.array .double)) (by decide) (by decide)))
  have f31_b : own_K .double Z h25 b .double 16 (fun _ => (0 : UInt64)) := f23_b.other W25 (Ne.symm ne_a1_b)
  have f32_c : own_K .double Z h25 c .double 16 (fun _ => (0 : UInt64)) := V17.other W25 (Ne.symm ne_a1_c)
  have Z33 : n0 ≤ h25.size := Nat.le_trans Z24 (Keep.of_wr W25).1
  have K33 : Keep h0 h25 [a1] := K24.wr W25 (Or.inl (List.mem_of_getElem? (i := 0) rfl))
  have N33 := Fr.snoc X25 N16 ge1
  refine own_by st25 ?_
  show own_R p.tables e below _ (T25.setTop (mkF m 20 #[.val (.ref a1)] []))
  obtain ⟨fs, hr, hrun, hended, hW, hsame⟩ := X25.leave (v := none) (fun _ => rfl)
  refine own_end ⟨_, _, ?_, hrun, hended, _, _, rfl, ?_, ⟨_, rfl⟩, hW, hsame.mono (by decide) (by decide)⟩
  · exact X25.returnOut hx Bd.returns (hb hby d1_20) hr
  · show Q1 Z a1 h0 n0 _ T25.heap _
    rw [e25]
    exact ⟨rfl, N33, K33, b, c, f26_a1, f27_a1, f28_a1, f29_a1, f30_a1, f31_b, f32_c, ne_a1_b, ne_a1_c, ne_b_c, ge1, ge_b, ge_c⟩
theorem ef_3 (m : MethodId) (a1 : Addr) (x2 : UInt64) (x3 : UInt64) : entryFrame m #[(.ref a1), (.double x2), (.double x3)] 6 = mkF m 0 #[.val (.ref a1), .val (.double x2), .second, .val (.double x3), .second, .unset] [] := by first | (simp [entryFrame, mkF, argsToLocals, Value.category]; done) | rfl
def Q3 (Z : State) (a1 : Addr) (x2 : UInt64) (x3 : UInt64) (b c : Addr) (sz ol : Int32) (ga gs : Nat → UInt64) (i : Nat) (h0 : Heap) (n0 : Nat) (v : Option Value) (h : Heap) (L : List Loc) : Prop := v = none ∧ Fr n0 L ∧ Keep h0 h [a1, b, c] ∧ own_WL Z h n0 a1 b c (sz + 1) ol (own_uk ga i x2) (own_uk gs i x3)
set_option maxRecDepth 65536 in
set_option maxHeartbeats 40000000 in
theorem rm3 (l : Launch) (Z : State) (a0 : Array Value) (hw : ∀ d ∈ tables_1, d.before a0 Z = true) (ws : List Jvm.Cond) (a1 : Addr) (x2 : UInt64) (x3 : UInt64) (b c : Addr) (sz ol : Int32) (ga gs : Nat → UInt64) (i : Nat) (h0 : Heap) (n0 : Nat) (Z0 : n0 ≤ h0.size) (W : own_WL Z h0 n0 a1 b c sz ol ga gs) (hne : ¬ (Int32.ofNat 16) = sz) (hi : (ol + sz) &&& ((Int32.ofNat 16) - 1) = Int32.ofNat i) (li : i < 16) :
    MetFree l (⟨"com/example/bucket/bucket/simulation/WaitingLine", "add", "(DD)V"⟩ : MethodName) (head1 (Jvm.Cond.code (⟨"com/example/bucket/bucket/simulation/WaitingLine", "add", "(DD)V"⟩ : MethodName) prog_76_method_3_code 6 none :: ws) ({ frames := 0, cells := 0, slots := 0, locals := 0 } : Room)) (fun a U => a = #[(.ref a1), (.double x2), (.double x3)] ∧ Z.Warmed39 U.vm ∧ U.heap = h0) (fun _ _ _ _ _ => True) (fun _ U o U' => ∃ v L, o = .returned v ∧ Q3 Z a1 x2 x3 b c sz ol ga gs i h0 n0 v U'.heap L ∧ FrameEnd U o U' L ({ frames := 0, cells := 0, slots := 0, locals := 0 } : Room).cells ({ frames := 0, cells := 0, slots := 0, locals := 0 } : Room).slots) := by
  refine MetFree.of_bodySF (plainFor_of_name pn_3) hisR ?_
  intro p e s m args below meth cd s₁ Bd hml0 hP hK
  obtain ⟨rfl, hZ, hh⟩ := hP
  have hx := Bd.exec
  have hby := Bd.bytes
  have hml : cd.maxLocals = 6 := hml0
  have hown : s.vm.findClass "com/example/bucket/bucket/simulation/WaitingLine" = some m.cls := findClass_of_methodNamed Bd.named
  have hnm := (name_of_methodNamed Bd.named Bd.method).1
  have X0 : Stand p l e ({ frames := 0, cells := 0, slots := 0, locals := 0 } : Room) s m #[(.ref a1), (.double x2), (.double x3)] below meth cd s₁ [] 0 0 := Stand.of_body Bd
  have e0 : s₁.heap = h0 := by rw [← hh, Bd.state]; rfl
  have N0 := Fr.nil n0
  show own_R p.tables e below _ (s₁.setTop (entryFrame m #[(.ref a1), (.double x2), (.double x3)] 6))
  refine own_by (fun t kZ => castTop (ef_3 m a1 x2 x3) kZ) ?_
  show own_R p.tables e below _ (s₁.setTop (mkF m 0 #[.val (.ref a1), .val (.double x2), .second, .val (.double x3), .second, .unset] []))
  obtain ⟨Ex, Fa, Fs, Fz, Fo, Va, Vs, n1, n2, n3, g1, g2, g3⟩ := W
  refine own_by (fun _ kZ => XS.aloadN X0.here hx rfl (hb hby d3_0) rfl rfl kZ) ?_
  show own_R p.tables e below _ (s₁.setTop (mkF m 1 #[.val (.ref a1), .val (.double x2), .second, .val (.double x3), .second, .unset] [(.ref a1)]))
  obtain ⟨T34, X34, e34, st34⟩ := getF X0 hx hZ hown (host := "") (Or.inl (hw _ (List.mem_of_getElem? (i := 10) rfl))) Via.refl e0 Fa (g := (mkF m 1 #[.val (.ref a1), .val (.double x2), .second, .val (.double x3), .second, .unset] [(.ref a1)])) rfl rfl (hb hby d3_1)
  refine own_by st34 ?_
  show own_R p.tables e below _ (T34.setTop (mkF m 4 #[.val (.ref a1), .val (.double x2), .second, .val (.double x3), .second, .unset] [(.ref b)]))
  obtain ⟨cl35, Ar35, hln35⟩ := Va.ln
  refine own_by (fun _ kZ => X34.arraylength hx (by rw [e34]; exact Ar35.1) (State.isArrayOf_alike hZ.alike Ar35.2.1) (g := (mkF m 4 #[.val (.ref a1), .val (.double x2), .second, .val (.double x3), .second, .unset] [(.ref b)])) rfl rfl (hb hby d3_4) _ kZ) ?_
  rw [hln35]
  show own_R p.tables e below _ (T34.setTop (mkF m 5 #[.val (.ref a1), .val (.double x2), .second, .val (.double x3), .second, .unset] [(.int (Int32.ofNat 16))]))
  refine own_by (fun _ kZ => XS.aloadN X34.here hx rfl (hb hby d3_5) rfl rfl kZ) ?_
  show own_R p.tables e below _ (T34.setTop (mkF m 6 #[.val (.ref a1), .val (.double x2), .second, .val (.double x3), .second, .unset] [(.ref a1), (.int (Int32.ofNat 16))]))
  obtain ⟨T36, X36, e36, st36⟩ := getF X34 hx hZ hown (host := "") (Or.inl (hw _ (List.mem_of_getElem? (i := 19) rfl))) Via.refl e34 Fz (g := (mkF m 6 #[.val (.ref a1), .val (.double x2), .second, .val (.double x3), .second, .unset] [(.ref a1), (.int (Int32.ofNat 16))])) rfl rfl (hb hby d3_6)
  refine own_by st36 ?_
  show own_R p.tables e below _ (T36.setTop (mkF m 9 #[.val (.ref a1), .val (.double x2), .second, .val (.double x3), .second, .unset] [(.int sz), (.int (Int32.ofNat 16))]))
  refine own_by (fun _ kZ => XS.icmpYes X36.here hx rfl (pc0 := 9) (pc' := 16) rfl (hb hby d3_9) rfl (feq hne).2 (by decide) (by decide) kZ) ?_
  show own_R p.tables e below _ (T36.setTop (mkF m 16 #[.val (.ref a1), .val (.double x2), .second, .val (.double x3), .second, .unset] []))
  refine own_by (fun _ kZ => XS.aloadN X36.here hx rfl (hb hby d3_16) rfl rfl kZ) ?_
  show own_R p.tables e below _ (T36.setTop (mkF m 17 #[.val (.ref a1), .val (.double x2), .second, .val (.double x3), .second, .unset] [(.ref a1)]))
  obtain ⟨T37, X37, e37, st37⟩ := getF X36 hx hZ hown (host := "") (Or.inl (hw _ (List.mem_of_getElem? (i := 21) rfl))) Via.refl e36 Fo (g := (mkF m 17 #[.val (.ref a1), .val (.double x2), .second, .val (.double x3), .second, .unset] [(.ref a1)])) rfl rfl (hb hby d3_17)
  refine own_by st37 ?_
  show own_R p.tables e below _ (T37.setTop (mkF m 20 #[.val (.ref a1), .val (.double x2), .second, .val (.double x3), .second, .unset] [(.int ol)]))
  refine own_by (fun _ kZ => XS.aloadN X37.here hx rfl (hb hby d3_20) rfl rfl kZ) ?_
  show own_R p.tables e below _ (T37.setTop (mkF m 21 #[.val (.ref a1), .val (.double x2), .second, .val (.double x3), .second, .unset] [(.ref a1), (.int ol)]))
  obtain ⟨T38, X38, e38, st38⟩ := getF X37 hx hZ hown (host := "") (Or.inl (hw _ (List.mem_of_getElem? (i := 19) rfl))) Via.refl e37 Fz (g := (mkF m 21 #[.val (.ref a1), .val (.double x2), .second, .val (.double x3), .second, .unset] [(.ref a1), (.int ol)])) rfl rfl (hb hby d3_21)
  refine own_by st38 ?_
  show own_R p.tables e below _ (T38.setTop (mkF m 24 #[.val (.ref a1), .val (.double x2), .second, .val (.double x3), .second, .unset] [(.int sz), (.int ol)]))
  refine own_by (fun _ kZ => XS.iadd X38.here hx rfl (hb hby d3_24) rfl kZ) ?_
  show own_R p.tables e below _ (T38.setTop (mkF m 25 #[.val (.ref a1), .val (.double x2), .second, .val (.double x3), .second, .unset] [(.int (ol + sz))]))
  refine own_by (fun _ kZ => XS.aloadN X38.here hx rfl (hb hby d3_25) rfl rfl kZ) ?_
  show own_R p.tables e below _ (T38.setTop (mkF m 26 #[.val (.ref a1), .val (.double x2), .second, .val (.double x3), .second, .unset] [(.ref a1), (.int (ol + sz))]))
  obtain ⟨T39, X39, e39, st39⟩ := getF X38 hx hZ hown (host := "") (Or.inl (hw _ (List.mem_of_getElem? (i := 10) rfl))) Via.refl e38 Fa (g := (mkF m 26 #[.val (.ref a1), .val (.double x2), .second, .val (.double x3), .second, .unset] [(.ref a1), (.int (ol + sz))])) rfl rfl (hb hby d3_26)
  refine own_by st39 ?_
  show own_R p.tables e below _ (T39.setTop (mkF m 29 #[.val (.ref a1), .val (.double x2), .second, .val (.double x3), .second, .unset] [(.ref b), (.int (ol + sz))]))
  obtain ⟨cl40, Ar40, hln40⟩ := Va.ln
  refine own_by (fun _ kZ => X39.arraylength hx (by rw [e39]; exact Ar40.1) (State.isArrayOf_alike hZ.alike Ar40.2.1) (g := (mkF m 29 #[.val (.ref a1), .val (.double x2), .second, .val (.double x3), .second, .unset] [(.ref b), (.int (ol + sz))])) rfl rfl (hb hby d3_29) _ kZ) ?_
  rw [hln40]
  show own_R p.tables e below _ (T39.setTop (mkF m 30 #[.val (.ref a1), .val (.double x2), .second, .val (.double x3), .second, .unset] [(.int (Int32.ofNat 16)), (.int (ol + sz))]))
  refine own_by (fun _ kZ => XS.iconst X39.here hx rfl (hb hby d3_30) kZ) ?_
  show own_R p.tables e below _ (T39.setTop (mkF m 31 #[.val (.ref a1), .val (.double x2), .second, .val (.double x3), .second, .unset] [(.int (1 : Int32)), (.int (Int32.ofNat 16)), (.int (ol + sz))]))
  refine own_by (fun _ kZ => XS.isub X39.here hx rfl (hb hby d3_31) rfl kZ) ?_
  show own_R p.tables e below _ (T39.setTop (mkF m 32 #[.val (.ref a1), .val (.double x2), .second, .val (.double x3), .second, .unset] [(.int ((Int32.ofNat 16) - (1 : Int32))), (.int (ol + sz))]))
  refine own_by (fun _ kZ => XS.iand X39.here hx rfl (hb hby d3_32) rfl kZ) ?_
  show own_R p.tables e below _ (T39.setTop (mkF m 33 #[.val (.ref a1), .val (.double x2), .second, .val (.double x3), .second, .unset] [(.int ((ol + sz) &&& ((Int32.ofNat 16) - (1 : Int32))))]))
  rw [show ((ol + sz) &&& ((Int32.ofNat 16) - (1 : Int32))) = (Int32.ofNat i) from hi]
  show own_R p.tables e below _ (T39.setTop (mkF m 33 #[.val (.ref a1), .val (.double x2), .second, .val (.double x3), .second, .unset] [(.int (Int32.ofNat i))]))
  refine own_by (fun _ kZ => XS.istore X39.here hx rfl (hb hby d3_33) rfl (l' := #[.val (.ref a1), .val (.double x2), .second, .val (.double x3), .second, .val (.int (Int32.ofNat i))]) rfl kZ) ?_
  show own_R p.tables e below _ (T39.setTop (mkF m 35 #[.val (.ref a1), .val (.double x2), .second, .val (.double x3), .second, .val (.int (Int32.ofNat i))] []))
  refine own_by (fun _ kZ => XS.aloadN X39.here hx rfl (hb hby d3_35) rfl rfl kZ) ?_
  show own_R p.tables e below _ (T39.setTop (mkF m 36 #[.val (.ref a1), .val (.double x2), .second, .val (.double x3), .second, .val (.int (Int32.ofNat i))] [(.ref a1)]))
  obtain ⟨T41, X41, e41, st41⟩ := getF X39 hx hZ hown (host := "") (Or.inl (hw _ (List.mem_of_getElem? (i := 10) rfl))) Via.refl e39 Fa (g := (mkF m 36 #[.val (.ref a1), .val (.double x2), .second, .val (.double x3), .second, .val (.int (Int32.ofNat i))] [(.ref a1)])) rfl rfl (hb hby d3_36)
  refine own_by st41 ?_
  show own_R p.tables e below _ (T41.setTop (mkF m 39 #[.val (.ref a1), .val (.double x2), .second, .val (.double x3), .second, .val (.int (Int32.ofNat i))] [(.ref b)]))
  refine own_by (fun _ kZ => XS.iload X41.here hx rfl (hb hby d3_39) rfl kZ) ?_
  show own_R p.tables e below _ (T41.setTop (mkF m 41 #[.val (.ref a1), .val (.double x2), .second, .val (.double x3), .second, .val (.int (Int32.ofNat i))] [(.int (Int32.ofNat i)), (.ref b)]))
  refine own_by (fun _ kZ => own_dloadN X41.here hx rfl (hb hby d3_41) rfl kZ) ?_
  show own_R p.tables e below _ (T41.setTop (mkF m 42 #[.val (.ref a1), .val (.double x2), .second, .val (.double x3), .second, .val (.int (Int32.ofNat i))] [(.double x2), (.int (Int32.ofNat i)), (.ref b)]))
  obtain ⟨cl42, Ar42, hin42, -⟩ := Va.rd (i := (Int32.ofNat i)) (p := i) (own_clamp (by omega)) (own_nn (by omega)) li
  obtain ⟨T43, h43, X43, e43, W43, st43⟩ := own_stD X41 hx hZ e41 Ar42 (j := (Int32.ofNat i)) hin42 (g := (mkF m 42 #[.val (.ref a1), .val (.double x2), .second, .val (.double x3), .second, .val (.int (Int32.ofNat i))] [(.double x2), (.int (Int32.ofNat i)), (.ref b)])) rfl rfl (hb hby d3_42)
  have f44_a1 : Exa Z h43 a1 "com/example/bucket/bucket/simulation/WaitingLine" := Ex.wr W43
  have f45_a1 : Fld Z h43 a1 "com/example/bucket/bucket/simulation/WaitingLine" "m_arrivals" "[D" (.ref b) := Fa.other W43 (Or.inl n1)
  have f46_a1 : Fld Z h43 a1 "com/example/bucket/bucket/simulation/WaitingLine" "m_sizes" "[D" (.ref c) := Fs.other W43 (Or.inl n1)
  have f47_a1 : Fld Z h43 a1 "com/example/bucket/bucket/simulation/WaitingLine" "m_size" "I" (.int sz) := Fz.other W43 (Or.inl n1)
  have f48_a1 : Fld Z h43 a1 "com/example/bucket/bucket/simulation/WaitingLine" "m_oldest" "I" (.int ol) := Fo.other W43 (Or.inl n1)
  have f49_c : own_K .double Z h43 c .double 16 gs := Vs.other W43 (Ne.symm n3)
  have Z50 : n0 ≤ h43.size := Nat.le_trans Z0 (Keep.of_wr W43).1
  have K50 : Keep h0 h43 [a1, b, c] := (Keep.refl h0 [a1, b, c]).wr W43 (Or.inl (List.mem_of_getElem? (i := 1) rfl))
  have N50 := Fr.snoc X43 N0 g2
  have V43 : own_K .double Z h43 b .double 16 (own_uk ga i x2) := Va.set (i := (Int32.ofNat i)) (p := i) (own_clamp (by omega)) W43
  refine own_by st43 ?_
  show own_R p.tables e below _ (T43.setTop (mkF m 43 #[.val (.ref a1), .val (.double x2), .second, .val (.double x3), .second, .val (.int (Int32.ofNat i))] []))
  refine own_by (fun _ kZ => XS.aloadN X43.here hx rfl (hb hby d3_43) rfl rfl kZ) ?_
  show own_R p.tables e below _ (T43.setTop (mkF m 44 #[.val (.ref a1), .val (.double x2), .second, .val (.double x3), .second, .val (.int (Int32.ofNat i))] [(.ref a1)]))
  obtain ⟨T51, X51, e51, st51⟩ := getF X43 hx hZ hown (host := "") (Or.inl (hw _ (List.mem_of_getElem? (i := 12) rfl))) Via.refl e43 f46_a1 (g := (mkF m 44 #[.val (.ref a1), .val (.double x2), .second, .val (.double x3), .second, .val (.int (Int32.ofNat i))] [(.ref a1)])) rfl rfl (hb hby d3_44)
  refine own_by st51 ?_
  show own_R p.tables e below _ (T51.setTop (mkF m 47 #[.val (.ref a1), .val (.double x2), .second, .val (.double x3), .second, .val (.int (Int32.ofNat i))] [(.ref c)]))
  refine own_by (fun _ kZ => XS.iload X51.here hx rfl (hb hby d3_47) rfl kZ) ?_
  show own_R p.tables e below _ (T51.setTop (mkF m 49 #[.val (.ref a1), .val (.double x2), .second, .val (.double x3), .second, .val (.int (Int32.ofNat i))] [(.int (Int32.ofNat i)), (.ref c)]))
  refine own_by (fun _ kZ => own_dloadN X51.here hx rfl (hb hby d3_49) rfl kZ) ?_
  show own_R p.tables e below _ (T51.setTop (mkF m 50 #[.val (.ref a1), .val (.double x2), .second, .val (.double x3), .second, .val (.int (Int32.ofNat i))] [(.double x3), (.int (Int32.ofNat i)), (.ref c)]))
  obtain ⟨cl52, Ar52, hin52, -⟩ := f49_c.rd (i := (Int32.ofNat i)) (p := i) (own_clamp (by omega)) (own_nn (by omega)) li
  obtain ⟨T53, h53, X53, e53, W53, st53⟩ := own_stD X51 hx hZ e51 Ar52 (j := (Int32.ofNat i)) hin52 (g := (mkF m 50 #[.val (.ref a1), .val (.double x2), .second, .val (.double x3), .second, .val (.int (Int32.ofNat i))] [(.double x3), (.int (Int32.ofNat i)), (.ref c)])) rfl rfl (hb hby d3_50)
  have f54_a1 : Exa Z h53 a1 "com/example/bucket/bucket/simulation/WaitingLine" := f44_a1.wr W53
  have f55_a1 : Fld Z h53 a1 "com/example/bucket/bucket/simulation/WaitingLine" "m_arrivals" "[D" (.ref b) := f45_a1.other W53 (Or.inl n2)
  have f56_a1 : Fld Z h53 a1 "com/example/bucket/bucket/simulation/WaitingLine" "m_sizes" "[D" (.ref c) := f46_a1.other W53 (Or.inl n2)
  have f57_a1 : Fld Z h53 a1 "com/example/bucket/bucket/simulation/WaitingLine" "m_size" "I" (.int sz) := f47_a1.other W53 (Or.inl n2)
  have f58_a1 : Fld Z h53 a1 "com/example/bucket/bucket/simulation/WaitingLine" "m_oldest" "I" (.int ol) := f48_a1.other W53 (Or.inl n2)
  have f59_b : own_K .double Z h53 b .double 16 (own_uk ga i x2) := V43.other W53 n3
  have Z60 : n0 ≤ h53.size := Nat.le_trans Z50 (Keep.of_wr W53).1
  have K60 : Keep h0 h53 [a1, b, c] := K50.wr W53 (Or.inl (List.mem_of_getElem? (i := 2) rfl))
  have N60 := Fr.snoc X53 N50 g3
  have V53 : own_K .double Z h53 c .double 16 (own_uk gs i x3) := f49_c.set (i := (Int32.ofNat i)) (p := i) (own_clamp (by omega)) W53
  refine own_by st53 ?_
  show own_R p.tables e below _ (T53.setTop (mkF m 51 #[.val (.ref a1), .val (.double x2), .second, .val (.double x3), .second, .val (.int (Int32.ofNat i))] []))
  refine own_by (fun _ kZ => XS.aloadN X53.here hx rfl (hb hby d3_51) rfl rfl kZ) ?_
  show own_R p.tables e below _ (T53.setTop (mkF m 52 #[.val (.ref a1), .val (.double x2), .second, .val (.double x3), .second, .val (.int (Int32.ofNat i))] [(.ref a1)]))
  refine own_by (fun _ kZ => XS.dup X53.here hx rfl (hb hby d3_52) rfl rfl kZ) ?_
  show own_R p.tables e below _ (T53.setTop (mkF m 53 #[.val (.ref a1), .val (.double x2), .second, .val (.double x3), .second, .val (.int (Int32.ofNat i))] [(.ref a1), (.ref a1)]))
  obtain ⟨T61, X61, e61, st61⟩ := getF X53 hx hZ hown (host := "") (Or.inl (hw _ (List.mem_of_getElem? (i := 19) rfl))) Via.refl e53 f57_a1 (g := (mkF m 53 #[.val (.ref a1), .val (.double x2), .second, .val (.double x3), .second, .val (.int (Int32.ofNat i))] [(.ref a1), (.ref a1)])) rfl rfl (hb hby d3_53)
  refine own_by st61 ?_
  show own_R p.tables e below _ (T61.setTop (mkF m 56 #[.val (.ref a1), .val (.double x2), .second, .val (.double x3), .second, .val (.int (Int32.ofNat i))] [(.int sz), (.ref a1)]))
  refine own_by (fun _ kZ => XS.iconst X61.here hx rfl (hb hby d3_56) kZ) ?_
  show own_R p.tables e below _ (T61.setTop (mkF m 57 #[.val (.ref a1), .val (.double x2), .second, .val (.double x3), .second, .val (.int (Int32.ofNat i))] [(.int (1 : Int32)), (.int sz), (.ref a1)]))
  refine own_by (fun _ kZ => XS.iadd X61.here hx rfl (hb hby d3_57) rfl kZ) ?_
  show own_R p.tables e below _ (T61.setTop (mkF m 58 #[.val (.ref a1), .val (.double x2), .second, .val (.double x3), .second, .val (.int (Int32.ofNat i))] [(.int (sz + (1 : Int32))), (.ref a1)]))
  obtain ⟨T62, h62, X62, e62, W62, st62⟩ := putF X61 hx hZ hown (host := "") (Or.inl (hw _ (List.mem_of_getElem? (i := 19) rfl))) Via.refl e61 f57_a1 f54_a1 (Or.inl (hw _ (List.mem_of_getElem? (i := 20) rfl))) (hw _ (List.mem_of_getElem? (i := 1) rfl)) (ty := .int) (by decide) rfl rfl (g := (mkF m 58 #[.val (.ref a1), .val (.double x2), .second, .val (.double x3), .second, .val (.int (Int32.ofNat i))] [(.int (sz + (1 : Int32))), (.ref a1)])) rfl rfl (hb hby d3_58)
  have f63_a1 : Exa Z h62 a1 "com/example/bucket/bucket/simulation/WaitingLine" := f54_a1.wr W62
  have f64_a1 : Fld Z h62 a1 "com/example/bucket/bucket/simulation/WaitingLine" "m_arrivals" "[D" (.ref b) := f55_a1.other W62 (Or.inr (slot_ne (Or.inl (hw _ (List.mem_of_getElem? (i := 11) rfl))) (Or.inl (hw _ (List.mem_of_getElem? (i := 20) rfl))) (by decide) (t := (.array .double)) (t' := .int) (by decide) (by decide)))
  have f65_a1 : Fld Z h62 a1 "com/example/bucket/bucket/simulation/WaitingLine" "m_sizes" "[D" (.ref c) := f56_a1.other W62 (Or.inr (slot_ne (Or.inl (hw _ (List.mem_of_getElem? (i := 13) rfl))) (Or.inl (hw _ (List.mem_of_getElem? (i := 20) rfl))) (by decide) (t := (.array .double)) (t' := .int) (by decide) (by decide)))
  have f66_a1 : Fld Z h62 a1 "com/example/bucket/bucket/simulation/WaitingLine" "m_size" "I" (.int (sz + (1 : Int32))) := f57_a1.same W62
  have f67_a1 : Fld Z h62 a1 "com/example/bucket/bucket/simulation/WaitingLine" "m_oldest" "I" (.int ol) := f58_a1.other W62 (Or.inr (slot_ne (Or.inl (hw _ (List.mem_of_getElem? (i := 22) rfl))) (Or.inl (hw _ (List.mem_of_getElem? (i := 20) rfl))) (by decide) (t := .int) (t' := .int) (by decide) (by decide)))
  have f68_b : own_K .double Z h62 b .double 16 (own_uk ga i x2) := f59_b.other W62 (Ne.symm n1)
  have f69_c : own_K .double Z h62 c .double 16 (own_uk gs i x3) := V53.other W62 (Ne.symm n2)
  have Z70 : n0 ≤ h62.size := Nat.le_trans Z60 (Keep.of_wr W62).1
  have K70 : Keep h0 h62 [a1, b, c] := K60.wr W62 (Or.inl (List.mem_of_getElem? (i := 0) rfl))
  have N70 := Fr.snoc X62 N60 g1
  refine own_by st62 ?_
  show own_R p.tables e below _ (T62.setTop (mkF m 61 #[.val (.ref a1), .val (.double x2), .second, .val (.double x3), .second, .val (.int (Int32.ofNat i))] []))
  obtain ⟨fs, hr, hrun, hended, hW, hsame⟩ := X62.leave (v := none) (fun _ => rfl)
  refine own_end ⟨_, _, ?_, hrun, hended, _, _, rfl, ?_, ⟨_, rfl⟩, hW, hsame.mono (by decide) (by decide)⟩
  · exact X62.returnOut hx Bd.returns (hb hby d3_61) hr
  · show Q3 Z a1 x2 x3 b c sz ol ga gs i h0 n0 _ T62.heap _
    rw [e62]
    exact ⟨rfl, N70, K70, ⟨f63_a1, f64_a1, f65_a1, f66_a1, f67_a1, f68_b, f69_c, n1, n2, n3, g1, g2, g3⟩⟩
theorem ef_4 (m : MethodId) (a1 : Addr) : entryFrame m #[(.ref a1)] 1 = mkF m 0 #[.val (.ref a1)] [] := by first | (simp [entryFrame, mkF, argsToLocals, Value.category]; done) | rfl
def Q4 (Z : State) (a1 : Addr) (b c : Addr) (sz ol : Int32) (ga gs : Nat → UInt64) (h0 : Heap) (n0 : Nat) (v : Option Value) (h : Heap) (L : List Loc) : Prop := v = none ∧ Fr n0 L ∧ Keep h0 h [a1] ∧ own_WL Z h n0 a1 b c (sz - 1) ((ol + 1) &&& ((Int32.ofNat 16) - 1)) ga gs
set_option maxRecDepth 65536 in
set_option maxHeartbeats 40000000 in
theorem rm4 (l : Launch) (Z : State) (a0 : Array Value) (hw : ∀ d ∈ tables_1, d.before a0 Z = true) (ws : List Jvm.Cond) (a1 : Addr) (b c : Addr) (sz ol : Int32) (ga gs : Nat → UInt64) (h0 : Heap) (n0 : Nat) (Z0 : n0 ≤ h0.size) (W : own_WL Z h0 n0 a1 b c sz ol ga gs) :
    MetFree l (⟨"com/example/bucket/bucket/simulation/WaitingLine", "removeOldest", "()V"⟩ : MethodName) (head1 (Jvm.Cond.code (⟨"com/example/bucket/bucket/simulation/WaitingLine", "removeOldest", "()V"⟩ : MethodName) prog_76_method_6_code 1 none :: ws) ({ frames := 0, cells := 0, slots := 0, locals := 0 } : Room)) (fun a U => a = #[(.ref a1)] ∧ Z.Warmed39 U.vm ∧ U.heap = h0) (fun _ _ _ _ _ => True) (fun _ U o U' => ∃ v L, o = .returned v ∧ Q4 Z a1 b c sz ol ga gs h0 n0 v U'.heap L ∧ FrameEnd U o U' L ({ frames := 0, cells := 0, slots := 0, locals := 0 } : Room).cells ({ frames := 0, cells := 0, slots := 0, locals := 0 } : Room).slots) := by
  refine MetFree.of_bodySF (plainFor_of_name pn_4) hisR ?_
  intro p e s m args below meth cd s₁ Bd hml0 hP hK
  obtain ⟨rfl, hZ, hh⟩ := hP
  have hx := Bd.exec
  have hby := Bd.bytes
  have hml : cd.maxLocals = 1 := hml0
  have hown : s.vm.findClass "com/example/bucket/bucket/simulation/WaitingLine" = some m.cls := findClass_of_methodNamed Bd.named
  have hnm := (name_of_methodNamed Bd.named Bd.method).1
  have X0 : Stand p l e ({ frames := 0, cells := 0, slots := 0, locals := 0 } : Room) s m #[(.ref a1)] below meth cd s₁ [] 0 0 := Stand.of_body Bd
  have e0 : s₁.heap = h0 := by rw [← hh, Bd.state]; rfl
  have N0 := Fr.nil n0
  show own_R p.tables e below _ (s₁.setTop (entryFrame m #[(.ref a1)] 1))
  refine own_by (fun t kZ => castTop (ef_4 m a1) kZ) ?_
  show own_R p.tables e below _ (s₁.setTop (mkF m 0 #[.val (.ref a1)] []))
  obtain ⟨Ex, Fa, Fs, Fz, Fo, Va, Vs, n1, n2, n3, g1, g2, g3⟩ := W
  refine own_by (fun _ kZ => XS.aloadN X0.here hx rfl (hb hby d4_0) rfl rfl kZ) ?_
  show own_R p.tables e below _ (s₁.setTop (mkF m 1 #[.val (.ref a1)] [(.ref a1)]))
  refine own_by (fun _ kZ => XS.aloadN X0.here hx rfl (hb hby d4_1) rfl rfl kZ) ?_
  show own_R p.tables e below _ (s₁.setTop (mkF m 2 #[.val (.ref a1)] [(.ref a1), (.ref a1)]))
  obtain ⟨T71, X71, e71, st71⟩ := getF X0 hx hZ hown (host := "") (Or.inl (hw _ (List.mem_of_getElem? (i := 21) rfl))) Via.refl e0 Fo (g := (mkF m 2 #[.val (.ref a1)] [(.ref a1), (.ref a1)])) rfl rfl (hb hby d4_2)
  refine own_by st71 ?_
  show own_R p.tables e below _ (T71.setTop (mkF m 5 #[.val (.ref a1)] [(.int ol), (.ref a1)]))
  refine own_by (fun _ kZ => XS.iconst X71.here hx rfl (hb hby d4_5) kZ) ?_
  show own_R p.tables e below _ (T71.setTop (mkF m 6 #[.val (.ref a1)] [(.int (1 : Int32)), (.int ol), (.ref a1)]))
  refine own_by (fun _ kZ => XS.iadd X71.here hx rfl (hb hby d4_6) rfl kZ) ?_
  show own_R p.tables e below _ (T71.setTop (mkF m 7 #[.val (.ref a1)] [(.int (ol + (1 : Int32))), (.ref a1)]))
  refine own_by (fun _ kZ => XS.aloadN X71.here hx rfl (hb hby d4_7) rfl rfl kZ) ?_
  show own_R p.tables e below _ (T71.setTop (mkF m 8 #[.val (.ref a1)] [(.ref a1), (.int (ol + (1 : Int32))), (.ref a1)]))
  obtain ⟨T72, X72, e72, st72⟩ := getF X71 hx hZ hown (host := "") (Or.inl (hw _ (List.mem_of_getElem? (i := 10) rfl))) Via.refl e71 Fa (g := (mkF m 8 #[.val (.ref a1)] [(.ref a1), (.int (ol + (1 : Int32))), (.ref a1)])) rfl rfl (hb hby d4_8)
  refine own_by st72 ?_
  show own_R p.tables e below _ (T72.setTop (mkF m 11 #[.val (.ref a1)] [(.ref b), (.int (ol + (1 : Int32))), (.ref a1)]))
  obtain ⟨cl73, Ar73, hln73⟩ := Va.ln
  refine own_by (fun _ kZ => X72.arraylength hx (by rw [e72]; exact Ar73.1) (State.isArrayOf_alike hZ.alike Ar73.2.1) (g := (mkF m 11 #[.val (.ref a1)] [(.ref b), (.int (ol + (1 : Int32))), (.ref a1)])) rfl rfl (hb hby d4_11) _ kZ) ?_
  rw [hln73]
  show own_R p.tables e below _ (T72.setTop (mkF m 12 #[.val (.ref a1)] [(.int (Int32.ofNat 16)), (.int (ol + (1 : Int32))), (.ref a1)]))
  refine own_by (fun _ kZ => XS.iconst X72.here hx rfl (hb hby d4_12) kZ) ?_
  show own_R p.tables e below _ (T72.setTop (mkF m 13 #[.val (.ref a1)] [(.int (1 : Int32)), (.int (Int32.ofNat 16)), (.int (ol + (1 : Int32))), (.ref a1)]))
  refine own_by (fun _ kZ => XS.isub X72.here hx rfl (hb hby d4_13) rfl kZ) ?_
  show own_R p.tables e below _ (T72.setTop (mkF m 14 #[.val (.ref a1)] [(.int ((Int32.ofNat 16) - (1 : Int32))), (.int (ol + (1 : Int32))), (.ref a1)]))
  refine own_by (fun _ kZ => XS.iand X72.here hx rfl (hb hby d4_14) rfl kZ) ?_
  show own_R p.tables e below _ (T72.setTop (mkF m 15 #[.val (.ref a1)] [(.int ((ol + (1 : Int32)) &&& ((Int32.ofNat 16) - (1 : Int32)))), (.ref a1)]))
  obtain ⟨T74, h74, X74, e74, W74, st74⟩ := putF X72 hx hZ hown (host := "") (Or.inl (hw _ (List.mem_of_getElem? (i := 21) rfl))) Via.refl e72 Fo Ex (Or.inl (hw _ (List.mem_of_getElem? (i := 22) rfl))) (hw _ (List.mem_of_getElem? (i := 1) rfl)) (ty := .int) (by decide) rfl rfl (g := (mkF m 15 #[.val (.ref a1)] [(.int ((ol + (1 : Int32)) &&& ((Int32.ofNat 16) - (1 : Int32)))), (.ref a1)])) rfl rfl (hb hby d4_15)
  have f75_a1 : Exa Z h74 a1 "com/example/bucket/bucket/simulation/WaitingLine" := Ex.wr W74
  have f76_a1 : Fld Z h74 a1 "com/example/bucket/bucket/simulation/WaitingLine" "m_arrivals" "[D" (.ref b) := Fa.other W74 (Or.inr (slot_ne (Or.inl (hw _ (List.mem_of_getElem? (i := 11) rfl))) (Or.inl (hw _ (List.mem_of_getElem? (i := 22) rfl))) (by decide) (t := (.array .double)) (t' := .int) (by decide) (by decide)))
  have f77_a1 : Fld Z h74 a1 "com/example/bucket/bucket/simulation/WaitingLine" "m_sizes" "[D" (.ref c) := Fs.other W74 (Or.inr (slot_ne (Or.inl (hw _ (List.mem_of_getElem? (i := 13) rfl))) (Or.inl (hw _ (List.mem_of_getElem? (i := 22) rfl))) (by decide) (t := (.array .double)) (t' := .int) (by decide) (by decide)))
  have f78_a1 : Fld Z h74 a1 "com/example/bucket/bucket/simulation/WaitingLine" "m_size" "I" (.int sz) := Fz.other W74 (Or.inr (slot_ne (Or.inl (hw _ (List.mem_of_getElem? (i := 20) rfl))) (Or.inl (hw _ (List.mem_of_getElem? (i := 22) rfl))) (by decide) (t := .int) (t' := .int) (by decide) (by decide)))
  have f79_a1 : Fld Z h74 a1 "com/example/bucket/bucket/simulation/WaitingLine" "m_oldest" "I" (.int ((ol + (1 : Int32)) &&& ((Int32.ofNat 16) - (1 : Int32)))) := Fo.same W74
  have f80_b : own_K .double Z h74 b .double 16 ga := Va.other W74 (Ne.symm n1)
  have f81_c : own_K .double Z h74 c .double 16 gs := Vs.other W74 (Ne.symm n2)
  have Z82 : n0 ≤ h74.size := Nat.le_trans Z0 (Keep.of_wr W74).1
  have K82 : Keep h0 h74 [a1] := (Keep.refl h0 [a1]).wr W74 (Or.inl (List.mem_of_getElem? (i := 0) rfl))
  have N82 := Fr.snoc X74 N0 g1
  refine own_by st74 ?_
  show own_R p.tables e below _ (T74.setTop (mkF m 18 #[.val (.ref a1)] []))
  refine own_by (fun _ kZ => XS.aloadN X74.here hx rfl (hb hby d4_18) rfl rfl kZ) ?_
  show own_R p.tables e below _ (T74.setTop (mkF m 19 #[.val (.ref a1)] [(.ref a1)]))
  refine own_by (fun _ kZ => XS.dup X74.here hx rfl (hb hby d4_19) rfl rfl kZ) ?_
  show own_R p.tables e below _ (T74.setTop (mkF m 20 #[.val (.ref a1)] [(.ref a1), (.ref a1)]))
  obtain ⟨T83, X83, e83, st83⟩ := getF X74 hx hZ hown (host := "") (Or.inl (hw _ (List.mem_of_getElem? (i := 19) rfl))) Via.refl e74 f78_a1 (g := (mkF m 20 #[.val (.ref a1)] [(.ref a1), (.ref a1)])) rfl rfl (hb hby d4_20)
  refine own_by st83 ?_
  show own_R p.tables e below _ (T83.setTop (mkF m 23 #[.val (.ref a1)] [(.int sz), (.ref a1)]))
  refine own_by (fun _ kZ => XS.iconst X83.here hx rfl (hb hby d4_23) kZ) ?_
  show own_R p.tables e below _ (T83.setTop (mkF m 24 #[.val (.ref a1)] [(.int (1 : Int32)), (.int sz), (.ref a1)]))
  refine own_by (fun _ kZ => XS.isub X83.here hx rfl (hb hby d4_24) rfl kZ) ?_
  show own_R p.tables e below _ (T83.setTop (mkF m 25 #[.val (.ref a1)] [(.int (sz - (1 : Int32))), (.ref a1)]))
  obtain ⟨T84, h84, X84, e84, W84, st84⟩ := putF X83 hx hZ hown (host := "") (Or.inl (hw _ (List.mem_of_getElem? (i := 19) rfl))) Via.refl e83 f78_a1 f75_a1 (Or.inl (hw _ (List.mem_of_getElem? (i := 20) rfl))) (hw _ (List.mem_of_getElem? (i := 1) rfl)) (ty := .int) (by decide) rfl rfl (g := (mkF m 25 #[.val (.ref a1)] [(.int (sz - (1 : Int32))), (.ref a1)])) rfl rfl (hb hby d4_25)
  have f85_a1 : Exa Z h84 a1 "com/example/bucket/bucket/simulation/WaitingLine" := f75_a1.wr W84
  have f86_a1 : Fld Z h84 a1 "com/example/bucket/bucket/simulation/WaitingLine" "m_arrivals" "[D" (.ref b) := f76_a1.other W84 (Or.inr (slot_ne (Or.inl (hw _ (List.mem_of_getElem? (i := 11) rfl))) (Or.inl (hw _ (List.mem_of_getElem? (i := 20) rfl))) (by decide) (t := (.array .double)) (t' := .int) (by decide) (by decide)))
  have f87_a1 : Fld Z h84 a1 "com/example/bucket/bucket/simulation/WaitingLine" "m_sizes" "[D" (.ref c) := f77_a1.other W84 (Or.inr (slot_ne (Or.inl (hw _ (List.mem_of_getElem? (i := 13) rfl))) (Or.inl (hw _ (List.mem_of_getElem? (i := 20) rfl))) (by decide) (t := (.array .double)) (t' := .int) (by decide) (by decide)))
  have f88_a1 : Fld Z h84 a1 "com/example/bucket/bucket/simulation/WaitingLine" "m_size" "I" (.int (sz - (1 : Int32))) := f78_a1.same W84
  have f89_a1 : Fld Z h84 a1 "com/example/bucket/bucket/simulation/WaitingLine" "m_oldest" "I" (.int ((ol + (1 : Int32)) &&& ((Int32.ofNat 16) - (1 : Int32)))) := f79_a1.other W84 (Or.inr (slot_ne (Or.inl (hw _ (List.mem_of_getElem? (i := 22) rfl))) (Or.inl (hw _ (List.mem_of_getElem? (i := 20) rfl))) (by decide) (t := .int) (t' := .int) (by decide) (by decide)))
  have f90_b : own_K .double Z h84 b .double 16 ga := f80_b.other W84 (Ne.symm n1)
  have f91_c : own_K .double Z h84 c .double 16 gs := f81_c.other W84 (Ne.symm n2)
  have Z92 : n0 ≤ h84.size := Nat.le_trans Z82 (Keep.of_wr W84).1
  have K92 : Keep h0 h84 [a1] := K82.wr W84 (Or.inl (List.mem_of_getElem? (i := 0) rfl))
  have N92 := Fr.snoc X84 N82 g1
  refine own_by st84 ?_
  show own_R p.tables e below _ (T84.setTop (mkF m 28 #[.val (.ref a1)] []))
  obtain ⟨fs, hr, hrun, hended, hW, hsame⟩ := X84.leave (v := none) (fun _ => rfl)
  refine own_end ⟨_, _, ?_, hrun, hended, _, _, rfl, ?_, ⟨_, rfl⟩, hW, hsame.mono (by decide) (by decide)⟩
  · exact X84.returnOut hx Bd.returns (hb hby d4_28) hr
  · show Q4 Z a1 b c sz ol ga gs h0 n0 _ T84.heap _
    rw [e84]
    exact ⟨rfl, N92, K92, ⟨f85_a1, f86_a1, f87_a1, f88_a1, f89_a1, f90_b, f91_c, n1, n2, n3, g1, g2, g3⟩⟩
theorem ef_5 (m : MethodId) (a1 : Addr) : entryFrame m #[(.ref a1)] 1 = mkF m 0 #[.val (.ref a1)] [] := by first | (simp [entryFrame, mkF, argsToLocals, Value.category]; done) | rfl
def Q5 (Z : State) (a1 : Addr) (b c : Addr) (sz ol : Int32) (ga gs : Nat → UInt64) (h0 : Heap) (n0 : Nat) (v : Option Value) (h : Heap) (L : List Loc) : Prop := v = some (.int sz) ∧ Fr n0 L ∧ h = h0
set_option maxRecDepth 65536 in
set_option maxHeartbeats 40000000 in
theorem rm5 (l : Launch) (Z : State) (a0 : Array Value) (hw : ∀ d ∈ tables_1, d.before a0 Z = true) (ws : List Jvm.Cond) (a1 : Addr) (b c : Addr) (sz ol : Int32) (ga gs : Nat → UInt64) (h0 : Heap) (n0 : Nat) (Z0 : n0 ≤ h0.size) (W : own_WL Z h0 n0 a1 b c sz ol ga gs) :
    MetFree l (⟨"com/example/bucket/bucket/simulation/WaitingLine", "size", "()I"⟩ : MethodName) (head1 (Jvm.Cond.code (⟨"com/example/bucket/bucket/simulation/WaitingLine", "size", "()I"⟩ : MethodName) prog_76_method_2_code 1 (some .int) :: ws) ({ frames := 0, cells := 0, slots := 0, locals := 0 } : Room)) (fun a U => a = #[(.ref a1)] ∧ Z.Warmed39 U.vm ∧ U.heap = h0) (fun _ _ _ _ _ => True) (fun _ U o U' => ∃ v L, o = .returned v ∧ Q5 Z a1 b c sz ol ga gs h0 n0 v U'.heap L ∧ FrameEnd U o U' L ({ frames := 0, cells := 0, slots := 0, locals := 0 } : Room).cells ({ frames := 0, cells := 0, slots := 0, locals := 0 } : Room).slots) := by
  refine MetFree.of_bodySF (plainFor_of_name pn_5) hisR ?_
  intro p e s m args below meth cd s₁ Bd hml0 hP hK
  obtain ⟨rfl, hZ, hh⟩ := hP
  have hx := Bd.exec
  have hby := Bd.bytes
  have hml : cd.maxLocals = 1 := hml0
  have hown : s.vm.findClass "com/example/bucket/bucket/simulation/WaitingLine" = some m.cls := findClass_of_methodNamed Bd.named
  have hnm := (name_of_methodNamed Bd.named Bd.method).1
  have X0 : Stand p l e ({ frames := 0, cells := 0, slots := 0, locals := 0 } : Room) s m #[(.ref a1)] below meth cd s₁ [] 0 0 := Stand.of_body Bd
  have e0 : s₁.heap = h0 := by rw [← hh, Bd.state]; rfl
  have N0 := Fr.nil n0
  show own_R p.tables e below _ (s₁.setTop (entryFrame m #[(.ref a1)] 1))
  refine own_by (fun t kZ => castTop (ef_5 m a1) kZ) ?_
  show own_R p.tables e below _ (s₁.setTop (mkF m 0 #[.val (.ref a1)] []))
  obtain ⟨Ex, Fa, Fs, Fz, Fo, Va, Vs, n1, n2, n3, g1, g2, g3⟩ := W
  refine own_by (fun _ kZ => XS.aloadN X0.here hx rfl (hb hby d5_0) rfl rfl kZ) ?_
  show own_R p.tables e below _ (s₁.setTop (mkF m 1 #[.val (.ref a1)] [(.ref a1)]))
  obtain ⟨T93, X93, e93, st93⟩ := getF X0 hx hZ hown (host := "") (Or.inl (hw _ (List.mem_of_getElem? (i := 19) rfl))) Via.refl e0 Fz (g := (mkF m 1 #[.val (.ref a1)] [(.ref a1)])) rfl rfl (hb hby d5_1)
  refine own_by st93 ?_
  show own_R p.tables e below _ (T93.setTop (mkF m 4 #[.val (.ref a1)] [(.int sz)]))
  obtain ⟨fs, hr, hrun, hended, hW, hsame⟩ := X93.leave (v := some (.int sz)) (fun h => by rw [Bd.returns] at h; cases h)
  refine own_end ⟨_, _, ?_, hrun, hended, _, _, rfl, ?_, ⟨_, rfl⟩, hW, hsame.mono (by decide) (by decide)⟩
  · exact own_retI X93 hx Bd.returns (hb hby d5_4) hr
  · show Q5 Z a1 b c sz ol ga gs h0 n0 _ T93.heap _
    rw [e93]
    exact ⟨rfl, N0, rfl⟩
theorem ef_6 (m : MethodId) (a1 : Addr) : entryFrame m #[(.ref a1)] 1 = mkF m 0 #[.val (.ref a1)] [] := by first | (simp [entryFrame, mkF, argsToLocals, Value.category]; done) | rfl
def Q6 (Z : State) (a1 : Addr) (b c : Addr) (sz ol : Int32) (ga gs : Nat → UInt64) (i : Nat) (h0 : Heap) (n0 : Nat) (v : Option Value) (h : Heap) (L : List Loc) : Prop := v = some (.double (ga i)) ∧ Fr n0 L ∧ h = h0
set_option maxRecDepth 65536 in
set_option maxHeartbeats 40000000 in
theorem rm6 (l : Launch) (Z : State) (a0 : Array Value) (hw : ∀ d ∈ tables_1, d.before a0 Z = true) (ws : List Jvm.Cond) (a1 : Addr) (b c : Addr) (sz ol : Int32) (ga gs : Nat → UInt64) (i : Nat) (h0 : Heap) (n0 : Nat) (Z0 : n0 ≤ h0.size) (W : own_WL Z h0 n0 a1 b c sz ol ga gs) (hi : ol = Int32.ofNat i) (li : i < 16) :
    MetFree l (⟨"com/example/bucket/bucket/simulation/WaitingLine", "oldestArrival", "()D"⟩ : MethodName) (head1 (Jvm.Cond.code (⟨"com/example/bucket/bucket/simulation/WaitingLine", "oldestArrival", "()D"⟩ : MethodName) prog_76_method_4_code 1 (some .double) :: ws) ({ frames := 0, cells := 0, slots := 0, locals := 0 } : Room)) (fun a U => a = #[(.ref a1)] ∧ Z.Warmed39 U.vm ∧ U.heap = h0) (fun _ _ _ _ _ => True) (fun _ U o U' => ∃ v L, o = .returned v ∧ Q6 Z a1 b c sz ol ga gs i h0 n0 v U'.heap L ∧ FrameEnd U o U' L ({ frames := 0, cells := 0, slots := 0, locals := 0 } : Room).cells ({ frames := 0, cells := 0, slots := 0, locals := 0 } : Room).slots) := by
  refine MetFree.of_bodySF (plainFor_of_name pn_6) hisR ?_
  intro p e s m args below meth cd s₁ Bd hml0 hP hK
  obtain ⟨rfl, hZ, hh⟩ := hP
  have hx := Bd.exec
  have hby := Bd.bytes
  have hml : cd.maxLocals = 1 := hml0
  have hown : s.vm.findClass "com/example/bucket/bucket/simulation/WaitingLine" = some m.cls := findClass_of_methodNamed Bd.named
  have hnm := (name_of_methodNamed Bd.named Bd.method).1
  have X0 : Stand p l e ({ frames := 0, cells := 0, slots := 0, locals := 0 } : Room) s m #[(.ref a1)] below meth cd s₁ [] 0 0 := Stand.of_body Bd
  have e0 : s₁.heap = h0 := by rw [← hh, Bd.state]; rfl
  have N0 := Fr.nil n0
  show own_R p.tables e below _ (s₁.setTop (entryFrame m #[(.ref a1)] 1))
  refine own_by (fun t kZ => castTop (ef_6 m a1) kZ) ?_
  show own_R p.tables e below _ (s₁.setTop (mkF m 0 #[.val (.ref a1)] []))
  subst hi
  obtain ⟨Ex, Fa, Fs, Fz, Fo, Va, Vs, n1, n2, n3, g1, g2, g3⟩ := W
  refine own_by (fun _ kZ => XS.aloadN X0.here hx rfl (hb hby d6_0) rfl rfl kZ) ?_
  show own_R p.tables e below _ (s₁.setTop (mkF m 1 #[.val (.ref a1)] [(.ref a1)]))
  obtain ⟨T94, X94, e94, st94⟩ := getF X0 hx hZ hown (host := "") (Or.inl (hw _ (List.mem_of_getElem? (i := 10) rfl))) Via.refl e0 Fa (g := (mkF m 1 #[.val (.ref a1)] [(.ref a1)])) rfl rfl (hb hby d6_1)
  refine own_by st94 ?_
  show own_R p.tables e below _ (T94.setTop (mkF m 4 #[.val (.ref a1)] [(.ref b)]))
  refine own_by (fun _ kZ => XS.aloadN X94.here hx rfl (hb hby d6_4) rfl rfl kZ) ?_
  show own_R p.tables e below _ (T94.setTop (mkF m 5 #[.val (.ref a1)] [(.ref a1), (.ref b)]))
  obtain ⟨T95, X95, e95, st95⟩ := getF X94 hx hZ hown (host := "") (Or.inl (hw _ (List.mem_of_getElem? (i := 21) rfl))) Via.refl e94 Fo (g := (mkF m 5 #[.val (.ref a1)] [(.ref a1), (.ref b)])) rfl rfl (hb hby d6_5)
  refine own_by st95 ?_
  show own_R p.tables e below _ (T95.setTop (mkF m 8 #[.val (.ref a1)] [(.int (Int32.ofNat i)), (.ref b)]))
  obtain ⟨cl96, Ar96, hin96, hat96⟩ := Va.rd (i := (Int32.ofNat i)) (p := i) (own_clamp (by omega)) (own_nn (by omega)) li
  refine own_by (fun _ kZ => own_daload X95 hx (j := (Int32.ofNat i)) (v := (.double (ga i))) (by rw [e95]; exact Ar96.1) (State.isArrayOf_alike hZ.alike Ar96.2.1) Ar96.2.2 hin96 hat96 (g := (mkF m 8 #[.val (.ref a1)] [(.int (Int32.ofNat i)), (.ref b)])) rfl rfl (hb hby d6_8) _ kZ) ?_
  show own_R p.tables e below _ (T95.setTop (mkF m 9 #[.val (.ref a1)] [(.double (ga i))]))
  obtain ⟨fs, hr, hrun, hended, hW, hsame⟩ := X95.leave (v := some (.double (ga i))) (fun h => by rw [Bd.returns] at h; cases h)
  refine own_end ⟨_, _, ?_, hrun, hended, _, _, rfl, ?_, ⟨_, rfl⟩, hW, hsame.mono (by decide) (by decide)⟩
  · exact own_retD X95 hx Bd.returns (hb hby d6_9) hr
  · show Q6 Z a1 b c sz (Int32.ofNat i) ga gs i h0 n0 _ T95.heap _
    rw [e95]
    exact ⟨rfl, N0, rfl⟩
theorem ef_7 (m : MethodId) (a1 : Addr) : entryFrame m #[(.ref a1)] 1 = mkF m 0 #[.val (.ref a1)] [] := by first | (simp [entryFrame, mkF, argsToLocals, Value.category]; done) | rfl
def Q7 (Z : State) (a1 : Addr) (b c : Addr) (sz ol : Int32) (ga gs : Nat → UInt64) (i : Nat) (h0 : Heap) (n0 : Nat) (v : Option Value) (h : Heap) (L : List Loc) : Prop := v = some (.double (gs i)) ∧ Fr n0 L ∧ h = h0
set_option maxRecDepth 65536 in
set_option maxHeartbeats 40000000 in
theorem rm7 (l : Launch) (Z : State) (a0 : Array Value) (hw : ∀ d ∈ tables_1, d.before a0 Z = true) (ws : List Jvm.Cond) (a1 : Addr) (b c : Addr) (sz ol : Int32) (ga gs : Nat → UInt64) (i : Nat) (h0 : Heap) (n0 : Nat) (Z0 : n0 ≤ h0.size) (W : own_WL Z h0 n0 a1 b c sz ol ga gs) (hi : ol = Int32.ofNat i) (li : i < 16) :
    MetFree l (⟨"com/example/bucket/bucket/simulation/WaitingLine", "oldestSize", "()D"⟩ : MethodName) (head1 (Jvm.Cond.code (⟨"com/example/bucket/bucket/simulation/WaitingLine", "oldestSize", "()D"⟩ : MethodName) prog_76_method_5_code 1 (some .double) :: ws) ({ frames := 0, cells := 0, slots := 0, locals := 0 } : Room)) (fun a U => a = #[(.ref a1)] ∧ Z.Warmed39 U.vm ∧ U.heap = h0) (fun _ _ _ _ _ => True) (fun _ U o U' => ∃ v L, o = .returned v ∧ Q7 Z a1 b c sz ol ga gs i h0 n0 v U'.heap L ∧ FrameEnd U o U' L ({ frames := 0, cells := 0, slots := 0, locals := 0 } : Room).cells ({ frames := 0, cells := 0, slots := 0, locals := 0 } : Room).slots) := by
  refine MetFree.of_bodySF (plainFor_of_name pn_7) hisR ?_
  intro p e s m args below meth cd s₁ Bd hml0 hP hK
  obtain ⟨rfl, hZ, hh⟩ := hP
  have hx := Bd.exec
  have hby := Bd.bytes
  have hml : cd.maxLocals = 1 := hml0
  have hown : s.vm.findClass "com/example/bucket/bucket/simulation/WaitingLine" = some m.cls := findClass_of_methodNamed Bd.named
  have hnm := (name_of_methodNamed Bd.named Bd.method).1
  have X0 : Stand p l e ({ frames := 0, cells := 0, slots := 0, locals := 0 } : Room) s m #[(.ref a1)] below meth cd s₁ [] 0 0 := Stand.of_body Bd
  have e0 : s₁.heap = h0 := by rw [← hh, Bd.state]; rfl
  have N0 := Fr.nil n0
  show own_R p.tables e below _ (s₁.setTop (entryFrame m #[(.ref a1)] 1))
  refine own_by (fun t kZ => castTop (ef_7 m a1) kZ) ?_
  show own_R p.tables e below _ (s₁.setTop (mkF m 0 #[.val (.ref a1)] []))
  subst hi
  obtain ⟨Ex, Fa, Fs, Fz, Fo, Va, Vs, n1, n2, n3, g1, g2, g3⟩ := W
  refine own_by (fun _ kZ => XS.aloadN X0.here hx rfl (hb hby d7_0) rfl rfl kZ) ?_
  show own_R p.tables e below _ (s₁.setTop (mkF m 1 #[.val (.ref a1)] [(.ref a1)]))
  obtain ⟨T97, X97, e97, st97⟩ := getF X0 hx hZ hown (host := "") (Or.inl (hw _ (List.mem_of_getElem? (i := 12) rfl))) Via.refl e0 Fs (g := (mkF m 1 #[.val (.ref a1)] [(.ref a1)])) rfl rfl (hb hby d7_1)
  refine own_by st97 ?_
  show own_R p.tables e below _ (T97.setTop (mkF m 4 #[.val (.ref a1)] [(.ref c)]))
  refine own_by (fun _ kZ => XS.aloadN X97.here hx rfl (hb hby d7_4) rfl rfl kZ) ?_
  show own_R p.tables e below _ (T97.setTop (mkF m 5 #[.val (.ref a1)] [(.ref a1), (.ref c)]))
  obtain ⟨T98, X98, e98, st98⟩ := getF X97 hx hZ hown (host := "") (Or.inl (hw _ (List.mem_of_getElem? (i := 21) rfl))) Via.refl e97 Fo (g := (mkF m 5 #[.val (.ref a1)] [(.ref a1), (.ref c)])) rfl rfl (hb hby d7_5)
  refine own_by st98 ?_
  show own_R p.tables e below _ (T98.setTop (mkF m 8 #[.val (.ref a1)] [(.int (Int32.ofNat i)), (.ref c)]))
  obtain ⟨cl99, Ar99, hin99, hat99⟩ := Vs.rd (i := (Int32.ofNat i)) (p := i) (own_clamp (by omega)) (own_nn (by omega)) li
  refine own_by (fun _ kZ => own_daload X98 hx (j := (Int32.ofNat i)) (v := (.double (gs i))) (by rw [e98]; exact Ar99.1) (State.isArrayOf_alike hZ.alike Ar99.2.1) Ar99.2.2 hin99 hat99 (g := (mkF m 8 #[.val (.ref a1)] [(.int (Int32.ofNat i)), (.ref c)])) rfl rfl (hb hby d7_8) _ kZ) ?_
  show own_R p.tables e below _ (T98.setTop (mkF m 9 #[.val (.ref a1)] [(.double (gs i))]))
  obtain ⟨fs, hr, hrun, hended, hW, hsame⟩ := X98.leave (v := some (.double (gs i))) (fun h => by rw [Bd.returns] at h; cases h)
  refine own_end ⟨_, _, ?_, hrun, hended, _, _, rfl, ?_, ⟨_, rfl⟩, hW, hsame.mono (by decide) (by decide)⟩
  · exact own_retD X98 hx Bd.returns (hb hby d7_9) hr
  · show Q7 Z a1 b c sz (Int32.ofNat i) ga gs i h0 n0 _ T98.heap _
    rw [e98]
    exact ⟨rfl, N0, rfl⟩
theorem ef_0 (m : MethodId) (p1 : Int32) (p2 : Int32) (p3 : Int32) (p4 : Int32) (p5 : Int32) (p6 : Int32) : entryFrame m #[(.int p1), (.int p2), (.int p3), (.int p4), (.int p5), (.int p6)] maxLocals = mkF m 0 #[.val (.int p1), .val (.int p2), .val (.int p3), .val (.int p4), .val (.int p5), .val (.int p6), .unset, .unset, .unset, .unset, .unset, .unset, .unset, .unset, .unset, .unset, .unset, .unset, .unset, .unset, .unset, .unset, .unset, .unset] [] := by first | (simp [entryFrame, mkF, argsToLocals, Value.category, maxLocals]; done) | rfl
def Q0 (Z : State) (p1 : Int32) (p2 : Int32) (p3 : Int32) (p4 : Int32) (p5 : Int32) (p6 : Int32)  (h0 : Heap) (n0 : Nat) (v : Option Value) (h : Heap) (L : List Loc) : Prop := v = some (.int 1) ∧ Fr n0 L
set_option maxRecDepth 65536 in
set_option maxHeartbeats 40000000 in
theorem rm0 (l : Launch) (Z : State) (a0 : Array Value) (hw : ∀ d ∈ tables_1, d.before a0 Z = true) (ws : List Jvm.Cond) (p1 : Int32) (p2 : Int32) (p3 : Int32) (p4 : Int32) (p5 : Int32) (p6 : Int32)  (h0 : Heap) (n0 : Nat) (Z0 : n0 ≤ h0.size)  :
    MetFree l x (head1 (Jvm.Cond.code x code maxLocals ret :: ws) room_1) (fun a U => a = #[(.int p1), (.int p2), (.int p3), (.int p4), (.int p5), (.int p6)] ∧ Z.Warmed39 U.vm ∧ U.heap = h0) (fun _ _ _ _ _ => True) (fun _ U o U' => ∃ v L, o = .returned v ∧ Q0 Z p1 p2 p3 p4 p5 p6 h0 n0 v U'.heap L ∧ FrameEnd U o U' L room_1.cells room_1.slots) := by
  refine MetFree.of_bodySF (plainFor_of_name pn_0) hisR ?_
  intro p e s m args below meth cd s₁ Bd hml0 hP hK
  obtain ⟨rfl, hZ, hh⟩ := hP
  have hx := Bd.exec
  have hby := Bd.bytes
  have hml : cd.maxLocals = 24 := hml0
  have hown : s.vm.findClass "com/example/bucket/bucket/simulation/WaitingLineRemoveOldestPinLaw" = some m.cls := findClass_of_methodNamed Bd.named
  have hnm := (name_of_methodNamed Bd.named Bd.method).1
  have X0 : Stand p l e room_1 s m #[(.int p1), (.int p2), (.int p3), (.int p4), (.int p5), (.int p6)] below meth cd s₁ [] 0 0 := Stand.of_body Bd
  have e0 : s₁.heap = h0 := by rw [← hh, Bd.state]; rfl
  have N0 := Fr.nil n0
  show own_R p.tables e below _ (s₁.setTop (entryFrame m #[(.int p1), (.int p2), (.int p3), (.int p4), (.int p5), (.int p6)] maxLocals))
  refine own_by (fun t kZ => castTop (ef_0 m p1 p2 p3 p4 p5 p6) kZ) ?_
  show own_R p.tables e below _ (s₁.setTop (mkF m 0 #[.val (.int p1), .val (.int p2), .val (.int p3), .val (.int p4), .val (.int p5), .val (.int p6), .unset, .unset, .unset, .unset, .unset, .unset, .unset, .unset, .unset, .unset, .unset, .unset, .unset, .unset, .unset, .unset, .unset, .unset] []))
  refine own_by (fun _ kZ => XS.iloadN X0.here hx rfl (hb hby at_0) rfl kZ) ?_
  show own_R p.tables e below _ (s₁.setTop (mkF m 1 #[.val (.int p1), .val (.int p2), .val (.int p3), .val (.int p4), .val (.int p5), .val (.int p6), .unset, .unset, .unset, .unset, .unset, .unset, .unset, .unset, .unset, .unset, .unset, .unset, .unset, .unset, .unset, .unset, .unset, .unset] [(.int p1)]))
  refine own_by (fun _ kZ => own_i2d X0.here hx rfl (hb hby at_1) rfl kZ) ?_
  show own_R p.tables e below _ (s₁.setTop (mkF m 2 #[.val (.int p1), .val (.int p2), .val (.int p3), .val (.int p4), .val (.int p5), .val (.int p6), .unset, .unset, .unset, .unset, .unset, .unset, .unset, .unset, .unset, .unset, .unset, .unset, .unset, .unset, .unset, .unset, .unset, .unset] [(.double (FP.i2d p1))]))
  refine own_by (fun _ kZ => own_dstore X0.here hx rfl (hb hby at_2) rfl (l' := #[.val (.int p1), .val (.int p2), .val (.int p3), .val (.int p4), .val (.int p5), .val (.int p6), .val (.double (FP.i2d p1)), .second, .unset, .unset, .unset, .unset, .unset, .unset, .unset, .unset, .unset, .unset, .unset, .unset, .unset, .unset, .unset, .unset]) rfl kZ) ?_
  show own_R p.tables e below _ (s₁.setTop (mkF m 4 #[.val (.int p1), .val (.int p2), .val (.int p3), .val (.int p4), .val (.int p5), .val (.int p6), .val (.double (FP.i2d p1)), .second, .unset, .unset, .unset, .unset, .unset, .unset, .unset, .unset, .unset, .unset, .unset, .unset, .unset, .unset, .unset, .unset] []))
  refine own_by (fun _ kZ => XS.iloadN X0.here hx rfl (hb hby at_4) rfl kZ) ?_
  show own_R p.tables e below _ (s₁.setTop (mkF m 5 #[.val (.int p1), .val (.int p2), .val (.int p3), .val (.int p4), .val (.int p5), .val (.int p6), .val (.double (FP.i2d p1)), .second, .unset, .unset, .unset, .unset, .unset, .unset, .unset, .unset, .unset, .unset, .unset, .unset, .unset, .unset, .unset, .unset] [(.int p2)]))
  refine own_by (fun _ kZ => own_i2d X0.here hx rfl (hb hby at_5) rfl kZ) ?_
  show own_R p.tables e below _ (s₁.setTop (mkF m 6 #[.val (.int p1), .val (.int p2), .val (.int p3), .val (.int p4), .val (.int p5), .val (.int p6), .val (.double (FP.i2d p1)), .second, .unset, .unset, .unset, .unset, .unset, .unset, .unset, .unset, .unset, .unset, .unset, .unset, .unset, .unset, .unset, .unset] [(.double (FP.i2d p2))]))
  refine own_by (fun _ kZ => own_dstore X0.here hx rfl (hb hby at_6) rfl (l' := #[.val (.int p1), .val (.int p2), .val (.int p3), .val (.int p4), .val (.int p5), .val (.int p6), .val (.double (FP.i2d p1)), .second, .val (.double (FP.i2d p2)), .second, .unset, .unset, .unset, .unset, .unset, .unset, .unset, .unset, .unset, .unset, .unset, .unset, .unset, .unset]) rfl kZ) ?_
  show own_R p.tables e below _ (s₁.setTop (mkF m 8 #[.val (.int p1), .val (.int p2), .val (.int p3), .val (.int p4), .val (.int p5), .val (.int p6), .val (.double (FP.i2d p1)), .second, .val (.double (FP.i2d p2)), .second, .unset, .unset, .unset, .unset, .unset, .unset, .unset, .unset, .unset, .unset, .unset, .unset, .unset, .unset] []))
  refine own_by (fun _ kZ => XS.iloadN X0.here hx rfl (hb hby at_8) rfl kZ) ?_
  show own_R p.tables e below _ (s₁.setTop (mkF m 9 #[.val (.int p1), .val (.int p2), .val (.int p3), .val (.int p4), .val (.int p5), .val (.int p6), .val (.double (FP.i2d p1)), .second, .val (.double (FP.i2d p2)), .second, .unset, .unset, .unset, .unset, .unset, .unset, .unset, .unset, .unset, .unset, .unset, .unset, .unset, .unset] [(.int p3)]))
  refine own_by (fun _ kZ => own_i2d X0.here hx rfl (hb hby at_9) rfl kZ) ?_
  show own_R p.tables e below _ (s₁.setTop (mkF m 10 #[.val (.int p1), .val (.int p2), .val (.int p3), .val (.int p4), .val (.int p5), .val (.int p6), .val (.double (FP.i2d p1)), .second, .val (.double (FP.i2d p2)), .second, .unset, .unset, .unset, .unset, .unset, .unset, .unset, .unset, .unset, .unset, .unset, .unset, .unset, .unset] [(.double (FP.i2d p3))]))
  refine own_by (fun _ kZ => own_dstore X0.here hx rfl (hb hby at_10) rfl (l' := #[.val (.int p1), .val (.int p2), .val (.int p3), .val (.int p4), .val (.int p5), .val (.int p6), .val (.double (FP.i2d p1)), .second, .val (.double (FP.i2d p2)), .second, .val (.double (FP.i2d p3)), .second, .unset, .unset, .unset, .unset, .unset, .unset, .unset, .unset, .unset, .unset, .unset, .unset]) rfl kZ) ?_
  show own_R p.tables e below _ (s₁.setTop (mkF m 12 #[.val (.int p1), .val (.int p2), .val (.int p3), .val (.int p4), .val (.int p5), .val (.int p6), .val (.double (FP.i2d p1)), .second, .val (.double (FP.i2d p2)), .second, .val (.double (FP.i2d p3)), .second, .unset, .unset, .unset, .unset, .unset, .unset, .unset, .unset, .unset, .unset, .unset, .unset] []))
  refine own_by (fun _ kZ => XS.iloadN X0.here hx rfl (hb hby at_12) rfl kZ) ?_
  show own_R p.tables e below _ (s₁.setTop (mkF m 13 #[.val (.int p1), .val (.int p2), .val (.int p3), .val (.int p4), .val (.int p5), .val (.int p6), .val (.double (FP.i2d p1)), .second, .val (.double (FP.i2d p2)), .second, .val (.double (FP.i2d p3)), .second, .unset, .unset, .unset, .unset, .unset, .unset, .unset, .unset, .unset, .unset, .unset, .unset] [(.int p4)]))
  refine own_by (fun _ kZ => own_i2d X0.here hx rfl (hb hby at_13) rfl kZ) ?_
  show own_R p.tables e below _ (s₁.setTop (mkF m 14 #[.val (.int p1), .val (.int p2), .val (.int p3), .val (.int p4), .val (.int p5), .val (.int p6), .val (.double (FP.i2d p1)), .second, .val (.double (FP.i2d p2)), .second, .val (.double (FP.i2d p3)), .second, .unset, .unset, .unset, .unset, .unset, .unset, .unset, .unset, .unset, .unset, .unset, .unset] [(.double (FP.i2d p4))]))
  refine own_by (fun _ kZ => own_dstore X0.here hx rfl (hb hby at_14) rfl (l' := #[.val (.int p1), .val (.int p2), .val (.int p3), .val (.int p4), .val (.int p5), .val (.int p6), .val (.double (FP.i2d p1)), .second, .val (.double (FP.i2d p2)), .second, .val (.double (FP.i2d p3)), .second, .val (.double (FP.i2d p4)), .second, .unset, .unset, .unset, .unset, .unset, .unset, .unset, .unset, .unset, .unset]) rfl kZ) ?_
  show own_R p.tables e below _ (s₁.setTop (mkF m 16 #[.val (.int p1), .val (.int p2), .val (.int p3), .val (.int p4), .val (.int p5), .val (.int p6), .val (.double (FP.i2d p1)), .second, .val (.double (FP.i2d p2)), .second, .val (.double (FP.i2d p3)), .second, .val (.double (FP.i2d p4)), .second, .unset, .unset, .unset, .unset, .unset, .unset, .unset, .unset, .unset, .unset] []))
  refine own_by (fun _ kZ => XS.iload X0.here hx rfl (hb hby at_16) rfl kZ) ?_
  show own_R p.tables e below _ (s₁.setTop (mkF m 18 #[.val (.int p1), .val (.int p2), .val (.int p3), .val (.int p4), .val (.int p5), .val (.int p6), .val (.double (FP.i2d p1)), .second, .val (.double (FP.i2d p2)), .second, .val (.double (FP.i2d p3)), .second, .val (.double (FP.i2d p4)), .second, .unset, .unset, .unset, .unset, .unset, .unset, .unset, .unset, .unset, .unset] [(.int p5)]))
  refine own_by (fun _ kZ => own_i2d X0.here hx rfl (hb hby at_18) rfl kZ) ?_
  show own_R p.tables e below _ (s₁.setTop (mkF m 19 #[.val (.int p1), .val (.int p2), .val (.int p3), .val (.int p4), .val (.int p5), .val (.int p6), .val (.double (FP.i2d p1)), .second, .val (.double (FP.i2d p2)), .second, .val (.double (FP.i2d p3)), .second, .val (.double (FP.i2d p4)), .second, .unset, .unset, .unset, .unset, .unset, .unset, .unset, .unset, .unset, .unset] [(.double (FP.i2d p5))]))
  refine own_by (fun _ kZ => own_dstore X0.here hx rfl (hb hby at_19) rfl (l' := #[.val (.int p1), .val (.int p2), .val (.int p3), .val (.int p4), .val (.int p5), .val (.int p6), .val (.double (FP.i2d p1)), .second, .val (.double (FP.i2d p2)), .second, .val (.double (FP.i2d p3)), .second, .val (.double (FP.i2d p4)), .second, .val (.double (FP.i2d p5)), .second, .unset, .unset, .unset, .unset, .unset, .unset, .unset, .unset]) rfl kZ) ?_
  show own_R p.tables e below _ (s₁.setTop (mkF m 21 #[.val (.int p1), .val (.int p2), .val (.int p3), .val (.int p4), .val (.int p5), .val (.int p6), .val (.double (FP.i2d p1)), .second, .val (.double (FP.i2d p2)), .second, .val (.double (FP.i2d p3)), .second, .val (.double (FP.i2d p4)), .second, .val (.double (FP.i2d p5)), .second, .unset, .unset, .unset, .unset, .unset, .unset, .unset, .unset] []))
  refine own_by (fun _ kZ => XS.iload X0.here hx rfl (hb hby at_21) rfl kZ) ?_
  show own_R p.tables e below _ (s₁.setTop (mkF m 23 #[.val (.int p1), .val (.int p2), .val (.int p3), .val (.int p4), .val (.int p5), .val (.int p6), .val (.double (FP.i2d p1)), .second, .val (.double (FP.i2d p2)), .second, .val (.double (FP.i2d p3)), .second, .val (.double (FP.i2d p4)), .second, .val (.double (FP.i2d p5)), .second, .unset, .unset, .unset, .unset, .unset, .unset, .unset, .unset] [(.int p6)]))
  refine own_by (fun _ kZ => own_i2d X0.here hx rfl (hb hby at_23) rfl kZ) ?_
  show own_R p.tables e below _ (s₁.setTop (mkF m 24 #[.val (.int p1), .val (.int p2), .val (.int p3), .val (.int p4), .val (.int p5), .val (.int p6), .val (.double (FP.i2d p1)), .second, .val (.double (FP.i2d p2)), .second, .val (.double (FP.i2d p3)), .second, .val (.double (FP.i2d p4)), .second, .val (.double (FP.i2d p5)), .second, .unset, .unset, .unset, .unset, .unset, .unset, .unset, .unset] [(.double (FP.i2d p6))]))
  refine own_by (fun _ kZ => own_dstore X0.here hx rfl (hb hby at_24) rfl (l' := #[.val (.int p1), .val (.int p2), .val (.int p3), .val (.int p4), .val (.int p5), .val (.int p6), .val (.double (FP.i2d p1)), .second, .val (.double (FP.i2d p2)), .second, .val (.double (FP.i2d p3)), .second, .val (.double (FP.i2d p4)), .second, .val (.double (FP.i2d p5)), .second, .val (.double (FP.i2d p6)), .second, .unset, .unset, .unset, .unset, .unset, .unset]) rfl kZ) ?_
  show own_R p.tables e below _ (s₁.setTop (mkF m 26 #[.val (.int p1), .val (.int p2), .val (.int p3), .val (.int p4), .val (.int p5), .val (.int p6), .val (.double (FP.i2d p1)), .second, .val (.double (FP.i2d p2)), .second, .val (.double (FP.i2d p3)), .second, .val (.double (FP.i2d p4)), .second, .val (.double (FP.i2d p5)), .second, .val (.double (FP.i2d p6)), .second, .unset, .unset, .unset, .unset, .unset, .unset] []))
  obtain ⟨T100, h100, X100, e100, E100, A100, D100, -, st100⟩ := newO X0 hx hZ hown (hw _ (List.mem_of_getElem? (i := 0) rfl)) (hw _ (List.mem_of_getElem? (i := 1) rfl)) (hw _ (List.mem_of_getElem? (i := 2) rfl)) e0 (g := (mkF m 26 #[.val (.int p1), .val (.int p2), .val (.int p3), .val (.int p4), .val (.int p5), .val (.int p6), .val (.double (FP.i2d p1)), .second, .val (.double (FP.i2d p2)), .second, .val (.double (FP.i2d p3)), .second, .val (.double (FP.i2d p4)), .second, .val (.double (FP.i2d p5)), .second, .val (.double (FP.i2d p6)), .second, .unset, .unset, .unset, .unset, .unset, .unset] [])) rfl (hb hby at_26) (by decide) (by decide)
  obtain ⟨bw, g100⟩ : ∃ z, z = h0.size := ⟨_, rfl⟩
  have ge_bw : n0 ≤ bw := Nat.le_trans Z0 (Nat.le_of_eq g100.symm)
  rw [← g100] at A100 D100 st100
  have Z101 : n0 ≤ h100.size := Nat.le_trans Z0 E100.1
  have F100_m_arrivals : Fld Z h100 bw "com/example/bucket/bucket/simulation/WaitingLine" "m_arrivals" "[D" .null := D100 (Or.inl (hw _ (List.mem_of_getElem? (i := 11) rfl))) (ty := (.array .double)) (by decide)
  have F100_m_sizes : Fld Z h100 bw "com/example/bucket/bucket/simulation/WaitingLine" "m_sizes" "[D" .null := D100 (Or.inl (hw _ (List.mem_of_getElem? (i := 13) rfl))) (ty := (.array .double)) (by decide)
  have F100_m_size : Fld Z h100 bw "com/example/bucket/bucket/simulation/WaitingLine" "m_size" "I" (.int (0 : Int32)) := D100 (Or.inl (hw _ (List.mem_of_getElem? (i := 20) rfl))) (ty := .int) (by decide)
  have F100_m_oldest : Fld Z h100 bw "com/example/bucket/bucket/simulation/WaitingLine" "m_oldest" "I" (.int (0 : Int32)) := D100 (Or.inl (hw _ (List.mem_of_getElem? (i := 22) rfl))) (ty := .int) (by decide)
  refine own_by st100 ?_
  show own_R p.tables e below _ (T100.setTop (mkF m 29 #[.val (.int p1), .val (.int p2), .val (.int p3), .val (.int p4), .val (.int p5), .val (.int p6), .val (.double (FP.i2d p1)), .second, .val (.double (FP.i2d p2)), .second, .val (.double (FP.i2d p3)), .second, .val (.double (FP.i2d p4)), .second, .val (.double (FP.i2d p5)), .second, .val (.double (FP.i2d p6)), .second, .unset, .unset, .unset, .unset, .unset, .unset] [(.ref bw)]))
  refine own_by (fun _ kZ => XS.dup X100.here hx rfl (hb hby at_29) rfl rfl kZ) ?_
  show own_R p.tables e below _ (T100.setTop (mkF m 30 #[.val (.int p1), .val (.int p2), .val (.int p3), .val (.int p4), .val (.int p5), .val (.int p6), .val (.double (FP.i2d p1)), .second, .val (.double (FP.i2d p2)), .second, .val (.double (FP.i2d p3)), .second, .val (.double (FP.i2d p4)), .second, .val (.double (FP.i2d p5)), .second, .val (.double (FP.i2d p6)), .second, .unset, .unset, .unset, .unset, .unset, .unset] [(.ref bw), (.ref bw)]))
  obtain ⟨_, _, ⟨T102, L102, k102, n102⟩, -, X102, ⟨Lc102, hQ102, l102, y102, z102⟩, st102⟩ := X100.specialBack hx (y := (⟨"com/example/bucket/bucket/simulation/WaitingLine", "<init>", "()V"⟩ : MethodName)) rfl hown (mvT hZ (hw _ (List.mem_of_getElem? (i := 3) rfl))) (mvT hZ (hw _ (List.mem_of_getElem? (i := 4) rfl))) (mvT hZ (hw _ (List.mem_of_getElem? (i := 5) rfl))) (by decide) (backOf (W := 1) (rm1 l Z a0 hw [] bw h100 n0 Z101 ge_bw A100 F100_m_arrivals F100_m_sizes F100_m_size F100_m_oldest) hZ (hw _ (List.mem_of_getElem? (i := 5) rfl)) (hw _ (List.mem_of_getElem? (i := 2) rfl)) (by decide) (by decide)) (g := (mkF m 30 #[.val (.int p1), .val (.int p2), .val (.int p3), .val (.int p4), .val (.int p5), .val (.int p6), .val (.double (FP.i2d p1)), .second, .val (.double (FP.i2d p2)), .second, .val (.double (FP.i2d p3)), .second, .val (.double (FP.i2d p4)), .second, .val (.double (FP.i2d p5)), .second, .val (.double (FP.i2d p6)), .second, .unset, .unset, .unset, .unset, .unset, .unset] [(.ref bw), (.ref bw)])) rfl (by rw [hml]; rfl) (Steps.refl _) (a := bw) (argsL := []) (rest := [(.ref bw)]) (lenOf own_pd0 rfl) rfl (by show 2 * 0 + _ ≤ _; exact Nat.le_of_eq rfl) (hb hby at_30) (fun _ _ => ⟨rfl, e100, (by decide : 1 + 2 ≤ _), (by decide : 4 + 32 ≤ _)⟩)
  dsimp only [Pt.U, Pt.locs, Pt.cells, Pt.slots] at X102 l102 y102 z102 st102 hQ102
  subst l102 y102 z102
  obtain ⟨rfl, Nq102, K102, b, c, WL102⟩ := hQ102
  have N102 := Fr.app N0 Nq102
  have f103_bw : Exa Z T102.heap bw "com/example/bucket/bucket/simulation/WaitingLine" := A100.keep K102
  have Z104 : n0 ≤ T102.heap.size := Nat.le_trans Z101 K102.1
  refine own_by (fun _ kZ => st102.trans kZ) ?_
  show own_R p.tables e below _ (T102.setTop (mkF m 33 #[.val (.int p1), .val (.int p2), .val (.int p3), .val (.int p4), .val (.int p5), .val (.int p6), .val (.double (FP.i2d p1)), .second, .val (.double (FP.i2d p2)), .second, .val (.double (FP.i2d p3)), .second, .val (.double (FP.i2d p4)), .second, .val (.double (FP.i2d p5)), .second, .val (.double (FP.i2d p6)), .second, .unset, .unset, .unset, .unset, .unset, .unset] [(.ref bw)]))
  refine own_by (fun _ kZ => XS.astore X102.here hx rfl (hb hby at_33) rfl rfl (l' := #[.val (.int p1), .val (.int p2), .val (.int p3), .val (.int p4), .val (.int p5), .val (.int p6), .val (.double (FP.i2d p1)), .second, .val (.double (FP.i2d p2)), .second, .val (.double (FP.i2d p3)), .second, .val (.double (FP.i2d p4)), .second, .val (.double (FP.i2d p5)), .second, .val (.double (FP.i2d p6)), .second, .val (.ref bw), .unset, .unset, .unset, .unset, .unset]) rfl kZ) ?_
  show own_R p.tables e below _ (T102.setTop (mkF m 35 #[.val (.int p1), .val (.int p2), .val (.int p3), .val (.int p4), .val (.int p5), .val (.int p6), .val (.double (FP.i2d p1)), .second, .val (.double (FP.i2d p2)), .second, .val (.double (FP.i2d p3)), .second, .val (.double (FP.i2d p4)), .second, .val (.double (FP.i2d p5)), .second, .val (.double (FP.i2d p6)), .second, .val (.ref bw), .unset, .unset, .unset, .unset, .unset] []))
  refine own_by (fun _ kZ => XS.aload X102.here hx rfl (hb hby at_35) rfl rfl kZ) ?_
  show own_R p.tables e below _ (T102.setTop (mkF m 37 #[.val (.int p1), .val (.int p2), .val (.int p3), .val (.int p4), .val (.int p5), .val (.int p6), .val (.double (FP.i2d p1)), .second, .val (.double (FP.i2d p2)), .second, .val (.double (FP.i2d p3)), .second, .val (.double (FP.i2d p4)), .second, .val (.double (FP.i2d p5)), .second, .val (.double (FP.i2d p6)), .second, .val (.ref bw), .unset, .unset, .unset, .unset, .unset] [(.ref bw)]))
  refine own_by (fun _ kZ => own_dload X102.here hx rfl (hb hby at_37) rfl kZ) ?_
  show own_R p.tables e below _ (T102.setTop (mkF m 39 #[.val (.int p1), .val (.int p2), .val (.int p3), .val (.int p4), .val (.int p5), .val (.int p6), .val (.double (FP.i2d p1)), .second, .val (.double (FP.i2d p2)), .second, .val (.double (FP.i2d p3)), .second, .val (.double (FP.i2d p4)), .second, .val (.double (FP.i2d p5)), .second, .val (.double (FP.i2d p6)), .second, .val (.ref bw), .unset, .unset, .unset, .unset, .unset] [(.double (FP.i2d p1)), (.ref bw)]))
  refine own_by (fun _ kZ => own_dload X102.here hx rfl (hb hby at_39) rfl kZ) ?_
  show own_R p.tables e below _ (T102.setTop (mkF m 41 #[.val (.int p1), .val (.int p2), .val (.int p3), .val (.int p4), .val (.int p5), .val (.int p6), .val (.double (FP.i2d p1)), .second, .val (.double (FP.i2d p2)), .second, .val (.double (FP.i2d p3)), .second, .val (.double (FP.i2d p4)), .second, .val (.double (FP.i2d p5)), .second, .val (.double (FP.i2d p6)), .second, .val (.ref bw), .unset, .unset, .unset, .unset, .unset] [(.double (FP.i2d p4)), (.double (FP.i2d p1)), (.ref bw)]))
  obtain ⟨cq105, kq105, q105a, q105b, q105c⟩ := isOf hZ rfl f103_bw
  obtain ⟨_, _, ⟨T105, L105, k105, n105⟩, -, X105, ⟨Lc105, hQ105, l105, y105, z105⟩, st105⟩ := X102.virtualBack hx (y := (⟨"com/example/bucket/bucket/simulation/WaitingLine", "add", "(DD)V"⟩ : MethodName)) (z := (⟨"com/example/bucket/bucket/simulation/WaitingLine", "add", "(DD)V"⟩ : MethodName)) hown (mvT hZ (hw _ (List.mem_of_getElem? (i := 14) rfl))) (mvT hZ (hw _ (List.mem_of_getElem? (i := 15) rfl))) (notFace_of_selects (args := #[]) (mvT hZ (hw _ (List.mem_of_getElem? (i := 17) rfl)))) (mvT hZ (hw _ (List.mem_of_getElem? (i := 17) rfl))) (mvT hZ (hw _ (List.mem_of_getElem? (i := 16) rfl))) (by decide) (backOf (W := 0) (rm3 l Z a0 hw [] bw (FP.i2d p1) (FP.i2d p4) b c (0 : Int32) (0 : Int32) (fun _ => (0 : UInt64)) (fun _ => (0 : UInt64)) 0 T102.heap n0 Z104 WL102 (by decide) (by decide) (by decide)) hZ (hw _ (List.mem_of_getElem? (i := 18) rfl)) (hw _ (List.mem_of_getElem? (i := 2) rfl)) (by decide) (by decide)) q105a q105c (g := (mkF m 41 #[.val (.int p1), .val (.int p2), .val (.int p3), .val (.int p4), .val (.int p5), .val (.int p6), .val (.double (FP.i2d p1)), .second, .val (.double (FP.i2d p2)), .second, .val (.double (FP.i2d p3)), .second, .val (.double (FP.i2d p4)), .second, .val (.double (FP.i2d p5)), .second, .val (.double (FP.i2d p6)), .second, .val (.ref bw), .unset, .unset, .unset, .unset, .unset] [(.double (FP.i2d p4)), (.double (FP.i2d p1)), (.ref bw)])) rfl (by rw [hml]; rfl) (Steps.refl _) (argsL := [(.double (FP.i2d p1)), (.double (FP.i2d p4))]) (rest := []) (lenOf own_pd1 rfl) rfl (by show 2 * 0 + _ ≤ _; exact Nat.le_of_eq rfl) (hb hby at_41) (fun _ _ => ⟨rfl, rfl, (by decide : 3 + 0 ≤ _), (by decide : 36 + 0 ≤ _)⟩)
  dsimp only [Pt.U, Pt.locs, Pt.cells, Pt.slots] at X105 l105 y105 z105 st105 hQ105
  subst l105 y105 z105
  obtain ⟨rfl, Nq105, K105, WL105⟩ := hQ105
  have N105 := Fr.app N102 Nq105
  have f106_bw : Exa Z T105.heap bw "com/example/bucket/bucket/simulation/WaitingLine" := f103_bw.keep K105
  have Z107 : n0 ≤ T105.heap.size := Nat.le_trans Z104 K105.1
  refine own_by (fun _ kZ => st105.trans kZ) ?_
  show own_R p.tables e below _ (T105.setTop (mkF m 44 #[.val (.int p1), .val (.int p2), .val (.int p3), .val (.int p4), .val (.int p5), .val (.int p6), .val (.double (FP.i2d p1)), .second, .val (.double (FP.i2d p2)), .second, .val (.double (FP.i2d p3)), .second, .val (.double (FP.i2d p4)), .second, .val (.double (FP.i2d p5)), .second, .val (.double (FP.i2d p6)), .second, .val (.ref bw), .unset, .unset, .unset, .unset, .unset] []))
  refine own_by (fun _ kZ => XS.aload X105.here hx rfl (hb hby at_44) rfl rfl kZ) ?_
  show own_R p.tables e below _ (T105.setTop (mkF m 46 #[.val (.int p1), .val (.int p2), .val (.int p3), .val (.int p4), .val (.int p5), .val (.int p6), .val (.double (FP.i2d p1)), .second, .val (.double (FP.i2d p2)), .second, .val (.double (FP.i2d p3)), .second, .val (.double (FP.i2d p4)), .second, .val (.double (FP.i2d p5)), .second, .val (.double (FP.i2d p6)), .second, .val (.ref bw), .unset, .unset, .unset, .unset, .unset] [(.ref bw)]))
  refine own_by (fun _ kZ => own_dload X105.here hx rfl (hb hby at_46) rfl kZ) ?_
  show own_R p.tables e below _ (T105.setTop (mkF m 48 #[.val (.int p1), .val (.int p2), .val (.int p3), .val (.int p4), .val (.int p5), .val (.int p6), .val (.double (FP.i2d p1)), .second, .val (.double (FP.i2d p2)), .second, .val (.double (FP.i2d p3)), .second, .val (.double (FP.i2d p4)), .second, .val (.double (FP.i2d p5)), .second, .val (.double (FP.i2d p6)), .second, .val (.ref bw), .unset, .unset, .unset, .unset, .unset] [(.double (FP.i2d p2)), (.ref bw)]))
  refine own_by (fun _ kZ => own_dload X105.here hx rfl (hb hby at_48) rfl kZ) ?_
  show own_R p.tables e below _ (T105.setTop (mkF m 50 #[.val (.int p1), .val (.int p2), .val (.int p3), .val (.int p4), .val (.int p5), .val (.int p6), .val (.double (FP.i2d p1)), .second, .val (.double (FP.i2d p2)), .second, .val (.double (FP.i2d p3)), .second, .val (.double (FP.i2d p4)), .second, .val (.double (FP.i2d p5)), .second, .val (.double (FP.i2d p6)), .second, .val (.ref bw), .unset, .unset, .unset, .unset, .unset] [(.double (FP.i2d p5)), (.double (FP.i2d p2)), (.ref bw)]))
  obtain ⟨cq108, kq108, q108a, q108b, q108c⟩ := isOf hZ rfl f106_bw
  obtain ⟨_, _, ⟨T108, L108, k108, n108⟩, -, X108, ⟨Lc108, hQ108, l108, y108, z108⟩, st108⟩ := X105.virtualBack hx (y := (⟨"com/example/bucket/bucket/simulation/WaitingLine", "add", "(DD)V"⟩ : MethodName)) (z := (⟨"com/example/bucket/bucket/simulation/WaitingLine", "add", "(DD)V"⟩ : MethodName)) hown (mvT hZ (hw _ (List.mem_of_getElem? (i := 14) rfl))) (mvT hZ (hw _ (List.mem_of_getElem? (i := 15) rfl))) (notFace_of_selects (args := #[]) (mvT hZ (hw _ (List.mem_of_getElem? (i := 17) rfl)))) (mvT hZ (hw _ (List.mem_of_getElem? (i := 17) rfl))) (mvT hZ (hw _ (List.mem_of_getElem? (i := 16) rfl))) (by decide) (backOf (W := 0) (rm3 l Z a0 hw [] bw (FP.i2d p2) (FP.i2d p5) b c ((0 : Int32) + 1) (0 : Int32) (own_uk (fun _ => (0 : UInt64)) 0 (FP.i2d p1)) (own_uk (fun _ => (0 : UInt64)) 0 (FP.i2d p4)) 1 T105.heap n0 Z107 WL105 (by decide) (by decide) (by decide)) hZ (hw _ (List.mem_of_getElem? (i := 18) rfl)) (hw _ (List.mem_of_getElem? (i := 2) rfl)) (by decide) (by decide)) q108a q108c (g := (mkF m 50 #[.val (.int p1), .val (.int p2), .val (.int p3), .val (.int p4), .val (.int p5), .val (.int p6), .val (.double (FP.i2d p1)), .second, .val (.double (FP.i2d p2)), .second, .val (.double (FP.i2d p3)), .second, .val (.double (FP.i2d p4)), .second, .val (.double (FP.i2d p5)), .second, .val (.double (FP.i2d p6)), .second, .val (.ref bw), .unset, .unset, .unset, .unset, .unset] [(.double (FP.i2d p5)), (.double (FP.i2d p2)), (.ref bw)])) rfl (by rw [hml]; rfl) (Steps.refl _) (argsL := [(.double (FP.i2d p2)), (.double (FP.i2d p5))]) (rest := []) (lenOf own_pd1 rfl) rfl (by show 2 * 0 + _ ≤ _; exact Nat.le_of_eq rfl) (hb hby at_50) (fun _ _ => ⟨rfl, rfl, (by decide : 3 + 0 ≤ _), (by decide : 36 + 0 ≤ _)⟩)
  dsimp only [Pt.U, Pt.locs, Pt.cells, Pt.slots] at X108 l108 y108 z108 st108 hQ108
  subst l108 y108 z108
  obtain ⟨rfl, Nq108, K108, WL108⟩ := hQ108
  have N108 := Fr.app N105 Nq108
  have f109_bw : Exa Z T108.heap bw "com/example/bucket/bucket/simulation/WaitingLine" := f106_bw.keep K108
  have Z110 : n0 ≤ T108.heap.size := Nat.le_trans Z107 K108.1
  refine own_by (fun _ kZ => st108.trans kZ) ?_
  show own_R p.tables e below _ (T108.setTop (mkF m 53 #[.val (.int p1), .val (.int p2), .val (.int p3), .val (.int p4), .val (.int p5), .val (.int p6), .val (.double (FP.i2d p1)), .second, .val (.double (FP.i2d p2)), .second, .val (.double (FP.i2d p3)), .second, .val (.double (FP.i2d p4)), .second, .val (.double (FP.i2d p5)), .second, .val (.double (FP.i2d p6)), .second, .val (.ref bw), .unset, .unset, .unset, .unset, .unset] []))
  refine own_by (fun _ kZ => XS.aload X108.here hx rfl (hb hby at_53) rfl rfl kZ) ?_
  show own_R p.tables e below _ (T108.setTop (mkF m 55 #[.val (.int p1), .val (.int p2), .val (.int p3), .val (.int p4), .val (.int p5), .val (.int p6), .val (.double (FP.i2d p1)), .second, .val (.double (FP.i2d p2)), .second, .val (.double (FP.i2d p3)), .second, .val (.double (FP.i2d p4)), .second, .val (.double (FP.i2d p5)), .second, .val (.double (FP.i2d p6)), .second, .val (.ref bw), .unset, .unset, .unset, .unset, .unset] [(.ref bw)]))
  refine own_by (fun _ kZ => own_dload X108.here hx rfl (hb hby at_55) rfl kZ) ?_
  show own_R p.tables e below _ (T108.setTop (mkF m 57 #[.val (.int p1), .val (.int p2), .val (.int p3), .val (.int p4), .val (.int p5), .val (.int p6), .val (.double (FP.i2d p1)), .second, .val (.double (FP.i2d p2)), .second, .val (.double (FP.i2d p3)), .second, .val (.double (FP.i2d p4)), .second, .val (.double (FP.i2d p5)), .second, .val (.double (FP.i2d p6)), .second, .val (.ref bw), .unset, .unset, .unset, .unset, .unset] [(.double (FP.i2d p3)), (.ref bw)]))
  refine own_by (fun _ kZ => own_dload X108.here hx rfl (hb hby at_57) rfl kZ) ?_
  show own_R p.tables e below _ (T108.setTop (mkF m 59 #[.val (.int p1), .val (.int p2), .val (.int p3), .val (.int p4), .val (.int p5), .val (.int p6), .val (.double (FP.i2d p1)), .second, .val (.double (FP.i2d p2)), .second, .val (.double (FP.i2d p3)), .second, .val (.double (FP.i2d p4)), .second, .val (.double (FP.i2d p5)), .second, .val (.double (FP.i2d p6)), .second, .val (.ref bw), .unset, .unset, .unset, .unset, .unset] [(.double (FP.i2d p6)), (.double (FP.i2d p3)), (.ref bw)]))
  obtain ⟨cq111, kq111, q111a, q111b, q111c⟩ := isOf hZ rfl f109_bw
  obtain ⟨_, _, ⟨T111, L111, k111, n111⟩, -, X111, ⟨Lc111, hQ111, l111, y111, z111⟩, st111⟩ := X108.virtualBack hx (y := (⟨"com/example/bucket/bucket/simulation/WaitingLine", "add", "(DD)V"⟩ : MethodName)) (z := (⟨"com/example/bucket/bucket/simulation/WaitingLine", "add", "(DD)V"⟩ : MethodName)) hown (mvT hZ (hw _ (List.mem_of_getElem? (i := 14) rfl))) (mvT hZ (hw _ (List.mem_of_getElem? (i := 15) rfl))) (notFace_of_selects (args := #[]) (mvT hZ (hw _ (List.mem_of_getElem? (i := 17) rfl)))) (mvT hZ (hw _ (List.mem_of_getElem? (i := 17) rfl))) (mvT hZ (hw _ (List.mem_of_getElem? (i := 16) rfl))) (by decide) (backOf (W := 0) (rm3 l Z a0 hw [] bw (FP.i2d p3) (FP.i2d p6) b c (((0 : Int32) + 1) + 1) (0 : Int32) (own_uk (own_uk (fun _ => (0 : UInt64)) 0 (FP.i2d p1)) 1 (FP.i2d p2)) (own_uk (own_uk (fun _ => (0 : UInt64)) 0 (FP.i2d p4)) 1 (FP.i2d p5)) 2 T108.heap n0 Z110 WL108 (by decide) (by decide) (by decide)) hZ (hw _ (List.mem_of_getElem? (i := 18) rfl)) (hw _ (List.mem_of_getElem? (i := 2) rfl)) (by decide) (by decide)) q111a q111c (g := (mkF m 59 #[.val (.int p1), .val (.int p2), .val (.int p3), .val (.int p4), .val (.int p5), .val (.int p6), .val (.double (FP.i2d p1)), .second, .val (.double (FP.i2d p2)), .second, .val (.double (FP.i2d p3)), .second, .val (.double (FP.i2d p4)), .second, .val (.double (FP.i2d p5)), .second, .val (.double (FP.i2d p6)), .second, .val (.ref bw), .unset, .unset, .unset, .unset, .unset] [(.double (FP.i2d p6)), (.double (FP.i2d p3)), (.ref bw)])) rfl (by rw [hml]; rfl) (Steps.refl _) (argsL := [(.double (FP.i2d p3)), (.double (FP.i2d p6))]) (rest := []) (lenOf own_pd1 rfl) rfl (by show 2 * 0 + _ ≤ _; exact Nat.le_of_eq rfl) (hb hby at_59) (fun _ _ => ⟨rfl, rfl, (by decide : 3 + 0 ≤ _), (by decide : 36 + 0 ≤ _)⟩)
  dsimp only [Pt.U, Pt.locs, Pt.cells, Pt.slots] at X111 l111 y111 z111 st111 hQ111
  subst l111 y111 z111
  obtain ⟨rfl, Nq111, K111, WL111⟩ := hQ111
  have N111 := Fr.app N108 Nq111
  have f112_bw : Exa Z T111.heap bw "com/example/bucket/bucket/simulation/WaitingLine" := f109_bw.keep K111
  have Z113 : n0 ≤ T111.heap.size := Nat.le_trans Z110 K111.1
  refine own_by (fun _ kZ => st111.trans kZ) ?_
  show own_R p.tables e below _ (T111.setTop (mkF m 62 #[.val (.int p1), .val (.int p2), .val (.int p3), .val (.int p4), .val (.int p5), .val (.int p6), .val (.double (FP.i2d p1)), .second, .val (.double (FP.i2d p2)), .second, .val (.double (FP.i2d p3)), .second, .val (.double (FP.i2d p4)), .second, .val (.double (FP.i2d p5)), .second, .val (.double (FP.i2d p6)), .second, .val (.ref bw), .unset, .unset, .unset, .unset, .unset] []))
  refine own_by (fun _ kZ => XS.iconst X111.here hx rfl (hb hby at_62) kZ) ?_
  show own_R p.tables e below _ (T111.setTop (mkF m 63 #[.val (.int p1), .val (.int p2), .val (.int p3), .val (.int p4), .val (.int p5), .val (.int p6), .val (.double (FP.i2d p1)), .second, .val (.double (FP.i2d p2)), .second, .val (.double (FP.i2d p3)), .second, .val (.double (FP.i2d p4)), .second, .val (.double (FP.i2d p5)), .second, .val (.double (FP.i2d p6)), .second, .val (.ref bw), .unset, .unset, .unset, .unset, .unset] [(.int (1 : Int32))]))
  refine own_by (fun _ kZ => XS.iload X111.here hx rfl (hb hby at_63) rfl kZ) ?_
  show own_R p.tables e below _ (T111.setTop (mkF m 65 #[.val (.int p1), .val (.int p2), .val (.int p3), .val (.int p4), .val (.int p5), .val (.int p6), .val (.double (FP.i2d p1)), .second, .val (.double (FP.i2d p2)), .second, .val (.double (FP.i2d p3)), .second, .val (.double (FP.i2d p4)), .second, .val (.double (FP.i2d p5)), .second, .val (.double (FP.i2d p6)), .second, .val (.ref bw), .unset, .unset, .unset, .unset, .unset] [(.int p6), (.int (1 : Int32))]))
  refine own_by (fun _ kZ => XS.iconst X111.here hx rfl (hb hby at_65) kZ) ?_
  show own_R p.tables e below _ (T111.setTop (mkF m 66 #[.val (.int p1), .val (.int p2), .val (.int p3), .val (.int p4), .val (.int p5), .val (.int p6), .val (.double (FP.i2d p1)), .second, .val (.double (FP.i2d p2)), .second, .val (.double (FP.i2d p3)), .second, .val (.double (FP.i2d p4)), .second, .val (.double (FP.i2d p5)), .second, .val (.double (FP.i2d p6)), .second, .val (.ref bw), .unset, .unset, .unset, .unset, .unset] [(.int (1 : Int32)), (.int p6), (.int (1 : Int32))]))
  refine own_by (fun _ kZ => XS.iand X111.here hx rfl (hb hby at_66) rfl kZ) ?_
  show own_R p.tables e below _ (T111.setTop (mkF m 67 #[.val (.int p1), .val (.int p2), .val (.int p3), .val (.int p4), .val (.int p5), .val (.int p6), .val (.double (FP.i2d p1)), .second, .val (.double (FP.i2d p2)), .second, .val (.double (FP.i2d p3)), .second, .val (.double (FP.i2d p4)), .second, .val (.double (FP.i2d p5)), .second, .val (.double (FP.i2d p6)), .second, .val (.ref bw), .unset, .unset, .unset, .unset, .unset] [(.int (p6 &&& (1 : Int32))), (.int (1 : Int32))]))
  refine own_by (fun _ kZ => XS.iadd X111.here hx rfl (hb hby at_67) rfl kZ) ?_
  show own_R p.tables e below _ (T111.setTop (mkF m 68 #[.val (.int p1), .val (.int p2), .val (.int p3), .val (.int p4), .val (.int p5), .val (.int p6), .val (.double (FP.i2d p1)), .second, .val (.double (FP.i2d p2)), .second, .val (.double (FP.i2d p3)), .second, .val (.double (FP.i2d p4)), .second, .val (.double (FP.i2d p5)), .second, .val (.double (FP.i2d p6)), .second, .val (.ref bw), .unset, .unset, .unset, .unset, .unset] [(.int ((1 : Int32) + (p6 &&& (1 : Int32))))]))
  refine own_by (fun _ kZ => XS.iload X111.here hx rfl (hb hby at_68) rfl kZ) ?_
  show own_R p.tables e below _ (T111.setTop (mkF m 70 #[.val (.int p1), .val (.int p2), .val (.int p3), .val (.int p4), .val (.int p5), .val (.int p6), .val (.double (FP.i2d p1)), .second, .val (.double (FP.i2d p2)), .second, .val (.double (FP.i2d p3)), .second, .val (.double (FP.i2d p4)), .second, .val (.double (FP.i2d p5)), .second, .val (.double (FP.i2d p6)), .second, .val (.ref bw), .unset, .unset, .unset, .unset, .unset] [(.int p6), (.int ((1 : Int32) + (p6 &&& (1 : Int32))))]))
  refine own_by (fun _ kZ => XS.iconst X111.here hx rfl (hb hby at_70) kZ) ?_
  show own_R p.tables e below _ (T111.setTop (mkF m 71 #[.val (.int p1), .val (.int p2), .val (.int p3), .val (.int p4), .val (.int p5), .val (.int p6), .val (.double (FP.i2d p1)), .second, .val (.double (FP.i2d p2)), .second, .val (.double (FP.i2d p3)), .second, .val (.double (FP.i2d p4)), .second, .val (.double (FP.i2d p5)), .second, .val (.double (FP.i2d p6)), .second, .val (.ref bw), .unset, .unset, .unset, .unset, .unset] [(.int (1 : Int32)), (.int p6), (.int ((1 : Int32) + (p6 &&& (1 : Int32))))]))
  refine own_by (fun _ kZ => XS.iushr X111.here hx rfl (hb hby at_71) rfl kZ) ?_
  show own_R p.tables e below _ (T111.setTop (mkF m 72 #[.val (.int p1), .val (.int p2), .val (.int p3), .val (.int p4), .val (.int p5), .val (.int p6), .val (.double (FP.i2d p1)), .second, .val (.double (FP.i2d p2)), .second, .val (.double (FP.i2d p3)), .second, .val (.double (FP.i2d p4)), .second, .val (.double (FP.i2d p5)), .second, .val (.double (FP.i2d p6)), .second, .val (.ref bw), .unset, .unset, .unset, .unset, .unset] [(.int ((p6.toUInt32 >>> ((1 : Int32) &&& 31).toUInt32).toInt32)), (.int ((1 : Int32) + (p6 &&& (1 : Int32))))]))
  refine own_by (fun _ kZ => XS.iconst X111.here hx rfl (hb hby at_72) kZ) ?_
  show own_R p.tables e below _ (T111.setTop (mkF m 73 #[.val (.int p1), .val (.int p2), .val (.int p3), .val (.int p4), .val (.int p5), .val (.int p6), .val (.double (FP.i2d p1)), .second, .val (.double (FP.i2d p2)), .second, .val (.double (FP.i2d p3)), .second, .val (.double (FP.i2d p4)), .second, .val (.double (FP.i2d p5)), .second, .val (.double (FP.i2d p6)), .second, .val (.ref bw), .unset, .unset, .unset, .unset, .unset] [(.int (1 : Int32)), (.int ((p6.toUInt32 >>> ((1 : Int32) &&& 31).toUInt32).toInt32)), (.int ((1 : Int32) + (p6 &&& (1 : Int32))))]))
  refine own_by (fun _ kZ => XS.iand X111.here hx rfl (hb hby at_73) rfl kZ) ?_
  show own_R p.tables e below _ (T111.setTop (mkF m 74 #[.val (.int p1), .val (.int p2), .val (.int p3), .val (.int p4), .val (.int p5), .val (.int p6), .val (.double (FP.i2d p1)), .second, .val (.double (FP.i2d p2)), .second, .val (.double (FP.i2d p3)), .second, .val (.double (FP.i2d p4)), .second, .val (.double (FP.i2d p5)), .second, .val (.double (FP.i2d p6)), .second, .val (.ref bw), .unset, .unset, .unset, .unset, .unset] [(.int (((p6.toUInt32 >>> ((1 : Int32) &&& 31).toUInt32).toInt32) &&& (1 : Int32))), (.int ((1 : Int32) + (p6 &&& (1 : Int32))))]))
  refine own_by (fun _ kZ => XS.iadd X111.here hx rfl (hb hby at_74) rfl kZ) ?_
  show own_R p.tables e below _ (T111.setTop (mkF m 75 #[.val (.int p1), .val (.int p2), .val (.int p3), .val (.int p4), .val (.int p5), .val (.int p6), .val (.double (FP.i2d p1)), .second, .val (.double (FP.i2d p2)), .second, .val (.double (FP.i2d p3)), .second, .val (.double (FP.i2d p4)), .second, .val (.double (FP.i2d p5)), .second, .val (.double (FP.i2d p6)), .second, .val (.ref bw), .unset, .unset, .unset, .unset, .unset] [(.int (((1 : Int32) + (p6 &&& (1 : Int32))) + (((p6.toUInt32 >>> ((1 : Int32) &&& 31).toUInt32).toInt32) &&& (1 : Int32))))]))
  obtain ⟨r, h_r⟩ : ∃ z : Int32, z = (((1 : Int32) + (p6 &&& (1 : Int32))) + (((p6.toUInt32 >>> ((1 : Int32) &&& 31).toUInt32).toInt32) &&& (1 : Int32))) := ⟨_, rfl⟩
  rw [← h_r]
  show own_R p.tables e below _ (T111.setTop (mkF m 75 #[.val (.int p1), .val (.int p2), .val (.int p3), .val (.int p4), .val (.int p5), .val (.int p6), .val (.double (FP.i2d p1)), .second, .val (.double (FP.i2d p2)), .second, .val (.double (FP.i2d p3)), .second, .val (.double (FP.i2d p4)), .second, .val (.double (FP.i2d p5)), .second, .val (.double (FP.i2d p6)), .second, .val (.ref bw), .unset, .unset, .unset, .unset, .unset] [(.int r)]))
  have hr123 : r = 1 ∨ r = 2 ∨ r = 3 := h_r ▸ own_r p6
  refine own_by (fun _ kZ => XS.istore X111.here hx rfl (hb hby at_75) rfl (l' := #[.val (.int p1), .val (.int p2), .val (.int p3), .val (.int p4), .val (.int p5), .val (.int p6), .val (.double (FP.i2d p1)), .second, .val (.double (FP.i2d p2)), .second, .val (.double (FP.i2d p3)), .second, .val (.double (FP.i2d p4)), .second, .val (.double (FP.i2d p5)), .second, .val (.double (FP.i2d p6)), .second, .val (.ref bw), .val (.int r), .unset, .unset, .unset, .unset]) rfl kZ) ?_
  show own_R p.tables e below _ (T111.setTop (mkF m 77 #[.val (.int p1), .val (.int p2), .val (.int p3), .val (.int p4), .val (.int p5), .val (.int p6), .val (.double (FP.i2d p1)), .second, .val (.double (FP.i2d p2)), .second, .val (.double (FP.i2d p3)), .second, .val (.double (FP.i2d p4)), .second, .val (.double (FP.i2d p5)), .second, .val (.double (FP.i2d p6)), .second, .val (.ref bw), .val (.int r), .unset, .unset, .unset, .unset] []))
  refine own_by (fun _ kZ => XS.aload X111.here hx rfl (hb hby at_77) rfl rfl kZ) ?_
  show own_R p.tables e below _ (T111.setTop (mkF m 79 #[.val (.int p1), .val (.int p2), .val (.int p3), .val (.int p4), .val (.int p5), .val (.int p6), .val (.double (FP.i2d p1)), .second, .val (.double (FP.i2d p2)), .second, .val (.double (FP.i2d p3)), .second, .val (.double (FP.i2d p4)), .second, .val (.double (FP.i2d p5)), .second, .val (.double (FP.i2d p6)), .second, .val (.ref bw), .val (.int r), .unset, .unset, .unset, .unset] [(.ref bw)]))
  obtain ⟨cq114, kq114, q114a, q114b, q114c⟩ := isOf hZ rfl f112_bw
  obtain ⟨_, _, ⟨T114, L114, k114, n114⟩, -, X114, ⟨Lc114, hQ114, l114, y114, z114⟩, st114⟩ := X111.virtualBack hx (y := (⟨"com/example/bucket/bucket/simulation/WaitingLine", "removeOldest", "()V"⟩ : MethodName)) (z := (⟨"com/example/bucket/bucket/simulation/WaitingLine", "removeOldest", "()V"⟩ : MethodName)) hown (mvT hZ (hw _ (List.mem_of_getElem? (i := 23) rfl))) (mvT hZ (hw _ (List.mem_of_getElem? (i := 24) rfl))) (notFace_of_selects (args := #[]) (mvT hZ (hw _ (List.mem_of_getElem? (i := 26) rfl)))) (mvT hZ (hw _ (List.mem_of_getElem? (i := 26) rfl))) (mvT hZ (hw _ (List.mem_of_getElem? (i := 25) rfl))) (by decide) (backOf (W := 0) (rm4 l Z a0 hw [] bw b c ((((0 : Int32) + 1) + 1) + 1) (0 : Int32) (own_uk (own_uk (own_uk (fun _ => (0 : UInt64)) 0 (FP.i2d p1)) 1 (FP.i2d p2)) 2 (FP.i2d p3)) (own_uk (own_uk (own_uk (fun _ => (0 : UInt64)) 0 (FP.i2d p4)) 1 (FP.i2d p5)) 2 (FP.i2d p6)) T111.heap n0 Z113 WL111) hZ (hw _ (List.mem_of_getElem? (i := 27) rfl)) (hw _ (List.mem_of_getElem? (i := 2) rfl)) (by decide) (by decide)) q114a q114c (g := (mkF m 79 #[.val (.int p1), .val (.int p2), .val (.int p3), .val (.int p4), .val (.int p5), .val (.int p6), .val (.double (FP.i2d p1)), .second, .val (.double (FP.i2d p2)), .second, .val (.double (FP.i2d p3)), .second, .val (.double (FP.i2d p4)), .second, .val (.double (FP.i2d p5)), .second, .val (.double (FP.i2d p6)), .second, .val (.ref bw), .val (.int r), .unset, .unset, .unset, .unset] [(.ref bw)])) rfl (by rw [hml]; rfl) (Steps.refl _) (argsL := []) (rest := []) (lenOf own_pd0 rfl) rfl (by show 2 * 0 + _ ≤ _; exact Nat.le_of_eq rfl) (hb hby at_79) (fun _ _ => ⟨rfl, rfl, (by decide : 3 + 0 ≤ _), (by decide : 36 + 0 ≤ _)⟩)
  dsimp only [Pt.U, Pt.locs, Pt.cells, Pt.slots] at X114 l114 y114 z114 st114 hQ114
  subst l114 y114 z114
  obtain ⟨rfl, Nq114, K114, WL114⟩ := hQ114
  have N114 := Fr.app N111 Nq114
  have f115_bw : Exa Z T114.heap bw "com/example/bucket/bucket/simulation/WaitingLine" := f112_bw.keep K114
  have Z116 : n0 ≤ T114.heap.size := Nat.le_trans Z113 K114.1
  refine own_by (fun _ kZ => st114.trans kZ) ?_
  show own_R p.tables e below _ (T114.setTop (mkF m 82 #[.val (.int p1), .val (.int p2), .val (.int p3), .val (.int p4), .val (.int p5), .val (.int p6), .val (.double (FP.i2d p1)), .second, .val (.double (FP.i2d p2)), .second, .val (.double (FP.i2d p3)), .second, .val (.double (FP.i2d p4)), .second, .val (.double (FP.i2d p5)), .second, .val (.double (FP.i2d p6)), .second, .val (.ref bw), .val (.int r), .unset, .unset, .unset, .unset] []))
  refine own_by (fun _ kZ => XS.iload X114.here hx rfl (hb hby at_82) rfl kZ) ?_
  show own_R p.tables e below _ (T114.setTop (mkF m 84 #[.val (.int p1), .val (.int p2), .val (.int p3), .val (.int p4), .val (.int p5), .val (.int p6), .val (.double (FP.i2d p1)), .second, .val (.double (FP.i2d p2)), .second, .val (.double (FP.i2d p3)), .second, .val (.double (FP.i2d p4)), .second, .val (.double (FP.i2d p5)), .second, .val (.double (FP.i2d p6)), .second, .val (.ref bw), .val (.int r), .unset, .unset, .unset, .unset] [(.int r)]))
  refine own_by (fun _ kZ => XS.iconst X114.here hx rfl (hb hby at_84) kZ) ?_
  show own_R p.tables e below _ (T114.setTop (mkF m 85 #[.val (.int p1), .val (.int p2), .val (.int p3), .val (.int p4), .val (.int p5), .val (.int p6), .val (.double (FP.i2d p1)), .second, .val (.double (FP.i2d p2)), .second, .val (.double (FP.i2d p3)), .second, .val (.double (FP.i2d p4)), .second, .val (.double (FP.i2d p5)), .second, .val (.double (FP.i2d p6)), .second, .val (.ref bw), .val (.int r), .unset, .unset, .unset, .unset] [(.int (2 : Int32)), (.int r)]))
  by_cases h2 : r < (2 : Int32)
  · skip
    refine own_by (fun _ kZ => XS.icmpYes X114.here hx rfl (pc0 := 85) (pc' := 93) rfl (hb hby at_85) rfl (tlt h2).1 (by decide) (by decide) kZ) ?_
    show own_R p.tables e below _ (T114.setTop (mkF m 93 #[.val (.int p1), .val (.int p2), .val (.int p3), .val (.int p4), .val (.int p5), .val (.int p6), .val (.double (FP.i2d p1)), .second, .val (.double (FP.i2d p2)), .second, .val (.double (FP.i2d p3)), .second, .val (.double (FP.i2d p4)), .second, .val (.double (FP.i2d p5)), .second, .val (.double (FP.i2d p6)), .second, .val (.ref bw), .val (.int r), .unset, .unset, .unset, .unset] []))
    refine own_by (fun _ kZ => XS.iload X114.here hx rfl (hb hby at_93) rfl kZ) ?_
    show own_R p.tables e below _ (T114.setTop (mkF m 95 #[.val (.int p1), .val (.int p2), .val (.int p3), .val (.int p4), .val (.int p5), .val (.int p6), .val (.double (FP.i2d p1)), .second, .val (.double (FP.i2d p2)), .second, .val (.double (FP.i2d p3)), .second, .val (.double (FP.i2d p4)), .second, .val (.double (FP.i2d p5)), .second, .val (.double (FP.i2d p6)), .second, .val (.ref bw), .val (.int r), .unset, .unset, .unset, .unset] [(.int r)]))
    refine own_by (fun _ kZ => XS.iconst X114.here hx rfl (hb hby at_95) kZ) ?_
    show own_R p.tables e below _ (T114.setTop (mkF m 96 #[.val (.int p1), .val (.int p2), .val (.int p3), .val (.int p4), .val (.int p5), .val (.int p6), .val (.double (FP.i2d p1)), .second, .val (.double (FP.i2d p2)), .second, .val (.double (FP.i2d p3)), .second, .val (.double (FP.i2d p4)), .second, .val (.double (FP.i2d p5)), .second, .val (.double (FP.i2d p6)), .second, .val (.ref bw), .val (.int r), .unset, .unset, .unset, .unset] [(.int (3 : Int32)), (.int r)]))
    have hrv : r = 1 := by
      rcases hr123 with h | h | h
      · exact h
      · rw [h] at h2; exact absurd h2 (by decide)
      · rw [h] at h2; exact absurd h2 (by decide)
    refine own_by (fun _ kZ => XS.icmpYes X114.here hx rfl (pc0 := 96) (pc' := 104) rfl (hb hby at_96) rfl (tlt (by rw [hrv]; decide : r < (3 : Int32))).1 (by decide) (by decide) kZ) ?_
    show own_R p.tables e below _ (T114.setTop (mkF m 104 #[.val (.int p1), .val (.int p2), .val (.int p3), .val (.int p4), .val (.int p5), .val (.int p6), .val (.double (FP.i2d p1)), .second, .val (.double (FP.i2d p2)), .second, .val (.double (FP.i2d p3)), .second, .val (.double (FP.i2d p4)), .second, .val (.double (FP.i2d p5)), .second, .val (.double (FP.i2d p6)), .second, .val (.ref bw), .val (.int r), .unset, .unset, .unset, .unset] []))
    refine own_by (fun _ kZ => XS.aload X114.here hx rfl (hb hby at_104) rfl rfl kZ) ?_
    show own_R p.tables e below _ (T114.setTop (mkF m 106 #[.val (.int p1), .val (.int p2), .val (.int p3), .val (.int p4), .val (.int p5), .val (.int p6), .val (.double (FP.i2d p1)), .second, .val (.double (FP.i2d p2)), .second, .val (.double (FP.i2d p3)), .second, .val (.double (FP.i2d p4)), .second, .val (.double (FP.i2d p5)), .second, .val (.double (FP.i2d p6)), .second, .val (.ref bw), .val (.int r), .unset, .unset, .unset, .unset] [(.ref bw)]))
    obtain ⟨cq117, kq117, q117a, q117b, q117c⟩ := isOf hZ rfl f115_bw
    obtain ⟨_, _, ⟨T117, L117, k117, n117⟩, -, X117, ⟨Lc117, hQ117, l117, y117, z117⟩, st117⟩ := X114.virtualBack hx (y := (⟨"com/example/bucket/bucket/simulation/WaitingLine", "size", "()I"⟩ : MethodName)) (z := (⟨"com/example/bucket/bucket/simulation/WaitingLine", "size", "()I"⟩ : MethodName)) hown (mvT hZ (hw _ (List.mem_of_getElem? (i := 28) rfl))) (mvT hZ (hw _ (List.mem_of_getElem? (i := 29) rfl))) (notFace_of_selects (args := #[]) (mvT hZ (hw _ (List.mem_of_getElem? (i := 31) rfl)))) (mvT hZ (hw _ (List.mem_of_getElem? (i := 31) rfl))) (mvT hZ (hw _ (List.mem_of_getElem? (i := 30) rfl))) (by decide) (backOf (W := 0) (rm5 l Z a0 hw [] bw b c (((((0 : Int32) + 1) + 1) + 1) - 1) (((0 : Int32) + 1) &&& ((Int32.ofNat 16) - 1)) (own_uk (own_uk (own_uk (fun _ => (0 : UInt64)) 0 (FP.i2d p1)) 1 (FP.i2d p2)) 2 (FP.i2d p3)) (own_uk (own_uk (own_uk (fun _ => (0 : UInt64)) 0 (FP.i2d p4)) 1 (FP.i2d p5)) 2 (FP.i2d p6)) T114.heap n0 Z116 WL114) hZ (hw _ (List.mem_of_getElem? (i := 32) rfl)) (hw _ (List.mem_of_getElem? (i := 2) rfl)) (by decide) (by decide)) q117a q117c (g := (mkF m 106 #[.val (.int p1), .val (.int p2), .val (.int p3), .val (.int p4), .val (.int p5), .val (.int p6), .val (.double (FP.i2d p1)), .second, .val (.double (FP.i2d p2)), .second, .val (.double (FP.i2d p3)), .second, .val (.double (FP.i2d p4)), .second, .val (.double (FP.i2d p5)), .second, .val (.double (FP.i2d p6)), .second, .val (.ref bw), .val (.int r), .unset, .unset, .unset, .unset] [(.ref bw)])) rfl (by rw [hml]; rfl) (Steps.refl _) (argsL := []) (rest := []) (lenOf own_pd2 rfl) rfl (by show 2 * 0 + _ ≤ _; exact Nat.le_of_eq rfl) (hb hby at_106) (fun _ _ => ⟨rfl, rfl, (by decide : 3 + 0 ≤ _), (by decide : 36 + 0 ≤ _)⟩)
    dsimp only [Pt.U, Pt.locs, Pt.cells, Pt.slots] at X117 l117 y117 z117 st117 hQ117
    subst l117 y117 z117
    obtain ⟨rfl, Nq117, e117⟩ := hQ117
    have N117 := Fr.app N114 Nq117
    refine own_by (fun _ kZ => st117.trans kZ) ?_
    show own_R p.tables e below _ (T117.setTop (mkF m 109 #[.val (.int p1), .val (.int p2), .val (.int p3), .val (.int p4), .val (.int p5), .val (.int p6), .val (.double (FP.i2d p1)), .second, .val (.double (FP.i2d p2)), .second, .val (.double (FP.i2d p3)), .second, .val (.double (FP.i2d p4)), .second, .val (.double (FP.i2d p5)), .second, .val (.double (FP.i2d p6)), .second, .val (.ref bw), .val (.int r), .unset, .unset, .unset, .unset] [(.int (((((0 : Int32) + 1) + 1) + 1) - 1))]))
    refine own_by (fun _ kZ => XS.iconst X117.here hx rfl (hb hby at_109) kZ) ?_
    show own_R p.tables e below _ (T117.setTop (mkF m 110 #[.val (.int p1), .val (.int p2), .val (.int p3), .val (.int p4), .val (.int p5), .val (.int p6), .val (.double (FP.i2d p1)), .second, .val (.double (FP.i2d p2)), .second, .val (.double (FP.i2d p3)), .second, .val (.double (FP.i2d p4)), .second, .val (.double (FP.i2d p5)), .second, .val (.double (FP.i2d p6)), .second, .val (.ref bw), .val (.int r), .unset, .unset, .unset, .unset] [(.int (3 : Int32)), (.int (((((0 : Int32) + 1) + 1) + 1) - 1))]))
    refine own_by (fun _ kZ => XS.iload X117.here hx rfl (hb hby at_110) rfl kZ) ?_
    show own_R p.tables e below _ (T117.setTop (mkF m 112 #[.val (.int p1), .val (.int p2), .val (.int p3), .val (.int p4), .val (.int p5), .val (.int p6), .val (.double (FP.i2d p1)), .second, .val (.double (FP.i2d p2)), .second, .val (.double (FP.i2d p3)), .second, .val (.double (FP.i2d p4)), .second, .val (.double (FP.i2d p5)), .second, .val (.double (FP.i2d p6)), .second, .val (.ref bw), .val (.int r), .unset, .unset, .unset, .unset] [(.int r), (.int (3 : Int32)), (.int (((((0 : Int32) + 1) + 1) + 1) - 1))]))
    refine own_by (fun _ kZ => XS.isub X117.here hx rfl (hb hby at_112) rfl kZ) ?_
    show own_R p.tables e below _ (T117.setTop (mkF m 113 #[.val (.int p1), .val (.int p2), .val (.int p3), .val (.int p4), .val (.int p5), .val (.int p6), .val (.double (FP.i2d p1)), .second, .val (.double (FP.i2d p2)), .second, .val (.double (FP.i2d p3)), .second, .val (.double (FP.i2d p4)), .second, .val (.double (FP.i2d p5)), .second, .val (.double (FP.i2d p6)), .second, .val (.ref bw), .val (.int r), .unset, .unset, .unset, .unset] [(.int ((3 : Int32) - r)), (.int (((((0 : Int32) + 1) + 1) + 1) - 1))]))
    refine own_by (fun _ kZ => XS.icmpYes X117.here hx rfl (pc0 := 113) (pc' := 118) rfl (hb hby at_113) rfl (teq (by rw [hrv]; decide : (((((0 : Int32) + 1) + 1) + 1) - 1) = ((3 : Int32) - r))).1 (by decide) (by decide) kZ) ?_
    show own_R p.tables e below _ (T117.setTop (mkF m 118 #[.val (.int p1), .val (.int p2), .val (.int p3), .val (.int p4), .val (.int p5), .val (.int p6), .val (.double (FP.i2d p1)), .second, .val (.double (FP.i2d p2)), .second, .val (.double (FP.i2d p3)), .second, .val (.double (FP.i2d p4)), .second, .val (.double (FP.i2d p5)), .second, .val (.double (FP.i2d p6)), .second, .val (.ref bw), .val (.int r), .unset, .unset, .unset, .unset] []))
    refine own_by (fun _ kZ => XS.iload X117.here hx rfl (hb hby at_118) rfl kZ) ?_
    show own_R p.tables e below _ (T117.setTop (mkF m 120 #[.val (.int p1), .val (.int p2), .val (.int p3), .val (.int p4), .val (.int p5), .val (.int p6), .val (.double (FP.i2d p1)), .second, .val (.double (FP.i2d p2)), .second, .val (.double (FP.i2d p3)), .second, .val (.double (FP.i2d p4)), .second, .val (.double (FP.i2d p5)), .second, .val (.double (FP.i2d p6)), .second, .val (.ref bw), .val (.int r), .unset, .unset, .unset, .unset] [(.int r)]))
    refine own_by (fun _ kZ => XS.iconst X117.here hx rfl (hb hby at_120) kZ) ?_
    show own_R p.tables e below _ (T117.setTop (mkF m 121 #[.val (.int p1), .val (.int p2), .val (.int p3), .val (.int p4), .val (.int p5), .val (.int p6), .val (.double (FP.i2d p1)), .second, .val (.double (FP.i2d p2)), .second, .val (.double (FP.i2d p3)), .second, .val (.double (FP.i2d p4)), .second, .val (.double (FP.i2d p5)), .second, .val (.double (FP.i2d p6)), .second, .val (.ref bw), .val (.int r), .unset, .unset, .unset, .unset] [(.int (3 : Int32)), (.int r)]))
    refine own_by (fun _ kZ => XS.icmpYes X117.here hx rfl (pc0 := 121) (pc' := 126) rfl (hb hby at_121) rfl (feq (by rw [hrv]; decide : ¬ r = (3 : Int32))).2 (by decide) (by decide) kZ) ?_
    show own_R p.tables e below _ (T117.setTop (mkF m 126 #[.val (.int p1), .val (.int p2), .val (.int p3), .val (.int p4), .val (.int p5), .val (.int p6), .val (.double (FP.i2d p1)), .second, .val (.double (FP.i2d p2)), .second, .val (.double (FP.i2d p3)), .second, .val (.double (FP.i2d p4)), .second, .val (.double (FP.i2d p5)), .second, .val (.double (FP.i2d p6)), .second, .val (.ref bw), .val (.int r), .unset, .unset, .unset, .unset] []))
    refine own_by (fun _ kZ => XS.iload X117.here hx rfl (hb hby at_126) rfl kZ) ?_
    show own_R p.tables e below _ (T117.setTop (mkF m 128 #[.val (.int p1), .val (.int p2), .val (.int p3), .val (.int p4), .val (.int p5), .val (.int p6), .val (.double (FP.i2d p1)), .second, .val (.double (FP.i2d p2)), .second, .val (.double (FP.i2d p3)), .second, .val (.double (FP.i2d p4)), .second, .val (.double (FP.i2d p5)), .second, .val (.double (FP.i2d p6)), .second, .val (.ref bw), .val (.int r), .unset, .unset, .unset, .unset] [(.int r)]))
    refine own_by (fun _ kZ => XS.iconst X117.here hx rfl (hb hby at_128) kZ) ?_
    show own_R p.tables e below _ (T117.setTop (mkF m 129 #[.val (.int p1), .val (.int p2), .val (.int p3), .val (.int p4), .val (.int p5), .val (.int p6), .val (.double (FP.i2d p1)), .second, .val (.double (FP.i2d p2)), .second, .val (.double (FP.i2d p3)), .second, .val (.double (FP.i2d p4)), .second, .val (.double (FP.i2d p5)), .second, .val (.double (FP.i2d p6)), .second, .val (.ref bw), .val (.int r), .unset, .unset, .unset, .unset] [(.int (1 : Int32)), (.int r)]))
    refine own_by (fun _ kZ => XS.icmpNo X117.here hx rfl (hb hby at_129) rfl (teq (hrv : r = (1 : Int32))).2 kZ) ?_
    show own_R p.tables e below _ (T117.setTop (mkF m 132 #[.val (.int p1), .val (.int p2), .val (.int p3), .val (.int p4), .val (.int p5), .val (.int p6), .val (.double (FP.i2d p1)), .second, .val (.double (FP.i2d p2)), .second, .val (.double (FP.i2d p3)), .second, .val (.double (FP.i2d p4)), .second, .val (.double (FP.i2d p5)), .second, .val (.double (FP.i2d p6)), .second, .val (.ref bw), .val (.int r), .unset, .unset, .unset, .unset] []))
    refine own_by (fun _ kZ => own_dload X117.here hx rfl (hb hby at_132) rfl kZ) ?_
    show own_R p.tables e below _ (T117.setTop (mkF m 134 #[.val (.int p1), .val (.int p2), .val (.int p3), .val (.int p4), .val (.int p5), .val (.int p6), .val (.double (FP.i2d p1)), .second, .val (.double (FP.i2d p2)), .second, .val (.double (FP.i2d p3)), .second, .val (.double (FP.i2d p4)), .second, .val (.double (FP.i2d p5)), .second, .val (.double (FP.i2d p6)), .second, .val (.ref bw), .val (.int r), .unset, .unset, .unset, .unset] [(.double (FP.i2d p2))]))
    refine own_by (fun _ kZ => XS.goto X117.here hx rfl (pc0 := 134) (pc' := 139) rfl (hb hby at_134) (by decide) (by decide) kZ) ?_
    show own_R p.tables e below _ (T117.setTop (mkF m 139 #[.val (.int p1), .val (.int p2), .val (.int p3), .val (.int p4), .val (.int p5), .val (.int p6), .val (.double (FP.i2d p1)), .second, .val (.double (FP.i2d p2)), .second, .val (.double (FP.i2d p3)), .second, .val (.double (FP.i2d p4)), .second, .val (.double (FP.i2d p5)), .second, .val (.double (FP.i2d p6)), .second, .val (.ref bw), .val (.int r), .unset, .unset, .unset, .unset] [(.double (FP.i2d p2))]))
    refine own_by (fun _ kZ => own_dstore X117.here hx rfl (hb hby at_139) rfl (l' := #[.val (.int p1), .val (.int p2), .val (.int p3), .val (.int p4), .val (.int p5), .val (.int p6), .val (.double (FP.i2d p1)), .second, .val (.double (FP.i2d p2)), .second, .val (.double (FP.i2d p3)), .second, .val (.double (FP.i2d p4)), .second, .val (.double (FP.i2d p5)), .second, .val (.double (FP.i2d p6)), .second, .val (.ref bw), .val (.int r), .val (.double (FP.i2d p2)), .second, .unset, .unset]) rfl kZ) ?_
    show own_R p.tables e below _ (T117.setTop (mkF m 141 #[.val (.int p1), .val (.int p2), .val (.int p3), .val (.int p4), .val (.int p5), .val (.int p6), .val (.double (FP.i2d p1)), .second, .val (.double (FP.i2d p2)), .second, .val (.double (FP.i2d p3)), .second, .val (.double (FP.i2d p4)), .second, .val (.double (FP.i2d p5)), .second, .val (.double (FP.i2d p6)), .second, .val (.ref bw), .val (.int r), .val (.double (FP.i2d p2)), .second, .unset, .unset] []))
    refine own_by (fun _ kZ => XS.iload X117.here hx rfl (hb hby at_141) rfl kZ) ?_
    show own_R p.tables e below _ (T117.setTop (mkF m 143 #[.val (.int p1), .val (.int p2), .val (.int p3), .val (.int p4), .val (.int p5), .val (.int p6), .val (.double (FP.i2d p1)), .second, .val (.double (FP.i2d p2)), .second, .val (.double (FP.i2d p3)), .second, .val (.double (FP.i2d p4)), .second, .val (.double (FP.i2d p5)), .second, .val (.double (FP.i2d p6)), .second, .val (.ref bw), .val (.int r), .val (.double (FP.i2d p2)), .second, .unset, .unset] [(.int r)]))
    refine own_by (fun _ kZ => XS.iconst X117.here hx rfl (hb hby at_143) kZ) ?_
    show own_R p.tables e below _ (T117.setTop (mkF m 144 #[.val (.int p1), .val (.int p2), .val (.int p3), .val (.int p4), .val (.int p5), .val (.int p6), .val (.double (FP.i2d p1)), .second, .val (.double (FP.i2d p2)), .second, .val (.double (FP.i2d p3)), .second, .val (.double (FP.i2d p4)), .second, .val (.double (FP.i2d p5)), .second, .val (.double (FP.i2d p6)), .second, .val (.ref bw), .val (.int r), .val (.double (FP.i2d p2)), .second, .unset, .unset] [(.int (1 : Int32)), (.int r)]))
    refine own_by (fun _ kZ => XS.icmpNo X117.here hx rfl (hb hby at_144) rfl (teq (hrv : r = (1 : Int32))).2 kZ) ?_
    show own_R p.tables e below _ (T117.setTop (mkF m 147 #[.val (.int p1), .val (.int p2), .val (.int p3), .val (.int p4), .val (.int p5), .val (.int p6), .val (.double (FP.i2d p1)), .second, .val (.double (FP.i2d p2)), .second, .val (.double (FP.i2d p3)), .second, .val (.double (FP.i2d p4)), .second, .val (.double (FP.i2d p5)), .second, .val (.double (FP.i2d p6)), .second, .val (.ref bw), .val (.int r), .val (.double (FP.i2d p2)), .second, .unset, .unset] []))
    refine own_by (fun _ kZ => own_dload X117.here hx rfl (hb hby at_147) rfl kZ) ?_
    show own_R p.tables e below _ (T117.setTop (mkF m 149 #[.val (.int p1), .val (.int p2), .val (.int p3), .val (.int p4), .val (.int p5), .val (.int p6), .val (.double (FP.i2d p1)), .second, .val (.double (FP.i2d p2)), .second, .val (.double (FP.i2d p3)), .second, .val (.double (FP.i2d p4)), .second, .val (.double (FP.i2d p5)), .second, .val (.double (FP.i2d p6)), .second, .val (.ref bw), .val (.int r), .val (.double (FP.i2d p2)), .second, .unset, .unset] [(.double (FP.i2d p5))]))
    refine own_by (fun _ kZ => XS.goto X117.here hx rfl (pc0 := 149) (pc' := 154) rfl (hb hby at_149) (by decide) (by decide) kZ) ?_
    show own_R p.tables e below _ (T117.setTop (mkF m 154 #[.val (.int p1), .val (.int p2), .val (.int p3), .val (.int p4), .val (.int p5), .val (.int p6), .val (.double (FP.i2d p1)), .second, .val (.double (FP.i2d p2)), .second, .val (.double (FP.i2d p3)), .second, .val (.double (FP.i2d p4)), .second, .val (.double (FP.i2d p5)), .second, .val (.double (FP.i2d p6)), .second, .val (.ref bw), .val (.int r), .val (.double (FP.i2d p2)), .second, .unset, .unset] [(.double (FP.i2d p5))]))
    refine own_by (fun _ kZ => own_dstore X117.here hx rfl (hb hby at_154) rfl (l' := #[.val (.int p1), .val (.int p2), .val (.int p3), .val (.int p4), .val (.int p5), .val (.int p6), .val (.double (FP.i2d p1)), .second, .val (.double (FP.i2d p2)), .second, .val (.double (FP.i2d p3)), .second, .val (.double (FP.i2d p4)), .second, .val (.double (FP.i2d p5)), .second, .val (.double (FP.i2d p6)), .second, .val (.ref bw), .val (.int r), .val (.double (FP.i2d p2)), .second, .val (.double (FP.i2d p5)), .second]) rfl kZ) ?_
    show own_R p.tables e below _ (T117.setTop (mkF m 156 #[.val (.int p1), .val (.int p2), .val (.int p3), .val (.int p4), .val (.int p5), .val (.int p6), .val (.double (FP.i2d p1)), .second, .val (.double (FP.i2d p2)), .second, .val (.double (FP.i2d p3)), .second, .val (.double (FP.i2d p4)), .second, .val (.double (FP.i2d p5)), .second, .val (.double (FP.i2d p6)), .second, .val (.ref bw), .val (.int r), .val (.double (FP.i2d p2)), .second, .val (.double (FP.i2d p5)), .second] []))
    refine own_by (fun _ kZ => XS.aload X117.here hx rfl (hb hby at_156) rfl rfl kZ) ?_
    show own_R p.tables e below _ (T117.setTop (mkF m 158 #[.val (.int p1), .val (.int p2), .val (.int p3), .val (.int p4), .val (.int p5), .val (.int p6), .val (.double (FP.i2d p1)), .second, .val (.double (FP.i2d p2)), .second, .val (.double (FP.i2d p3)), .second, .val (.double (FP.i2d p4)), .second, .val (.double (FP.i2d p5)), .second, .val (.double (FP.i2d p6)), .second, .val (.ref bw), .val (.int r), .val (.double (FP.i2d p2)), .second, .val (.double (FP.i2d p5)), .second] [(.ref bw)]))
    obtain ⟨cq118, kq118, q118a, q118b, q118c⟩ := isOf hZ e117 f115_bw
    obtain ⟨_, _, ⟨T118, L118, k118, n118⟩, -, X118, ⟨Lc118, hQ118, l118, y118, z118⟩, st118⟩ := X117.virtualBack hx (y := (⟨"com/example/bucket/bucket/simulation/WaitingLine", "oldestArrival", "()D"⟩ : MethodName)) (z := (⟨"com/example/bucket/bucket/simulation/WaitingLine", "oldestArrival", "()D"⟩ : MethodName)) hown (mvT hZ (hw _ (List.mem_of_getElem? (i := 33) rfl))) (mvT hZ (hw _ (List.mem_of_getElem? (i := 34) rfl))) (notFace_of_selects (args := #[]) (mvT hZ (hw _ (List.mem_of_getElem? (i := 36) rfl)))) (mvT hZ (hw _ (List.mem_of_getElem? (i := 36) rfl))) (mvT hZ (hw _ (List.mem_of_getElem? (i := 35) rfl))) (by decide) (backOf (W := 0) (rm6 l Z a0 hw [] bw b c (((((0 : Int32) + 1) + 1) + 1) - 1) (((0 : Int32) + 1) &&& ((Int32.ofNat 16) - 1)) (own_uk (own_uk (own_uk (fun _ => (0 : UInt64)) 0 (FP.i2d p1)) 1 (FP.i2d p2)) 2 (FP.i2d p3)) (own_uk (own_uk (own_uk (fun _ => (0 : UInt64)) 0 (FP.i2d p4)) 1 (FP.i2d p5)) 2 (FP.i2d p6)) 1 T114.heap n0 Z116 WL114 (by decide) (by decide)) hZ (hw _ (List.mem_of_getElem? (i := 37) rfl)) (hw _ (List.mem_of_getElem? (i := 2) rfl)) (by decide) (by decide)) q118a q118c (g := (mkF m 158 #[.val (.int p1), .val (.int p2), .val (.int p3), .val (.int p4), .val (.int p5), .val (.int p6), .val (.double (FP.i2d p1)), .second, .val (.double (FP.i2d p2)), .second, .val (.double (FP.i2d p3)), .second, .val (.double (FP.i2d p4)), .second, .val (.double (FP.i2d p5)), .second, .val (.double (FP.i2d p6)), .second, .val (.ref bw), .val (.int r), .val (.double (FP.i2d p2)), .second, .val (.double (FP.i2d p5)), .second] [(.ref bw)])) rfl (by rw [hml]; rfl) (Steps.refl _) (argsL := []) (rest := []) (lenOf own_pd3 rfl) rfl (by show 2 * 0 + _ ≤ _; exact Nat.le_of_eq rfl) (hb hby at_158) (fun _ _ => ⟨rfl, e117, (by decide : 3 + 0 ≤ _), (by decide : 36 + 0 ≤ _)⟩)
    dsimp only [Pt.U, Pt.locs, Pt.cells, Pt.slots] at X118 l118 y118 z118 st118 hQ118
    subst l118 y118 z118
    obtain ⟨rfl, Nq118, e118⟩ := hQ118
    have N118 := Fr.app N117 Nq118
    refine own_by (fun _ kZ => st118.trans kZ) ?_
    show own_R p.tables e below _ (T118.setTop (mkF m 161 #[.val (.int p1), .val (.int p2), .val (.int p3), .val (.int p4), .val (.int p5), .val (.int p6), .val (.double (FP.i2d p1)), .second, .val (.double (FP.i2d p2)), .second, .val (.double (FP.i2d p3)), .second, .val (.double (FP.i2d p4)), .second, .val (.double (FP.i2d p5)), .second, .val (.double (FP.i2d p6)), .second, .val (.ref bw), .val (.int r), .val (.double (FP.i2d p2)), .second, .val (.double (FP.i2d p5)), .second] [(.double (FP.i2d p2))]))
    refine own_by (fun _ kZ => own_dload X118.here hx rfl (hb hby at_161) rfl kZ) ?_
    show own_R p.tables e below _ (T118.setTop (mkF m 163 #[.val (.int p1), .val (.int p2), .val (.int p3), .val (.int p4), .val (.int p5), .val (.int p6), .val (.double (FP.i2d p1)), .second, .val (.double (FP.i2d p2)), .second, .val (.double (FP.i2d p3)), .second, .val (.double (FP.i2d p4)), .second, .val (.double (FP.i2d p5)), .second, .val (.double (FP.i2d p6)), .second, .val (.ref bw), .val (.int r), .val (.double (FP.i2d p2)), .second, .val (.double (FP.i2d p5)), .second] [(.double (FP.i2d p2)), (.double (FP.i2d p2))]))
    refine own_by (fun _ kZ => own_dcmp X118.here hx rfl (hb hby at_163) rfl kZ) ?_
    show own_R p.tables e below _ (T118.setTop (mkF m 164 #[.val (.int p1), .val (.int p2), .val (.int p3), .val (.int p4), .val (.int p5), .val (.int p6), .val (.double (FP.i2d p1)), .second, .val (.double (FP.i2d p2)), .second, .val (.double (FP.i2d p3)), .second, .val (.double (FP.i2d p4)), .second, .val (.double (FP.i2d p5)), .second, .val (.double (FP.i2d p6)), .second, .val (.ref bw), .val (.int r), .val (.double (FP.i2d p2)), .second, .val (.double (FP.i2d p5)), .second] [(.int (cmpValue (FP.dcmp (FP.i2d p2) (FP.i2d p2)) .l))]))
    rw [show (cmpValue (FP.dcmp (FP.i2d p2) (FP.i2d p2)) .l) = (0 : Int32) from own_dd _ _]
    show own_R p.tables e below _ (T118.setTop (mkF m 164 #[.val (.int p1), .val (.int p2), .val (.int p3), .val (.int p4), .val (.int p5), .val (.int p6), .val (.double (FP.i2d p1)), .second, .val (.double (FP.i2d p2)), .second, .val (.double (FP.i2d p3)), .second, .val (.double (FP.i2d p4)), .second, .val (.double (FP.i2d p5)), .second, .val (.double (FP.i2d p6)), .second, .val (.ref bw), .val (.int r), .val (.double (FP.i2d p2)), .second, .val (.double (FP.i2d p5)), .second] [(.int (0 : Int32))]))
    refine own_by (fun _ kZ => XS.ifNo X118.here hx rfl (hb hby at_164) rfl ((if0 _ _).trans (teq (rfl : (0 : Int32) = 0)).2) kZ) ?_
    show own_R p.tables e below _ (T118.setTop (mkF m 167 #[.val (.int p1), .val (.int p2), .val (.int p3), .val (.int p4), .val (.int p5), .val (.int p6), .val (.double (FP.i2d p1)), .second, .val (.double (FP.i2d p2)), .second, .val (.double (FP.i2d p3)), .second, .val (.double (FP.i2d p4)), .second, .val (.double (FP.i2d p5)), .second, .val (.double (FP.i2d p6)), .second, .val (.ref bw), .val (.int r), .val (.double (FP.i2d p2)), .second, .val (.double (FP.i2d p5)), .second] []))
    refine own_by (fun _ kZ => XS.aload X118.here hx rfl (hb hby at_167) rfl rfl kZ) ?_
    show own_R p.tables e below _ (T118.setTop (mkF m 169 #[.val (.int p1), .val (.int p2), .val (.int p3), .val (.int p4), .val (.int p5), .val (.int p6), .val (.double (FP.i2d p1)), .second, .val (.double (FP.i2d p2)), .second, .val (.double (FP.i2d p3)), .second, .val (.double (FP.i2d p4)), .second, .val (.double (FP.i2d p5)), .second, .val (.double (FP.i2d p6)), .second, .val (.ref bw), .val (.int r), .val (.double (FP.i2d p2)), .second, .val (.double (FP.i2d p5)), .second] [(.ref bw)]))
    obtain ⟨cq119, kq119, q119a, q119b, q119c⟩ := isOf hZ e118 f115_bw
    obtain ⟨_, _, ⟨T119, L119, k119, n119⟩, -, X119, ⟨Lc119, hQ119, l119, y119, z119⟩, st119⟩ := X118.virtualBack hx (y := (⟨"com/example/bucket/bucket/simulation/WaitingLine", "oldestSize", "()D"⟩ : MethodName)) (z := (⟨"com/example/bucket/bucket/simulation/WaitingLine", "oldestSize", "()D"⟩ : MethodName)) hown (mvT hZ (hw _ (List.mem_of_getElem? (i := 38) rfl))) (mvT hZ (hw _ (List.mem_of_getElem? (i := 39) rfl))) (notFace_of_selects (args := #[]) (mvT hZ (hw _ (List.mem_of_getElem? (i := 41) rfl)))) (mvT hZ (hw _ (List.mem_of_getElem? (i := 41) rfl))) (mvT hZ (hw _ (List.mem_of_getElem? (i := 40) rfl))) (by decide) (backOf (W := 0) (rm7 l Z a0 hw [] bw b c (((((0 : Int32) + 1) + 1) + 1) - 1) (((0 : Int32) + 1) &&& ((Int32.ofNat 16) - 1)) (own_uk (own_uk (own_uk (fun _ => (0 : UInt64)) 0 (FP.i2d p1)) 1 (FP.i2d p2)) 2 (FP.i2d p3)) (own_uk (own_uk (own_uk (fun _ => (0 : UInt64)) 0 (FP.i2d p4)) 1 (FP.i2d p5)) 2 (FP.i2d p6)) 1 T114.heap n0 Z116 WL114 (by decide) (by decide)) hZ (hw _ (List.mem_of_getElem? (i := 42) rfl)) (hw _ (List.mem_of_getElem? (i := 2) rfl)) (by decide) (by decide)) q119a q119c (g := (mkF m 169 #[.val (.int p1), .val (.int p2), .val (.int p3), .val (.int p4), .val (.int p5), .val (.int p6), .val (.double (FP.i2d p1)), .second, .val (.double (FP.i2d p2)), .second, .val (.double (FP.i2d p3)), .second, .val (.double (FP.i2d p4)), .second, .val (.double (FP.i2d p5)), .second, .val (.double (FP.i2d p6)), .second, .val (.ref bw), .val (.int r), .val (.double (FP.i2d p2)), .second, .val (.double (FP.i2d p5)), .second] [(.ref bw)])) rfl (by rw [hml]; rfl) (Steps.refl _) (argsL := []) (rest := []) (lenOf own_pd3 rfl) rfl (by show 2 * 0 + _ ≤ _; exact Nat.le_of_eq rfl) (hb hby at_169) (fun _ _ => ⟨rfl, e118, (by decide : 3 + 0 ≤ _), (by decide : 36 + 0 ≤ _)⟩)
    dsimp only [Pt.U, Pt.locs, Pt.cells, Pt.slots] at X119 l119 y119 z119 st119 hQ119
    subst l119 y119 z119
    obtain ⟨rfl, Nq119, e119⟩ := hQ119
    have N119 := Fr.app N118 Nq119
    refine own_by (fun _ kZ => st119.trans kZ) ?_
    show own_R p.tables e below _ (T119.setTop (mkF m 172 #[.val (.int p1), .val (.int p2), .val (.int p3), .val (.int p4), .val (.int p5), .val (.int p6), .val (.double (FP.i2d p1)), .second, .val (.double (FP.i2d p2)), .second, .val (.double (FP.i2d p3)), .second, .val (.double (FP.i2d p4)), .second, .val (.double (FP.i2d p5)), .second, .val (.double (FP.i2d p6)), .second, .val (.ref bw), .val (.int r), .val (.double (FP.i2d p2)), .second, .val (.double (FP.i2d p5)), .second] [(.double (FP.i2d p5))]))
    refine own_by (fun _ kZ => own_dload X119.here hx rfl (hb hby at_172) rfl kZ) ?_
    show own_R p.tables e below _ (T119.setTop (mkF m 174 #[.val (.int p1), .val (.int p2), .val (.int p3), .val (.int p4), .val (.int p5), .val (.int p6), .val (.double (FP.i2d p1)), .second, .val (.double (FP.i2d p2)), .second, .val (.double (FP.i2d p3)), .second, .val (.double (FP.i2d p4)), .second, .val (.double (FP.i2d p5)), .second, .val (.double (FP.i2d p6)), .second, .val (.ref bw), .val (.int r), .val (.double (FP.i2d p2)), .second, .val (.double (FP.i2d p5)), .second] [(.double (FP.i2d p5)), (.double (FP.i2d p5))]))
    refine own_by (fun _ kZ => own_dcmp X119.here hx rfl (hb hby at_174) rfl kZ) ?_
    show own_R p.tables e below _ (T119.setTop (mkF m 175 #[.val (.int p1), .val (.int p2), .val (.int p3), .val (.int p4), .val (.int p5), .val (.int p6), .val (.double (FP.i2d p1)), .second, .val (.double (FP.i2d p2)), .second, .val (.double (FP.i2d p3)), .second, .val (.double (FP.i2d p4)), .second, .val (.double (FP.i2d p5)), .second, .val (.double (FP.i2d p6)), .second, .val (.ref bw), .val (.int r), .val (.double (FP.i2d p2)), .second, .val (.double (FP.i2d p5)), .second] [(.int (cmpValue (FP.dcmp (FP.i2d p5) (FP.i2d p5)) .l))]))
    rw [show (cmpValue (FP.dcmp (FP.i2d p5) (FP.i2d p5)) .l) = (0 : Int32) from own_dd _ _]
    show own_R p.tables e below _ (T119.setTop (mkF m 175 #[.val (.int p1), .val (.int p2), .val (.int p3), .val (.int p4), .val (.int p5), .val (.int p6), .val (.double (FP.i2d p1)), .second, .val (.double (FP.i2d p2)), .second, .val (.double (FP.i2d p3)), .second, .val (.double (FP.i2d p4)), .second, .val (.double (FP.i2d p5)), .second, .val (.double (FP.i2d p6)), .second, .val (.ref bw), .val (.int r), .val (.double (FP.i2d p2)), .second, .val (.double (FP.i2d p5)), .second] [(.int (0 : Int32))]))
    refine own_by (fun _ kZ => XS.ifNo X119.here hx rfl (hb hby at_175) rfl ((if0 _ _).trans (teq (rfl : (0 : Int32) = 0)).2) kZ) ?_
    show own_R p.tables e below _ (T119.setTop (mkF m 178 #[.val (.int p1), .val (.int p2), .val (.int p3), .val (.int p4), .val (.int p5), .val (.int p6), .val (.double (FP.i2d p1)), .second, .val (.double (FP.i2d p2)), .second, .val (.double (FP.i2d p3)), .second, .val (.double (FP.i2d p4)), .second, .val (.double (FP.i2d p5)), .second, .val (.double (FP.i2d p6)), .second, .val (.ref bw), .val (.int r), .val (.double (FP.i2d p2)), .second, .val (.double (FP.i2d p5)), .second] []))
    refine own_by (fun _ kZ => XS.iconst X119.here hx rfl (hb hby at_178) kZ) ?_
    show own_R p.tables e below _ (T119.setTop (mkF m 179 #[.val (.int p1), .val (.int p2), .val (.int p3), .val (.int p4), .val (.int p5), .val (.int p6), .val (.double (FP.i2d p1)), .second, .val (.double (FP.i2d p2)), .second, .val (.double (FP.i2d p3)), .second, .val (.double (FP.i2d p4)), .second, .val (.double (FP.i2d p5)), .second, .val (.double (FP.i2d p6)), .second, .val (.ref bw), .val (.int r), .val (.double (FP.i2d p2)), .second, .val (.double (FP.i2d p5)), .second] [(.int (1 : Int32))]))
    refine own_by (fun _ kZ => XS.goto X119.here hx rfl (pc0 := 179) (pc' := 183) rfl (hb hby at_179) (by decide) (by decide) kZ) ?_
    show own_R p.tables e below _ (T119.setTop (mkF m 183 #[.val (.int p1), .val (.int p2), .val (.int p3), .val (.int p4), .val (.int p5), .val (.int p6), .val (.double (FP.i2d p1)), .second, .val (.double (FP.i2d p2)), .second, .val (.double (FP.i2d p3)), .second, .val (.double (FP.i2d p4)), .second, .val (.double (FP.i2d p5)), .second, .val (.double (FP.i2d p6)), .second, .val (.ref bw), .val (.int r), .val (.double (FP.i2d p2)), .second, .val (.double (FP.i2d p5)), .second] [(.int (1 : Int32))]))
    obtain ⟨fs, hr, hrun, hended, hW, hsame⟩ := X119.leave (v := some (.int (1 : Int32))) (fun h => by rw [Bd.returns] at h; cases h)
    refine own_end ⟨_, _, ?_, hrun, hended, _, _, rfl, ?_, ⟨_, rfl⟩, hW, hsame.mono (by decide) (by decide)⟩
    · exact retN X119 hx (t := .boolean) Bd.returns (by simp) (hb hby at_183) hr
    · show Q0 Z p1 p2 p3 p4 p5 p6 h0 n0 _ T119.heap _
      rw [e119]
      exact ⟨rfl, N119⟩
  · skip
    refine own_by (fun _ kZ => XS.icmpNo X114.here hx rfl (hb hby at_85) rfl (flt h2).1 kZ) ?_
    show own_R p.tables e below _ (T114.setTop (mkF m 88 #[.val (.int p1), .val (.int p2), .val (.int p3), .val (.int p4), .val (.int p5), .val (.int p6), .val (.double (FP.i2d p1)), .second, .val (.double (FP.i2d p2)), .second, .val (.double (FP.i2d p3)), .second, .val (.double (FP.i2d p4)), .second, .val (.double (FP.i2d p5)), .second, .val (.double (FP.i2d p6)), .second, .val (.ref bw), .val (.int r), .unset, .unset, .unset, .unset] []))
    refine own_by (fun _ kZ => XS.aload X114.here hx rfl (hb hby at_88) rfl rfl kZ) ?_
    show own_R p.tables e below _ (T114.setTop (mkF m 90 #[.val (.int p1), .val (.int p2), .val (.int p3), .val (.int p4), .val (.int p5), .val (.int p6), .val (.double (FP.i2d p1)), .second, .val (.double (FP.i2d p2)), .second, .val (.double (FP.i2d p3)), .second, .val (.double (FP.i2d p4)), .second, .val (.double (FP.i2d p5)), .second, .val (.double (FP.i2d p6)), .second, .val (.ref bw), .val (.int r), .unset, .unset, .unset, .unset] [(.ref bw)]))
    obtain ⟨cq120, kq120, q120a, q120b, q120c⟩ := isOf hZ rfl f115_bw
    obtain ⟨_, _, ⟨T120, L120, k120, n120⟩, -, X120, ⟨Lc120, hQ120, l120, y120, z120⟩, st120⟩ := X114.virtualBack hx (y := (⟨"com/example/bucket/bucket/simulation/WaitingLine", "removeOldest", "()V"⟩ : MethodName)) (z := (⟨"com/example/bucket/bucket/simulation/WaitingLine", "removeOldest", "()V"⟩ : MethodName)) hown (mvT hZ (hw _ (List.mem_of_getElem? (i := 23) rfl))) (mvT hZ (hw _ (List.mem_of_getElem? (i := 24) rfl))) (notFace_of_selects (args := #[]) (mvT hZ (hw _ (List.mem_of_getElem? (i := 26) rfl)))) (mvT hZ (hw _ (List.mem_of_getElem? (i := 26) rfl))) (mvT hZ (hw _ (List.mem_of_getElem? (i := 25) rfl))) (by decide) (backOf (W := 0) (rm4 l Z a0 hw [] bw b c (((((0 : Int32) + 1) + 1) + 1) - 1) (((0 : Int32) + 1) &&& ((Int32.ofNat 16) - 1)) (own_uk (own_uk (own_uk (fun _ => (0 : UInt64)) 0 (FP.i2d p1)) 1 (FP.i2d p2)) 2 (FP.i2d p3)) (own_uk (own_uk (own_uk (fun _ => (0 : UInt64)) 0 (FP.i2d p4)) 1 (FP.i2d p5)) 2 (FP.i2d p6)) T114.heap n0 Z116 WL114) hZ (hw _ (List.mem_of_getElem? (i := 27) rfl)) (hw _ (List.mem_of_getElem? (i := 2) rfl)) (by decide) (by decide)) q120a q120c (g := (mkF m 90 #[.val (.int p1), .val (.int p2), .val (.int p3), .val (.int p4), .val (.int p5), .val (.int p6), .val (.double (FP.i2d p1)), .second, .val (.double (FP.i2d p2)), .second, .val (.double (FP.i2d p3)), .second, .val (.double (FP.i2d p4)), .second, .val (.double (FP.i2d p5)), .second, .val (.double (FP.i2d p6)), .second, .val (.ref bw), .val (.int r), .unset, .unset, .unset, .unset] [(.ref bw)])) rfl (by rw [hml]; rfl) (Steps.refl _) (argsL := []) (rest := []) (lenOf own_pd0 rfl) rfl (by show 2 * 0 + _ ≤ _; exact Nat.le_of_eq rfl) (hb hby at_90) (fun _ _ => ⟨rfl, rfl, (by decide : 3 + 0 ≤ _), (by decide : 36 + 0 ≤ _)⟩)
    dsimp only [Pt.U, Pt.locs, Pt.cells, Pt.slots] at X120 l120 y120 z120 st120 hQ120
    subst l120 y120 z120
    obtain ⟨rfl, Nq120, K120, WL120⟩ := hQ120
    have N120 := Fr.app N114 Nq120
    have f121_bw : Exa Z T120.heap bw "com/example/bucket/bucket/simulation/WaitingLine" := f115_bw.keep K120
    have Z122 : n0 ≤ T120.heap.size := Nat.le_trans Z116 K120.1
    refine own_by (fun _ kZ => st120.trans kZ) ?_
    show own_R p.tables e below _ (T120.setTop (mkF m 93 #[.val (.int p1), .val (.int p2), .val (.int p3), .val (.int p4), .val (.int p5), .val (.int p6), .val (.double (FP.i2d p1)), .second, .val (.double (FP.i2d p2)), .second, .val (.double (FP.i2d p3)), .second, .val (.double (FP.i2d p4)), .second, .val (.double (FP.i2d p5)), .second, .val (.double (FP.i2d p6)), .second, .val (.ref bw), .val (.int r), .unset, .unset, .unset, .unset] []))
    refine own_by (fun _ kZ => XS.iload X120.here hx rfl (hb hby at_93) rfl kZ) ?_
    show own_R p.tables e below _ (T120.setTop (mkF m 95 #[.val (.int p1), .val (.int p2), .val (.int p3), .val (.int p4), .val (.int p5), .val (.int p6), .val (.double (FP.i2d p1)), .second, .val (.double (FP.i2d p2)), .second, .val (.double (FP.i2d p3)), .second, .val (.double (FP.i2d p4)), .second, .val (.double (FP.i2d p5)), .second, .val (.double (FP.i2d p6)), .second, .val (.ref bw), .val (.int r), .unset, .unset, .unset, .unset] [(.int r)]))
    refine own_by (fun _ kZ => XS.iconst X120.here hx rfl (hb hby at_95) kZ) ?_
    show own_R p.tables e below _ (T120.setTop (mkF m 96 #[.val (.int p1), .val (.int p2), .val (.int p3), .val (.int p4), .val (.int p5), .val (.int p6), .val (.double (FP.i2d p1)), .second, .val (.double (FP.i2d p2)), .second, .val (.double (FP.i2d p3)), .second, .val (.double (FP.i2d p4)), .second, .val (.double (FP.i2d p5)), .second, .val (.double (FP.i2d p6)), .second, .val (.ref bw), .val (.int r), .unset, .unset, .unset, .unset] [(.int (3 : Int32)), (.int r)]))
    by_cases h3 : r < (3 : Int32)
    · skip
      refine own_by (fun _ kZ => XS.icmpYes X120.here hx rfl (pc0 := 96) (pc' := 104) rfl (hb hby at_96) rfl (tlt h3).1 (by decide) (by decide) kZ) ?_
      show own_R p.tables e below _ (T120.setTop (mkF m 104 #[.val (.int p1), .val (.int p2), .val (.int p3), .val (.int p4), .val (.int p5), .val (.int p6), .val (.double (FP.i2d p1)), .second, .val (.double (FP.i2d p2)), .second, .val (.double (FP.i2d p3)), .second, .val (.double (FP.i2d p4)), .second, .val (.double (FP.i2d p5)), .second, .val (.double (FP.i2d p6)), .second, .val (.ref bw), .val (.int r), .unset, .unset, .unset, .unset] []))
      have hrv : r = 2 := by
        rcases hr123 with h | h | h
        · rw [h] at h2; exact absurd (by decide) h2
        · exact h
        · rw [h] at h3; exact absurd h3 (by decide)
      refine own_by (fun _ kZ => XS.aload X120.here hx rfl (hb hby at_104) rfl rfl kZ) ?_
      show own_R p.tables e below _ (T120.setTop (mkF m 106 #[.val (.int p1), .val (.int p2), .val (.int p3), .val (.int p4), .val (.int p5), .val (.int p6), .val (.double (FP.i2d p1)), .second, .val (.double (FP.i2d p2)), .second, .val (.double (FP.i2d p3)), .second, .val (.double (FP.i2d p4)), .second, .val (.double (FP.i2d p5)), .second, .val (.double (FP.i2d p6)), .second, .val (.ref bw), .val (.int r), .unset, .unset, .unset, .unset] [(.ref bw)]))
      obtain ⟨cq123, kq123, q123a, q123b, q123c⟩ := isOf hZ rfl f121_bw
      obtain ⟨_, _, ⟨T123, L123, k123, n123⟩, -, X123, ⟨Lc123, hQ123, l123, y123, z123⟩, st123⟩ := X120.virtualBack hx (y := (⟨"com/example/bucket/bucket/simulation/WaitingLine", "size", "()I"⟩ : MethodName)) (z := (⟨"com/example/bucket/bucket/simulation/WaitingLine", "size", "()I"⟩ : MethodName)) hown (mvT hZ (hw _ (List.mem_of_getElem? (i := 28) rfl))) (mvT hZ (hw _ (List.mem_of_getElem? (i := 29) rfl))) (notFace_of_selects (args := #[]) (mvT hZ (hw _ (List.mem_of_getElem? (i := 31) rfl)))) (mvT hZ (hw _ (List.mem_of_getElem? (i := 31) rfl))) (mvT hZ (hw _ (List.mem_of_getElem? (i := 30) rfl))) (by decide) (backOf (W := 0) (rm5 l Z a0 hw [] bw b c ((((((0 : Int32) + 1) + 1) + 1) - 1) - 1) (((((0 : Int32) + 1) &&& ((Int32.ofNat 16) - 1)) + 1) &&& ((Int32.ofNat 16) - 1)) (own_uk (own_uk (own_uk (fun _ => (0 : UInt64)) 0 (FP.i2d p1)) 1 (FP.i2d p2)) 2 (FP.i2d p3)) (own_uk (own_uk (own_uk (fun _ => (0 : UInt64)) 0 (FP.i2d p4)) 1 (FP.i2d p5)) 2 (FP.i2d p6)) T120.heap n0 Z122 WL120) hZ (hw _ (List.mem_of_getElem? (i := 32) rfl)) (hw _ (List.mem_of_getElem? (i := 2) rfl)) (by decide) (by decide)) q123a q123c (g := (mkF m 106 #[.val (.int p1), .val (.int p2), .val (.int p3), .val (.int p4), .val (.int p5), .val (.int p6), .val (.double (FP.i2d p1)), .second, .val (.double (FP.i2d p2)), .second, .val (.double (FP.i2d p3)), .second, .val (.double (FP.i2d p4)), .second, .val (.double (FP.i2d p5)), .second, .val (.double (FP.i2d p6)), .second, .val (.ref bw), .val (.int r), .unset, .unset, .unset, .unset] [(.ref bw)])) rfl (by rw [hml]; rfl) (Steps.refl _) (argsL := []) (rest := []) (lenOf own_pd2 rfl) rfl (by show 2 * 0 + _ ≤ _; exact Nat.le_of_eq rfl) (hb hby at_106) (fun _ _ => ⟨rfl, rfl, (by decide : 3 + 0 ≤ _), (by decide : 36 + 0 ≤ _)⟩)
      dsimp only [Pt.U, Pt.locs, Pt.cells, Pt.slots] at X123 l123 y123 z123 st123 hQ123
      subst l123 y123 z123
      obtain ⟨rfl, Nq123, e123⟩ := hQ123
      have N123 := Fr.app N120 Nq123
      refine own_by (fun _ kZ => st123.trans kZ) ?_
      show own_R p.tables e below _ (T123.setTop (mkF m 109 #[.val (.int p1), .val (.int p2), .val (.int p3), .val (.int p4), .val (.int p5), .val (.int p6), .val (.double (FP.i2d p1)), .second, .val (.double (FP.i2d p2)), .second, .val (.double (FP.i2d p3)), .second, .val (.double (FP.i2d p4)), .second, .val (.double (FP.i2d p5)), .second, .val (.double (FP.i2d p6)), .second, .val (.ref bw), .val (.int r), .unset, .unset, .unset, .unset] [(.int ((((((0 : Int32) + 1) + 1) + 1) - 1) - 1))]))
      refine own_by (fun _ kZ => XS.iconst X123.here hx rfl (hb hby at_109) kZ) ?_
      show own_R p.tables e below _ (T123.setTop (mkF m 110 #[.val (.int p1), .val (.int p2), .val (.int p3), .val (.int p4), .val (.int p5), .val (.int p6), .val (.double (FP.i2d p1)), .second, .val (.double (FP.i2d p2)), .second, .val (.double (FP.i2d p3)), .second, .val (.double (FP.i2d p4)), .second, .val (.double (FP.i2d p5)), .second, .val (.double (FP.i2d p6)), .second, .val (.ref bw), .val (.int r), .unset, .unset, .unset, .unset] [(.int (3 : Int32)), (.int ((((((0 : Int32) + 1) + 1) + 1) - 1) - 1))]))
      refine own_by (fun _ kZ => XS.iload X123.here hx rfl (hb hby at_110) rfl kZ) ?_
      show own_R p.tables e below _ (T123.setTop (mkF m 112 #[.val (.int p1), .val (.int p2), .val (.int p3), .val (.int p4), .val (.int p5), .val (.int p6), .val (.double (FP.i2d p1)), .second, .val (.double (FP.i2d p2)), .second, .val (.double (FP.i2d p3)), .second, .val (.double (FP.i2d p4)), .second, .val (.double (FP.i2d p5)), .second, .val (.double (FP.i2d p6)), .second, .val (.ref bw), .val (.int r), .unset, .unset, .unset, .unset] [(.int r), (.int (3 : Int32)), (.int ((((((0 : Int32) + 1) + 1) + 1) - 1) - 1))]))
      refine own_by (fun _ kZ => XS.isub X123.here hx rfl (hb hby at_112) rfl kZ) ?_
      show own_R p.tables e below _ (T123.setTop (mkF m 113 #[.val (.int p1), .val (.int p2), .val (.int p3), .val (.int p4), .val (.int p5), .val (.int p6), .val (.double (FP.i2d p1)), .second, .val (.double (FP.i2d p2)), .second, .val (.double (FP.i2d p3)), .second, .val (.double (FP.i2d p4)), .second, .val (.double (FP.i2d p5)), .second, .val (.double (FP.i2d p6)), .second, .val (.ref bw), .val (.int r), .unset, .unset, .unset, .unset] [(.int ((3 : Int32) - r)), (.int ((((((0 : Int32) + 1) + 1) + 1) - 1) - 1))]))
      refine own_by (fun _ kZ => XS.icmpYes X123.here hx rfl (pc0 := 113) (pc' := 118) rfl (hb hby at_113) rfl (teq (by rw [hrv]; decide : ((((((0 : Int32) + 1) + 1) + 1) - 1) - 1) = ((3 : Int32) - r))).1 (by decide) (by decide) kZ) ?_
      show own_R p.tables e below _ (T123.setTop (mkF m 118 #[.val (.int p1), .val (.int p2), .val (.int p3), .val (.int p4), .val (.int p5), .val (.int p6), .val (.double (FP.i2d p1)), .second, .val (.double (FP.i2d p2)), .second, .val (.double (FP.i2d p3)), .second, .val (.double (FP.i2d p4)), .second, .val (.double (FP.i2d p5)), .second, .val (.double (FP.i2d p6)), .second, .val (.ref bw), .val (.int r), .unset, .unset, .unset, .unset] []))
      refine own_by (fun _ kZ => XS.iload X123.here hx rfl (hb hby at_118) rfl kZ) ?_
      show own_R p.tables e below _ (T123.setTop (mkF m 120 #[.val (.int p1), .val (.int p2), .val (.int p3), .val (.int p4), .val (.int p5), .val (.int p6), .val (.double (FP.i2d p1)), .second, .val (.double (FP.i2d p2)), .second, .val (.double (FP.i2d p3)), .second, .val (.double (FP.i2d p4)), .second, .val (.double (FP.i2d p5)), .second, .val (.double (FP.i2d p6)), .second, .val (.ref bw), .val (.int r), .unset, .unset, .unset, .unset] [(.int r)]))
      refine own_by (fun _ kZ => XS.iconst X123.here hx rfl (hb hby at_120) kZ) ?_
      show own_R p.tables e below _ (T123.setTop (mkF m 121 #[.val (.int p1), .val (.int p2), .val (.int p3), .val (.int p4), .val (.int p5), .val (.int p6), .val (.double (FP.i2d p1)), .second, .val (.double (FP.i2d p2)), .second, .val (.double (FP.i2d p3)), .second, .val (.double (FP.i2d p4)), .second, .val (.double (FP.i2d p5)), .second, .val (.double (FP.i2d p6)), .second, .val (.ref bw), .val (.int r), .unset, .unset, .unset, .unset] [(.int (3 : Int32)), (.int r)]))
      refine own_by (fun _ kZ => XS.icmpYes X123.here hx rfl (pc0 := 121) (pc' := 126) rfl (hb hby at_121) rfl (feq (by rw [hrv]; decide : ¬ r = (3 : Int32))).2 (by decide) (by decide) kZ) ?_
      show own_R p.tables e below _ (T123.setTop (mkF m 126 #[.val (.int p1), .val (.int p2), .val (.int p3), .val (.int p4), .val (.int p5), .val (.int p6), .val (.double (FP.i2d p1)), .second, .val (.double (FP.i2d p2)), .second, .val (.double (FP.i2d p3)), .second, .val (.double (FP.i2d p4)), .second, .val (.double (FP.i2d p5)), .second, .val (.double (FP.i2d p6)), .second, .val (.ref bw), .val (.int r), .unset, .unset, .unset, .unset] []))
      refine own_by (fun _ kZ => XS.iload X123.here hx rfl (hb hby at_126) rfl kZ) ?_
      show own_R p.tables e below _ (T123.setTop (mkF m 128 #[.val (.int p1), .val (.int p2), .val (.int p3), .val (.int p4), .val (.int p5), .val (.int p6), .val (.double (FP.i2d p1)), .second, .val (.double (FP.i2d p2)), .second, .val (.double (FP.i2d p3)), .second, .val (.double (FP.i2d p4)), .second, .val (.double (FP.i2d p5)), .second, .val (.double (FP.i2d p6)), .second, .val (.ref bw), .val (.int r), .unset, .unset, .unset, .unset] [(.int r)]))
      refine own_by (fun _ kZ => XS.iconst X123.here hx rfl (hb hby at_128) kZ) ?_
      show own_R p.tables e below _ (T123.setTop (mkF m 129 #[.val (.int p1), .val (.int p2), .val (.int p3), .val (.int p4), .val (.int p5), .val (.int p6), .val (.double (FP.i2d p1)), .second, .val (.double (FP.i2d p2)), .second, .val (.double (FP.i2d p3)), .second, .val (.double (FP.i2d p4)), .second, .val (.double (FP.i2d p5)), .second, .val (.double (FP.i2d p6)), .second, .val (.ref bw), .val (.int r), .unset, .unset, .unset, .unset] [(.int (1 : Int32)), (.int r)]))
      refine own_by (fun _ kZ => XS.icmpYes X123.here hx rfl (pc0 := 129) (pc' := 137) rfl (hb hby at_129) rfl (feq (by rw [hrv]; decide : ¬ r = (1 : Int32))).2 (by decide) (by decide) kZ) ?_
      show own_R p.tables e below _ (T123.setTop (mkF m 137 #[.val (.int p1), .val (.int p2), .val (.int p3), .val (.int p4), .val (.int p5), .val (.int p6), .val (.double (FP.i2d p1)), .second, .val (.double (FP.i2d p2)), .second, .val (.double (FP.i2d p3)), .second, .val (.double (FP.i2d p4)), .second, .val (.double (FP.i2d p5)), .second, .val (.double (FP.i2d p6)), .second, .val (.ref bw), .val (.int r), .unset, .unset, .unset, .unset] []))
      refine own_by (fun _ kZ => own_dload X123.here hx rfl (hb hby at_137) rfl kZ) ?_
      show own_R p.tables e below _ (T123.setTop (mkF m 139 #[.val (.int p1), .val (.int p2), .val (.int p3), .val (.int p4), .val (.int p5), .val (.int p6), .val (.double (FP.i2d p1)), .second, .val (.double (FP.i2d p2)), .second, .val (.double (FP.i2d p3)), .second, .val (.double (FP.i2d p4)), .second, .val (.double (FP.i2d p5)), .second, .val (.double (FP.i2d p6)), .second, .val (.ref bw), .val (.int r), .unset, .unset, .unset, .unset] [(.double (FP.i2d p3))]))
      refine own_by (fun _ kZ => own_dstore X123.here hx rfl (hb hby at_139) rfl (l' := #[.val (.int p1), .val (.int p2), .val (.int p3), .val (.int p4), .val (.int p5), .val (.int p6), .val (.double (FP.i2d p1)), .second, .val (.double (FP.i2d p2)), .second, .val (.double (FP.i2d p3)), .second, .val (.double (FP.i2d p4)), .second, .val (.double (FP.i2d p5)), .second, .val (.double (FP.i2d p6)), .second, .val (.ref bw), .val (.int r), .val (.double (FP.i2d p3)), .second, .unset, .unset]) rfl kZ) ?_
      show own_R p.tables e below _ (T123.setTop (mkF m 141 #[.val (.int p1), .val (.int p2), .val (.int p3), .val (.int p4), .val (.int p5), .val (.int p6), .val (.double (FP.i2d p1)), .second, .val (.double (FP.i2d p2)), .second, .val (.double (FP.i2d p3)), .second, .val (.double (FP.i2d p4)), .second, .val (.double (FP.i2d p5)), .second, .val (.double (FP.i2d p6)), .second, .val (.ref bw), .val (.int r), .val (.double (FP.i2d p3)), .second, .unset, .unset] []))
      refine own_by (fun _ kZ => XS.iload X123.here hx rfl (hb hby at_141) rfl kZ) ?_
      show own_R p.tables e below _ (T123.setTop (mkF m 143 #[.val (.int p1), .val (.int p2), .val (.int p3), .val (.int p4), .val (.int p5), .val (.int p6), .val (.double (FP.i2d p1)), .second, .val (.double (FP.i2d p2)), .second, .val (.double (FP.i2d p3)), .second, .val (.double (FP.i2d p4)), .second, .val (.double (FP.i2d p5)), .second, .val (.double (FP.i2d p6)), .second, .val (.ref bw), .val (.int r), .val (.double (FP.i2d p3)), .second, .unset, .unset] [(.int r)]))
      refine own_by (fun _ kZ => XS.iconst X123.here hx rfl (hb hby at_143) kZ) ?_
      show own_R p.tables e below _ (T123.setTop (mkF m 144 #[.val (.int p1), .val (.int p2), .val (.int p3), .val (.int p4), .val (.int p5), .val (.int p6), .val (.double (FP.i2d p1)), .second, .val (.double (FP.i2d p2)), .second, .val (.double (FP.i2d p3)), .second, .val (.double (FP.i2d p4)), .second, .val (.double (FP.i2d p5)), .second, .val (.double (FP.i2d p6)), .second, .val (.ref bw), .val (.int r), .val (.double (FP.i2d p3)), .second, .unset, .unset] [(.int (1 : Int32)), (.int r)]))
      refine own_by (fun _ kZ => XS.icmpYes X123.here hx rfl (pc0 := 144) (pc' := 152) rfl (hb hby at_144) rfl (feq (by rw [hrv]; decide : ¬ r = (1 : Int32))).2 (by decide) (by decide) kZ) ?_
      show own_R p.tables e below _ (T123.setTop (mkF m 152 #[.val (.int p1), .val (.int p2), .val (.int p3), .val (.int p4), .val (.int p5), .val (.int p6), .val (.double (FP.i2d p1)), .second, .val (.double (FP.i2d p2)), .second, .val (.double (FP.i2d p3)), .second, .val (.double (FP.i2d p4)), .second, .val (.double (FP.i2d p5)), .second, .val (.double (FP.i2d p6)), .second, .val (.ref bw), .val (.int r), .val (.double (FP.i2d p3)), .second, .unset, .unset] []))
      refine own_by (fun _ kZ => own_dload X123.here hx rfl (hb hby at_152) rfl kZ) ?_
      show own_R p.tables e below _ (T123.setTop (mkF m 154 #[.val (.int p1), .val (.int p2), .val (.int p3), .val (.int p4), .val (.int p5), .val (.int p6), .val (.double (FP.i2d p1)), .second, .val (.double (FP.i2d p2)), .second, .val (.double (FP.i2d p3)), .second, .val (.double (FP.i2d p4)), .second, .val (.double (FP.i2d p5)), .second, .val (.double (FP.i2d p6)), .second, .val (.ref bw), .val (.int r), .val (.double (FP.i2d p3)), .second, .unset, .unset] [(.double (FP.i2d p6))]))
      refine own_by (fun _ kZ => own_dstore X123.here hx rfl (hb hby at_154) rfl (l' := #[.val (.int p1), .val (.int p2), .val (.int p3), .val (.int p4), .val (.int p5), .val (.int p6), .val (.double (FP.i2d p1)), .second, .val (.double (FP.i2d p2)), .second, .val (.double (FP.i2d p3)), .second, .val (.double (FP.i2d p4)), .second, .val (.double (FP.i2d p5)), .second, .val (.double (FP.i2d p6)), .second, .val (.ref bw), .val (.int r), .val (.double (FP.i2d p3)), .second, .val (.double (FP.i2d p6)), .second]) rfl kZ) ?_
      show own_R p.tables e below _ (T123.setTop (mkF m 156 #[.val (.int p1), .val (.int p2), .val (.int p3), .val (.int p4), .val (.int p5), .val (.int p6), .val (.double (FP.i2d p1)), .second, .val (.double (FP.i2d p2)), .second, .val (.double (FP.i2d p3)), .second, .val (.double (FP.i2d p4)), .second, .val (.double (FP.i2d p5)), .second, .val (.double (FP.i2d p6)), .second, .val (.ref bw), .val (.int r), .val (.double (FP.i2d p3)), .second, .val (.double (FP.i2d p6)), .second] []))
      refine own_by (fun _ kZ => XS.aload X123.here hx rfl (hb hby at_156) rfl rfl kZ) ?_
      show own_R p.tables e below _ (T123.setTop (mkF m 158 #[.val (.int p1), .val (.int p2), .val (.int p3), .val (.int p4), .val (.int p5), .val (.int p6), .val (.double (FP.i2d p1)), .second, .val (.double (FP.i2d p2)), .second, .val (.double (FP.i2d p3)), .second, .val (.double (FP.i2d p4)), .second, .val (.double (FP.i2d p5)), .second, .val (.double (FP.i2d p6)), .second, .val (.ref bw), .val (.int r), .val (.double (FP.i2d p3)), .second, .val (.double (FP.i2d p6)), .second] [(.ref bw)]))
      obtain ⟨cq124, kq124, q124a, q124b, q124c⟩ := isOf hZ e123 f121_bw
      obtain ⟨_, _, ⟨T124, L124, k124, n124⟩, -, X124, ⟨Lc124, hQ124, l124, y124, z124⟩, st124⟩ := X123.virtualBack hx (y := (⟨"com/example/bucket/bucket/simulation/WaitingLine", "oldestArrival", "()D"⟩ : MethodName)) (z := (⟨"com/example/bucket/bucket/simulation/WaitingLine", "oldestArrival", "()D"⟩ : MethodName)) hown (mvT hZ (hw _ (List.mem_of_getElem? (i := 33) rfl))) (mvT hZ (hw _ (List.mem_of_getElem? (i := 34) rfl))) (notFace_of_selects (args := #[]) (mvT hZ (hw _ (List.mem_of_getElem? (i := 36) rfl)))) (mvT hZ (hw _ (List.mem_of_getElem? (i := 36) rfl))) (mvT hZ (hw _ (List.mem_of_getElem? (i := 35) rfl))) (by decide) (backOf (W := 0) (rm6 l Z a0 hw [] bw b c ((((((0 : Int32) + 1) + 1) + 1) - 1) - 1) (((((0 : Int32) + 1) &&& ((Int32.ofNat 16) - 1)) + 1) &&& ((Int32.ofNat 16) - 1)) (own_uk (own_uk (own_uk (fun _ => (0 : UInt64)) 0 (FP.i2d p1)) 1 (FP.i2d p2)) 2 (FP.i2d p3)) (own_uk (own_uk (own_uk (fun _ => (0 : UInt64)) 0 (FP.i2d p4)) 1 (FP.i2d p5)) 2 (FP.i2d p6)) 2 T120.heap n0 Z122 WL120 (by decide) (by decide)) hZ (hw _ (List.mem_of_getElem? (i := 37) rfl)) (hw _ (List.mem_of_getElem? (i := 2) rfl)) (by decide) (by decide)) q124a q124c (g := (mkF m 158 #[.val (.int p1), .val (.int p2), .val (.int p3), .val (.int p4), .val (.int p5), .val (.int p6), .val (.double (FP.i2d p1)), .second, .val (.double (FP.i2d p2)), .second, .val (.double (FP.i2d p3)), .second, .val (.double (FP.i2d p4)), .second, .val (.double (FP.i2d p5)), .second, .val (.double (FP.i2d p6)), .second, .val (.ref bw), .val (.int r), .val (.double (FP.i2d p3)), .second, .val (.double (FP.i2d p6)), .second] [(.ref bw)])) rfl (by rw [hml]; rfl) (Steps.refl _) (argsL := []) (rest := []) (lenOf own_pd3 rfl) rfl (by show 2 * 0 + _ ≤ _; exact Nat.le_of_eq rfl) (hb hby at_158) (fun _ _ => ⟨rfl, e123, (by decide : 3 + 0 ≤ _), (by decide : 36 + 0 ≤ _)⟩)
      dsimp only [Pt.U, Pt.locs, Pt.cells, Pt.slots] at X124 l124 y124 z124 st124 hQ124
      subst l124 y124 z124
      obtain ⟨rfl, Nq124, e124⟩ := hQ124
      have N124 := Fr.app N123 Nq124
      refine own_by (fun _ kZ => st124.trans kZ) ?_
      show own_R p.tables e below _ (T124.setTop (mkF m 161 #[.val (.int p1), .val (.int p2), .val (.int p3), .val (.int p4), .val (.int p5), .val (.int p6), .val (.double (FP.i2d p1)), .second, .val (.double (FP.i2d p2)), .second, .val (.double (FP.i2d p3)), .second, .val (.double (FP.i2d p4)), .second, .val (.double (FP.i2d p5)), .second, .val (.double (FP.i2d p6)), .second, .val (.ref bw), .val (.int r), .val (.double (FP.i2d p3)), .second, .val (.double (FP.i2d p6)), .second] [(.double (FP.i2d p3))]))
      refine own_by (fun _ kZ => own_dload X124.here hx rfl (hb hby at_161) rfl kZ) ?_
      show own_R p.tables e below _ (T124.setTop (mkF m 163 #[.val (.int p1), .val (.int p2), .val (.int p3), .val (.int p4), .val (.int p5), .val (.int p6), .val (.double (FP.i2d p1)), .second, .val (.double (FP.i2d p2)), .second, .val (.double (FP.i2d p3)), .second, .val (.double (FP.i2d p4)), .second, .val (.double (FP.i2d p5)), .second, .val (.double (FP.i2d p6)), .second, .val (.ref bw), .val (.int r), .val (.double (FP.i2d p3)), .second, .val (.double (FP.i2d p6)), .second] [(.double (FP.i2d p3)), (.double (FP.i2d p3))]))
      refine own_by (fun _ kZ => own_dcmp X124.here hx rfl (hb hby at_163) rfl kZ) ?_
      show own_R p.tables e below _ (T124.setTop (mkF m 164 #[.val (.int p1), .val (.int p2), .val (.int p3), .val (.int p4), .val (.int p5), .val (.int p6), .val (.double (FP.i2d p1)), .second, .val (.double (FP.i2d p2)), .second, .val (.double (FP.i2d p3)), .second, .val (.double (FP.i2d p4)), .second, .val (.double (FP.i2d p5)), .second, .val (.double (FP.i2d p6)), .second, .val (.ref bw), .val (.int r), .val (.double (FP.i2d p3)), .second, .val (.double (FP.i2d p6)), .second] [(.int (cmpValue (FP.dcmp (FP.i2d p3) (FP.i2d p3)) .l))]))
      rw [show (cmpValue (FP.dcmp (FP.i2d p3) (FP.i2d p3)) .l) = (0 : Int32) from own_dd _ _]
      show own_R p.tables e below _ (T124.setTop (mkF m 164 #[.val (.int p1), .val (.int p2), .val (.int p3), .val (.int p4), .val (.int p5), .val (.int p6), .val (.double (FP.i2d p1)), .second, .val (.double (FP.i2d p2)), .second, .val (.double (FP.i2d p3)), .second, .val (.double (FP.i2d p4)), .second, .val (.double (FP.i2d p5)), .second, .val (.double (FP.i2d p6)), .second, .val (.ref bw), .val (.int r), .val (.double (FP.i2d p3)), .second, .val (.double (FP.i2d p6)), .second] [(.int (0 : Int32))]))
      refine own_by (fun _ kZ => XS.ifNo X124.here hx rfl (hb hby at_164) rfl ((if0 _ _).trans (teq (rfl : (0 : Int32) = 0)).2) kZ) ?_
      show own_R p.tables e below _ (T124.setTop (mkF m 167 #[.val (.int p1), .val (.int p2), .val (.int p3), .val (.int p4), .val (.int p5), .val (.int p6), .val (.double (FP.i2d p1)), .second, .val (.double (FP.i2d p2)), .second, .val (.double (FP.i2d p3)), .second, .val (.double (FP.i2d p4)), .second, .val (.double (FP.i2d p5)), .second, .val (.double (FP.i2d p6)), .second, .val (.ref bw), .val (.int r), .val (.double (FP.i2d p3)), .second, .val (.double (FP.i2d p6)), .second] []))
      refine own_by (fun _ kZ => XS.aload X124.here hx rfl (hb hby at_167) rfl rfl kZ) ?_
      show own_R p.tables e below _ (T124.setTop (mkF m 169 #[.val (.int p1), .val (.int p2), .val (.int p3), .val (.int p4), .val (.int p5), .val (.int p6), .val (.double (FP.i2d p1)), .second, .val (.double (FP.i2d p2)), .second, .val (.double (FP.i2d p3)), .second, .val (.double (FP.i2d p4)), .second, .val (.double (FP.i2d p5)), .second, .val (.double (FP.i2d p6)), .second, .val (.ref bw), .val (.int r), .val (.double (FP.i2d p3)), .second, .val (.double (FP.i2d p6)), .second] [(.ref bw)]))
      obtain ⟨cq125, kq125, q125a, q125b, q125c⟩ := isOf hZ e124 f121_bw
      obtain ⟨_, _, ⟨T125, L125, k125, n125⟩, -, X125, ⟨Lc125, hQ125, l125, y125, z125⟩, st125⟩ := X124.virtualBack hx (y := (⟨"com/example/bucket/bucket/simulation/WaitingLine", "oldestSize", "()D"⟩ : MethodName)) (z := (⟨"com/example/bucket/bucket/simulation/WaitingLine", "oldestSize", "()D"⟩ : MethodName)) hown (mvT hZ (hw _ (List.mem_of_getElem? (i := 38) rfl))) (mvT hZ (hw _ (List.mem_of_getElem? (i := 39) rfl))) (notFace_of_selects (args := #[]) (mvT hZ (hw _ (List.mem_of_getElem? (i := 41) rfl)))) (mvT hZ (hw _ (List.mem_of_getElem? (i := 41) rfl))) (mvT hZ (hw _ (List.mem_of_getElem? (i := 40) rfl))) (by decide) (backOf (W := 0) (rm7 l Z a0 hw [] bw b c ((((((0 : Int32) + 1) + 1) + 1) - 1) - 1) (((((0 : Int32) + 1) &&& ((Int32.ofNat 16) - 1)) + 1) &&& ((Int32.ofNat 16) - 1)) (own_uk (own_uk (own_uk (fun _ => (0 : UInt64)) 0 (FP.i2d p1)) 1 (FP.i2d p2)) 2 (FP.i2d p3)) (own_uk (own_uk (own_uk (fun _ => (0 : UInt64)) 0 (FP.i2d p4)) 1 (FP.i2d p5)) 2 (FP.i2d p6)) 2 T120.heap n0 Z122 WL120 (by decide) (by decide)) hZ (hw _ (List.mem_of_getElem? (i := 42) rfl)) (hw _ (List.mem_of_getElem? (i := 2) rfl)) (by decide) (by decide)) q125a q125c (g := (mkF m 169 #[.val (.int p1), .val (.int p2), .val (.int p3), .val (.int p4), .val (.int p5), .val (.int p6), .val (.double (FP.i2d p1)), .second, .val (.double (FP.i2d p2)), .second, .val (.double (FP.i2d p3)), .second, .val (.double (FP.i2d p4)), .second, .val (.double (FP.i2d p5)), .second, .val (.double (FP.i2d p6)), .second, .val (.ref bw), .val (.int r), .val (.double (FP.i2d p3)), .second, .val (.double (FP.i2d p6)), .second] [(.ref bw)])) rfl (by rw [hml]; rfl) (Steps.refl _) (argsL := []) (rest := []) (lenOf own_pd3 rfl) rfl (by show 2 * 0 + _ ≤ _; exact Nat.le_of_eq rfl) (hb hby at_169) (fun _ _ => ⟨rfl, e124, (by decide : 3 + 0 ≤ _), (by decide : 36 + 0 ≤ _)⟩)
      dsimp only [Pt.U, Pt.locs, Pt.cells, Pt.slots] at X125 l125 y125 z125 st125 hQ125
      subst l125 y125 z125
      obtain ⟨rfl, Nq125, e125⟩ := hQ125
      have N125 := Fr.app N124 Nq125
      refine own_by (fun _ kZ => st125.trans kZ) ?_
      show own_R p.tables e below _ (T125.setTop (mkF m 172 #[.val (.int p1), .val (.int p2), .val (.int p3), .val (.int p4), .val (.int p5), .val (.int p6), .val (.double (FP.i2d p1)), .second, .val (.double (FP.i2d p2)), .second, .val (.double (FP.i2d p3)), .second, .val (.double (FP.i2d p4)), .second, .val (.double (FP.i2d p5)), .second, .val (.double (FP.i2d p6)), .second, .val (.ref bw), .val (.int r), .val (.double (FP.i2d p3)), .second, .val (.double (FP.i2d p6)), .second] [(.double (FP.i2d p6))]))
      refine own_by (fun _ kZ => own_dload X125.here hx rfl (hb hby at_172) rfl kZ) ?_
      show own_R p.tables e below _ (T125.setTop (mkF m 174 #[.val (.int p1), .val (.int p2), .val (.int p3), .val (.int p4), .val (.int p5), .val (.int p6), .val (.double (FP.i2d p1)), .second, .val (.double (FP.i2d p2)), .second, .val (.double (FP.i2d p3)), .second, .val (.double (FP.i2d p4)), .second, .val (.double (FP.i2d p5)), .second, .val (.double (FP.i2d p6)), .second, .val (.ref bw), .val (.int r), .val (.double (FP.i2d p3)), .second, .val (.double (FP.i2d p6)), .second] [(.double (FP.i2d p6)), (.double (FP.i2d p6))]))
      refine own_by (fun _ kZ => own_dcmp X125.here hx rfl (hb hby at_174) rfl kZ) ?_
      show own_R p.tables e below _ (T125.setTop (mkF m 175 #[.val (.int p1), .val (.int p2), .val (.int p3), .val (.int p4), .val (.int p5), .val (.int p6), .val (.double (FP.i2d p1)), .second, .val (.double (FP.i2d p2)), .second, .val (.double (FP.i2d p3)), .second, .val (.double (FP.i2d p4)), .second, .val (.double (FP.i2d p5)), .second, .val (.double (FP.i2d p6)), .second, .val (.ref bw), .val (.int r), .val (.double (FP.i2d p3)), .second, .val (.double (FP.i2d p6)), .second] [(.int (cmpValue (FP.dcmp (FP.i2d p6) (FP.i2d p6)) .l))]))
      rw [show (cmpValue (FP.dcmp (FP.i2d p6) (FP.i2d p6)) .l) = (0 : Int32) from own_dd _ _]
      show own_R p.tables e below _ (T125.setTop (mkF m 175 #[.val (.int p1), .val (.int p2), .val (.int p3), .val (.int p4), .val (.int p5), .val (.int p6), .val (.double (FP.i2d p1)), .second, .val (.double (FP.i2d p2)), .second, .val (.double (FP.i2d p3)), .second, .val (.double (FP.i2d p4)), .second, .val (.double (FP.i2d p5)), .second, .val (.double (FP.i2d p6)), .second, .val (.ref bw), .val (.int r), .val (.double (FP.i2d p3)), .second, .val (.double (FP.i2d p6)), .second] [(.int (0 : Int32))]))
      refine own_by (fun _ kZ => XS.ifNo X125.here hx rfl (hb hby at_175) rfl ((if0 _ _).trans (teq (rfl : (0 : Int32) = 0)).2) kZ) ?_
      show own_R p.tables e below _ (T125.setTop (mkF m 178 #[.val (.int p1), .val (.int p2), .val (.int p3), .val (.int p4), .val (.int p5), .val (.int p6), .val (.double (FP.i2d p1)), .second, .val (.double (FP.i2d p2)), .second, .val (.double (FP.i2d p3)), .second, .val (.double (FP.i2d p4)), .second, .val (.double (FP.i2d p5)), .second, .val (.double (FP.i2d p6)), .second, .val (.ref bw), .val (.int r), .val (.double (FP.i2d p3)), .second, .val (.double (FP.i2d p6)), .second] []))
      refine own_by (fun _ kZ => XS.iconst X125.here hx rfl (hb hby at_178) kZ) ?_
      show own_R p.tables e below _ (T125.setTop (mkF m 179 #[.val (.int p1), .val (.int p2), .val (.int p3), .val (.int p4), .val (.int p5), .val (.int p6), .val (.double (FP.i2d p1)), .second, .val (.double (FP.i2d p2)), .second, .val (.double (FP.i2d p3)), .second, .val (.double (FP.i2d p4)), .second, .val (.double (FP.i2d p5)), .second, .val (.double (FP.i2d p6)), .second, .val (.ref bw), .val (.int r), .val (.double (FP.i2d p3)), .second, .val (.double (FP.i2d p6)), .second] [(.int (1 : Int32))]))
      refine own_by (fun _ kZ => XS.goto X125.here hx rfl (pc0 := 179) (pc' := 183) rfl (hb hby at_179) (by decide) (by decide) kZ) ?_
      show own_R p.tables e below _ (T125.setTop (mkF m 183 #[.val (.int p1), .val (.int p2), .val (.int p3), .val (.int p4), .val (.int p5), .val (.int p6), .val (.double (FP.i2d p1)), .second, .val (.double (FP.i2d p2)), .second, .val (.double (FP.i2d p3)), .second, .val (.double (FP.i2d p4)), .second, .val (.double (FP.i2d p5)), .second, .val (.double (FP.i2d p6)), .second, .val (.ref bw), .val (.int r), .val (.double (FP.i2d p3)), .second, .val (.double (FP.i2d p6)), .second] [(.int (1 : Int32))]))
      obtain ⟨fs, hr, hrun, hended, hW, hsame⟩ := X125.leave (v := some (.int (1 : Int32))) (fun h => by rw [Bd.returns] at h; cases h)
      refine own_end ⟨_, _, ?_, hrun, hended, _, _, rfl, ?_, ⟨_, rfl⟩, hW, hsame.mono (by decide) (by decide)⟩
      · exact retN X125 hx (t := .boolean) Bd.returns (by simp) (hb hby at_183) hr
      · show Q0 Z p1 p2 p3 p4 p5 p6 h0 n0 _ T125.heap _
        rw [e125]
        exact ⟨rfl, N125⟩
    · skip
      refine own_by (fun _ kZ => XS.icmpNo X120.here hx rfl (hb hby at_96) rfl (flt h3).1 kZ) ?_
      show own_R p.tables e below _ (T120.setTop (mkF m 99 #[.val (.int p1), .val (.int p2), .val (.int p3), .val (.int p4), .val (.int p5), .val (.int p6), .val (.double (FP.i2d p1)), .second, .val (.double (FP.i2d p2)), .second, .val (.double (FP.i2d p3)), .second, .val (.double (FP.i2d p4)), .second, .val (.double (FP.i2d p5)), .second, .val (.double (FP.i2d p6)), .second, .val (.ref bw), .val (.int r), .unset, .unset, .unset, .unset] []))
      refine own_by (fun _ kZ => XS.aload X120.here hx rfl (hb hby at_99) rfl rfl kZ) ?_
      show own_R p.tables e below _ (T120.setTop (mkF m 101 #[.val (.int p1), .val (.int p2), .val (.int p3), .val (.int p4), .val (.int p5), .val (.int p6), .val (.double (FP.i2d p1)), .second, .val (.double (FP.i2d p2)), .second, .val (.double (FP.i2d p3)), .second, .val (.double (FP.i2d p4)), .second, .val (.double (FP.i2d p5)), .second, .val (.double (FP.i2d p6)), .second, .val (.ref bw), .val (.int r), .unset, .unset, .unset, .unset] [(.ref bw)]))
      obtain ⟨cq126, kq126, q126a, q126b, q126c⟩ := isOf hZ rfl f121_bw
      obtain ⟨_, _, ⟨T126, L126, k126, n126⟩, -, X126, ⟨Lc126, hQ126, l126, y126, z126⟩, st126⟩ := X120.virtualBack hx (y := (⟨"com/example/bucket/bucket/simulation/WaitingLine", "removeOldest", "()V"⟩ : MethodName)) (z := (⟨"com/example/bucket/bucket/simulation/WaitingLine", "removeOldest", "()V"⟩ : MethodName)) hown (mvT hZ (hw _ (List.mem_of_getElem? (i := 23) rfl))) (mvT hZ (hw _ (List.mem_of_getElem? (i := 24) rfl))) (notFace_of_selects (args := #[]) (mvT hZ (hw _ (List.mem_of_getElem? (i := 26) rfl)))) (mvT hZ (hw _ (List.mem_of_getElem? (i := 26) rfl))) (mvT hZ (hw _ (List.mem_of_getElem? (i := 25) rfl))) (by decide) (backOf (W := 0) (rm4 l Z a0 hw [] bw b c ((((((0 : Int32) + 1) + 1) + 1) - 1) - 1) (((((0 : Int32) + 1) &&& ((Int32.ofNat 16) - 1)) + 1) &&& ((Int32.ofNat 16) - 1)) (own_uk (own_uk (own_uk (fun _ => (0 : UInt64)) 0 (FP.i2d p1)) 1 (FP.i2d p2)) 2 (FP.i2d p3)) (own_uk (own_uk (own_uk (fun _ => (0 : UInt64)) 0 (FP.i2d p4)) 1 (FP.i2d p5)) 2 (FP.i2d p6)) T120.heap n0 Z122 WL120) hZ (hw _ (List.mem_of_getElem? (i := 27) rfl)) (hw _ (List.mem_of_getElem? (i := 2) rfl)) (by decide) (by decide)) q126a q126c (g := (mkF m 101 #[.val (.int p1), .val (.int p2), .val (.int p3), .val (.int p4), .val (.int p5), .val (.int p6), .val (.double (FP.i2d p1)), .second, .val (.double (FP.i2d p2)), .second, .val (.double (FP.i2d p3)), .second, .val (.double (FP.i2d p4)), .second, .val (.double (FP.i2d p5)), .second, .val (.double (FP.i2d p6)), .second, .val (.ref bw), .val (.int r), .unset, .unset, .unset, .unset] [(.ref bw)])) rfl (by rw [hml]; rfl) (Steps.refl _) (argsL := []) (rest := []) (lenOf own_pd0 rfl) rfl (by show 2 * 0 + _ ≤ _; exact Nat.le_of_eq rfl) (hb hby at_101) (fun _ _ => ⟨rfl, rfl, (by decide : 3 + 0 ≤ _), (by decide : 36 + 0 ≤ _)⟩)
      dsimp only [Pt.U, Pt.locs, Pt.cells, Pt.slots] at X126 l126 y126 z126 st126 hQ126
      subst l126 y126 z126
      obtain ⟨rfl, Nq126, K126, WL126⟩ := hQ126
      have N126 := Fr.app N120 Nq126
      have f127_bw : Exa Z T126.heap bw "com/example/bucket/bucket/simulation/WaitingLine" := f121_bw.keep K126
      have Z128 : n0 ≤ T126.heap.size := Nat.le_trans Z122 K126.1
      refine own_by (fun _ kZ => st126.trans kZ) ?_
      show own_R p.tables e below _ (T126.setTop (mkF m 104 #[.val (.int p1), .val (.int p2), .val (.int p3), .val (.int p4), .val (.int p5), .val (.int p6), .val (.double (FP.i2d p1)), .second, .val (.double (FP.i2d p2)), .second, .val (.double (FP.i2d p3)), .second, .val (.double (FP.i2d p4)), .second, .val (.double (FP.i2d p5)), .second, .val (.double (FP.i2d p6)), .second, .val (.ref bw), .val (.int r), .unset, .unset, .unset, .unset] []))
      have hrv : r = 3 := by
        rcases hr123 with h | h | h
        · rw [h] at h2; exact absurd (by decide) h2
        · rw [h] at h3; exact absurd (by decide) h3
        · exact h
      refine own_by (fun _ kZ => XS.aload X126.here hx rfl (hb hby at_104) rfl rfl kZ) ?_
      show own_R p.tables e below _ (T126.setTop (mkF m 106 #[.val (.int p1), .val (.int p2), .val (.int p3), .val (.int p4), .val (.int p5), .val (.int p6), .val (.double (FP.i2d p1)), .second, .val (.double (FP.i2d p2)), .second, .val (.double (FP.i2d p3)), .second, .val (.double (FP.i2d p4)), .second, .val (.double (FP.i2d p5)), .second, .val (.double (FP.i2d p6)), .second, .val (.ref bw), .val (.int r), .unset, .unset, .unset, .unset] [(.ref bw)]))
      obtain ⟨cq129, kq129, q129a, q129b, q129c⟩ := isOf hZ rfl f127_bw
      obtain ⟨_, _, ⟨T129, L129, k129, n129⟩, -, X129, ⟨Lc129, hQ129, l129, y129, z129⟩, st129⟩ := X126.virtualBack hx (y := (⟨"com/example/bucket/bucket/simulation/WaitingLine", "size", "()I"⟩ : MethodName)) (z := (⟨"com/example/bucket/bucket/simulation/WaitingLine", "size", "()I"⟩ : MethodName)) hown (mvT hZ (hw _ (List.mem_of_getElem? (i := 28) rfl))) (mvT hZ (hw _ (List.mem_of_getElem? (i := 29) rfl))) (notFace_of_selects (args := #[]) (mvT hZ (hw _ (List.mem_of_getElem? (i := 31) rfl)))) (mvT hZ (hw _ (List.mem_of_getElem? (i := 31) rfl))) (mvT hZ (hw _ (List.mem_of_getElem? (i := 30) rfl))) (by decide) (backOf (W := 0) (rm5 l Z a0 hw [] bw b c (((((((0 : Int32) + 1) + 1) + 1) - 1) - 1) - 1) (((((((0 : Int32) + 1) &&& ((Int32.ofNat 16) - 1)) + 1) &&& ((Int32.ofNat 16) - 1)) + 1) &&& ((Int32.ofNat 16) - 1)) (own_uk (own_uk (own_uk (fun _ => (0 : UInt64)) 0 (FP.i2d p1)) 1 (FP.i2d p2)) 2 (FP.i2d p3)) (own_uk (own_uk (own_uk (fun _ => (0 : UInt64)) 0 (FP.i2d p4)) 1 (FP.i2d p5)) 2 (FP.i2d p6)) T126.heap n0 Z128 WL126) hZ (hw _ (List.mem_of_getElem? (i := 32) rfl)) (hw _ (List.mem_of_getElem? (i := 2) rfl)) (by decide) (by decide)) q129a q129c (g := (mkF m 106 #[.val (.int p1), .val (.int p2), .val (.int p3), .val (.int p4), .val (.int p5), .val (.int p6), .val (.double (FP.i2d p1)), .second, .val (.double (FP.i2d p2)), .second, .val (.double (FP.i2d p3)), .second, .val (.double (FP.i2d p4)), .second, .val (.double (FP.i2d p5)), .second, .val (.double (FP.i2d p6)), .second, .val (.ref bw), .val (.int r), .unset, .unset, .unset, .unset] [(.ref bw)])) rfl (by rw [hml]; rfl) (Steps.refl _) (argsL := []) (rest := []) (lenOf own_pd2 rfl) rfl (by show 2 * 0 + _ ≤ _; exact Nat.le_of_eq rfl) (hb hby at_106) (fun _ _ => ⟨rfl, rfl, (by decide : 3 + 0 ≤ _), (by decide : 36 + 0 ≤ _)⟩)
      dsimp only [Pt.U, Pt.locs, Pt.cells, Pt.slots] at X129 l129 y129 z129 st129 hQ129
      subst l129 y129 z129
      obtain ⟨rfl, Nq129, e129⟩ := hQ129
      have N129 := Fr.app N126 Nq129
      refine own_by (fun _ kZ => st129.trans kZ) ?_
      show own_R p.tables e below _ (T129.setTop (mkF m 109 #[.val (.int p1), .val (.int p2), .val (.int p3), .val (.int p4), .val (.int p5), .val (.int p6), .val (.double (FP.i2d p1)), .second, .val (.double (FP.i2d p2)), .second, .val (.double (FP.i2d p3)), .second, .val (.double (FP.i2d p4)), .second, .val (.double (FP.i2d p5)), .second, .val (.double (FP.i2d p6)), .second, .val (.ref bw), .val (.int r), .unset, .unset, .unset, .unset] [(.int (((((((0 : Int32) + 1) + 1) + 1) - 1) - 1) - 1))]))
      refine own_by (fun _ kZ => XS.iconst X129.here hx rfl (hb hby at_109) kZ) ?_
      show own_R p.tables e below _ (T129.setTop (mkF m 110 #[.val (.int p1), .val (.int p2), .val (.int p3), .val (.int p4), .val (.int p5), .val (.int p6), .val (.double (FP.i2d p1)), .second, .val (.double (FP.i2d p2)), .second, .val (.double (FP.i2d p3)), .second, .val (.double (FP.i2d p4)), .second, .val (.double (FP.i2d p5)), .second, .val (.double (FP.i2d p6)), .second, .val (.ref bw), .val (.int r), .unset, .unset, .unset, .unset] [(.int (3 : Int32)), (.int (((((((0 : Int32) + 1) + 1) + 1) - 1) - 1) - 1))]))
      refine own_by (fun _ kZ => XS.iload X129.here hx rfl (hb hby at_110) rfl kZ) ?_
      show own_R p.tables e below _ (T129.setTop (mkF m 112 #[.val (.int p1), .val (.int p2), .val (.int p3), .val (.int p4), .val (.int p5), .val (.int p6), .val (.double (FP.i2d p1)), .second, .val (.double (FP.i2d p2)), .second, .val (.double (FP.i2d p3)), .second, .val (.double (FP.i2d p4)), .second, .val (.double (FP.i2d p5)), .second, .val (.double (FP.i2d p6)), .second, .val (.ref bw), .val (.int r), .unset, .unset, .unset, .unset] [(.int r), (.int (3 : Int32)), (.int (((((((0 : Int32) + 1) + 1) + 1) - 1) - 1) - 1))]))
      refine own_by (fun _ kZ => XS.isub X129.here hx rfl (hb hby at_112) rfl kZ) ?_
      show own_R p.tables e below _ (T129.setTop (mkF m 113 #[.val (.int p1), .val (.int p2), .val (.int p3), .val (.int p4), .val (.int p5), .val (.int p6), .val (.double (FP.i2d p1)), .second, .val (.double (FP.i2d p2)), .second, .val (.double (FP.i2d p3)), .second, .val (.double (FP.i2d p4)), .second, .val (.double (FP.i2d p5)), .second, .val (.double (FP.i2d p6)), .second, .val (.ref bw), .val (.int r), .unset, .unset, .unset, .unset] [(.int ((3 : Int32) - r)), (.int (((((((0 : Int32) + 1) + 1) + 1) - 1) - 1) - 1))]))
      refine own_by (fun _ kZ => XS.icmpYes X129.here hx rfl (pc0 := 113) (pc' := 118) rfl (hb hby at_113) rfl (teq (by rw [hrv]; decide : (((((((0 : Int32) + 1) + 1) + 1) - 1) - 1) - 1) = ((3 : Int32) - r))).1 (by decide) (by decide) kZ) ?_
      show own_R p.tables e below _ (T129.setTop (mkF m 118 #[.val (.int p1), .val (.int p2), .val (.int p3), .val (.int p4), .val (.int p5), .val (.int p6), .val (.double (FP.i2d p1)), .second, .val (.double (FP.i2d p2)), .second, .val (.double (FP.i2d p3)), .second, .val (.double (FP.i2d p4)), .second, .val (.double (FP.i2d p5)), .second, .val (.double (FP.i2d p6)), .second, .val (.ref bw), .val (.int r), .unset, .unset, .unset, .unset] []))
      refine own_by (fun _ kZ => XS.iload X129.here hx rfl (hb hby at_118) rfl kZ) ?_
      show own_R p.tables e below _ (T129.setTop (mkF m 120 #[.val (.int p1), .val (.int p2), .val (.int p3), .val (.int p4), .val (.int p5), .val (.int p6), .val (.double (FP.i2d p1)), .second, .val (.double (FP.i2d p2)), .second, .val (.double (FP.i2d p3)), .second, .val (.double (FP.i2d p4)), .second, .val (.double (FP.i2d p5)), .second, .val (.double (FP.i2d p6)), .second, .val (.ref bw), .val (.int r), .unset, .unset, .unset, .unset] [(.int r)]))
      refine own_by (fun _ kZ => XS.iconst X129.here hx rfl (hb hby at_120) kZ) ?_
      show own_R p.tables e below _ (T129.setTop (mkF m 121 #[.val (.int p1), .val (.int p2), .val (.int p3), .val (.int p4), .val (.int p5), .val (.int p6), .val (.double (FP.i2d p1)), .second, .val (.double (FP.i2d p2)), .second, .val (.double (FP.i2d p3)), .second, .val (.double (FP.i2d p4)), .second, .val (.double (FP.i2d p5)), .second, .val (.double (FP.i2d p6)), .second, .val (.ref bw), .val (.int r), .unset, .unset, .unset, .unset] [(.int (3 : Int32)), (.int r)]))
      refine own_by (fun _ kZ => XS.icmpNo X129.here hx rfl (hb hby at_121) rfl (teq hrv).2 kZ) ?_
      show own_R p.tables e below _ (T129.setTop (mkF m 124 #[.val (.int p1), .val (.int p2), .val (.int p3), .val (.int p4), .val (.int p5), .val (.int p6), .val (.double (FP.i2d p1)), .second, .val (.double (FP.i2d p2)), .second, .val (.double (FP.i2d p3)), .second, .val (.double (FP.i2d p4)), .second, .val (.double (FP.i2d p5)), .second, .val (.double (FP.i2d p6)), .second, .val (.ref bw), .val (.int r), .unset, .unset, .unset, .unset] []))
      refine own_by (fun _ kZ => XS.iconst X129.here hx rfl (hb hby at_124) kZ) ?_
      show own_R p.tables e below _ (T129.setTop (mkF m 125 #[.val (.int p1), .val (.int p2), .val (.int p3), .val (.int p4), .val (.int p5), .val (.int p6), .val (.double (FP.i2d p1)), .second, .val (.double (FP.i2d p2)), .second, .val (.double (FP.i2d p3)), .second, .val (.double (FP.i2d p4)), .second, .val (.double (FP.i2d p5)), .second, .val (.double (FP.i2d p6)), .second, .val (.ref bw), .val (.int r), .unset, .unset, .unset, .unset] [(.int (1 : Int32))]))
      obtain ⟨fs, hr, hrun, hended, hW, hsame⟩ := X129.leave (v := some (.int (1 : Int32))) (fun h => by rw [Bd.returns] at h; cases h)
      refine own_end ⟨_, _, ?_, hrun, hended, _, _, rfl, ?_, ⟨_, rfl⟩, hW, hsame.mono (by decide) (by decide)⟩
      · exact retN X129 hx (t := .boolean) Bd.returns (by simp) (hb hby at_125) hr
      · show Q0 Z p1 p2 p3 p4 p5 p6 h0 n0 _ T129.heap _
        rw [e129]
        exact ⟨rfl, N129⟩
set_option maxRecDepth 65536 in
set_option maxHeartbeats 40000000 in
theorem comes_1 {Post : Tables → Env → Array Value → State → Outcome → State → Prop} (hpost : ∀ tb e args s v u, (limb_1_1.after args s (.returned v) u = true ∧ limb_1_2.after args s (.returned v) u = true) → FrameEnd s (.returned v) u (Jvm.fieldLocs frame_1_writes args s ++ Jvm.arrayLocs frame_1_arrays args s ++ Jvm.staticLocs frame_1_statics s) 16 192 → Post tb e args s (.returned v) u) :
    ArmFor flags0 classFile x code maxLocals ret World_1 tables_1 room_1 Calls_1 rest_1 Pre_1 Post := by
  intro l hfl _ _ p e ha hc hk s m args below hf hA hF happ hP
  obtain ⟨hcalls, hrest, hpre⟩ := hP
  obtain ⟨-, -, -, hnamed, -, -, -, hat⟩ := (Spec.applies_iff hf).mp happ
  obtain ⟨hg, hn⟩ := and_e (Cond.before_iff.mp (show (Jvm.Cond.and given_1 narrow_1).before args s = true from hpre))
  obtain ⟨g0, q0⟩ := and_e hg
  obtain ⟨g1, q1⟩ := and_e q0
  obtain ⟨g2, q2⟩ := and_e q1
  obtain ⟨g3, q3⟩ := and_e q2
  obtain ⟨g4, q4⟩ := and_e q3
  obtain ⟨g5, q5⟩ := and_e q4
  have g6 := q5
  obtain ⟨w0, w1, w2, w3, w4, w5, rfl⟩ : ∃ w0 w1 w2 w3 w4 w5 : Value, args = #[w0, w1, w2, w3, w4, w5] := by
    have hs : args.size = 6 := by simpa [Cond.value, given_1] using g0
    obtain ⟨L⟩ := args
    match L, hs with
    | [w0, w1, w2, w3, w4, w5], _ => exact ⟨w0, w1, w2, w3, w4, w5, rfl⟩
  have hw := fun d (hd : d ∈ tables_1) => atoms_spec (ws := Jvm.Cond.code x code maxLocals ret :: tables_1) hat d (List.mem_cons_of_mem _ hd)
  have hfit : Fit s := fun {y c} hc i hi => by
    obtain ⟨ha, rfl⟩ := Array.getElem?_eq_some_iff.mp hc
    have q := List.all_eq_true.mp ((Array.all_eq_true_iff_forall_mem.mp hF) _ (Array.getElem_mem ha)) i (List.mem_range.mpr hi)
    simpa [Array.getElem?_eq_getElem hi] using q
  obtain ⟨i0, ei0⟩ := is_v g1
  obtain rfl : w0 = (.int i0) := Option.some.inj ei0
  obtain ⟨i1, ei1⟩ := is_v g2
  obtain rfl : w1 = (.int i1) := Option.some.inj ei1
  obtain ⟨i2, ei2⟩ := is_v g3
  obtain rfl : w2 = (.int i2) := Option.some.inj ei2
  obtain ⟨i3, ei3⟩ := is_v g4
  obtain rfl : w3 = (.int i3) := Option.some.inj ei3
  obtain ⟨i4, ei4⟩ := is_v g5
  obtain rfl : w4 = (.int i4) := Option.some.inj ei4
  obtain ⟨i5, ei5⟩ := is_v g6
  obtain rfl : w5 = (.int i5) := Option.some.inj ei5
  obtain ⟨n, o, h1, h2, h3, _, L, rfl, ⟨rfl, N⟩, hq⟩ := rm0 l s _ hw tables_1 i0 i1 i2 i3 i4 i5  s.heap s.heap.size (Nat.le_refl _)  p e ha hc hk s m _ below hf ((Spec.applies_iff_loose hf).mp happ).1 ⟨rfl, State.Warmed39.refl s, rfl⟩ trivial
  refine ⟨n, _, h1, h2, h3, hpost _ _ _ _ _ _ ⟨Cond.after_iff.mpr rfl, Cond.after_iff.mpr (eq_i res_at (Term.int_eval (1)) rfl)⟩ ⟨hq.1, hq.2.1, (hq.2.2.sift fun y hy => Or.inr (N y hy)).mono (by decide) (by decide)⟩⟩
theorem main_1_1 : Claimed_1_1 := comes_1 fun _ _ _ _ _ _ h hF => ⟨h.1, hF⟩
theorem main_1_2 : Claimed_1_2 := comes_1 fun _ _ _ _ _ _ h hF => ⟨h.2, hF⟩
end Jvm.Pilot.@@N@@
namespace Jvm.Pilot.@@N@@
open Jvm Jvm.ClassFile Sem Op Lib Jvm.Free Jvm.Stand Jvm.Pilot.@@N@@.Jvm.D
/-! MADE BY PROGRAM (witnessworld.py) out of the Statement's table words and the real class files: 11 classes; the members and pool entries that the words name. The judged class is class 1, her method 1. -/
namespace start1
open Jvm.ClassFile
def u (s : String) : CpInfo := .utf8 (stringToUtf16 s)
/-- a pool by its gaps: so many unusable entries, then the entry; so many at the end -/
def gap : Nat → List CpInfo → List CpInfo
  | 0, r => r
  | n + 1, r => .unusable :: gap n r
def poolList (es : List (Nat × CpInfo)) (last : Nat) : List CpInfo := es.foldr (fun e r => gap e.1 (e.2 :: r)) (gap last [])
def pool (es : List (Nat × CpInfo)) (last : Nat) : Array CpInfo := ⟨poolList es last⟩
def fileOf (pool : Array CpInfo) (this : Nat) (attrs : Array Attribute := #[]) (ms : Array MethodInfo := #[]) (fl : Nat := 33) (sup : Nat := 0) (ifs : Array Nat := #[]) (fds : Array FieldInfo := #[]) : ClassFile where
  minorVersion := 0
  majorVersion := 65
  constantPool := pool
  accessFlags := fl
  thisClass := this
  superClass := sup
  interfaces := ifs
  fields := fds
  methods := ms
  attributes := attrs
def plain (name : String) (sup : Option ClassId) : Class where
  name := name
  kind := .ordinary
  loader := none
  accessFlags := 33
  super := sup
  interfaces := #[]
  cf := none
  fields := #[]
  methods := #[]
  instanceTypes := #[]
  staticTypes := #[]
  resolved := #[]
  callSites := []
  init := .initialized
  statics := none
  mirror := none

def pool0 : Array CpInfo := pool [(5, u "<init>"), (0, u "()V"), (1, .class_ 10), (1, u "java/lang/Object")] 113

def k0c0 : Code := { maxStack := 0, maxLocals := 1, code := object_method_1_code, exceptionTable := #[], attributes := #[] }
def k0m0 : Method := { name := "<init>", desc := "()V", sig := { parameters := [], returnType := none }, accessFlags := 1, code := some k0c0 }
/-- java/lang/Object -/
def k0 : Class := { plain "java/lang/Object" none with
  accessFlags := 33
  interfaces := #[]
  cf := some (fileOf pool0 8 #[] #[{ accessFlags := 1, nameIndex := 5, descriptorIndex := 6, attributes := #[] }] 33 0 #[] #[])
  fields := #[]
  methods := #[k0m0]
  instanceTypes := #[]
  staticTypes := #[]
  resolved := Array.replicate 124 none
  statics := none }

def pool1 : Array CpInfo := pool [(2, .class_ 4), (0, .nameAndType 5 6), (0, u "java/lang/Object"), (0, u "<init>"), (0, u "()V"), (0, .class_ 8), (0, u "com/example/bucket/bucket/simulation/WaitingLine"), (0, .methodref 7 3), (0, .methodref 7 11), (0, .nameAndType 12 13), (0, u "add"), (0, u "(DD)V"), (0, .methodref 7 15), (0, .nameAndType 16 6), (0, u "removeOldest"), (0, .methodref 7 18), (0, .nameAndType 19 20), (0, u "size"), (0, u "()I"), (0, .methodref 7 22), (0, .nameAndType 23 24), (0, u "oldestArrival"), (0, u "()D"), (0, .methodref 7 26), (0, .nameAndType 27 24), (0, u "oldestSize"), (0, .class_ 29), (0, u "com/example/bucket/bucket/simulation/WaitingLineRemoveOldestPinLaw"), (2, u "law"), (0, u "(IIIIII)Z")] 3

def k1m0 : Method := { name := "<init>", desc := "()V", sig := { parameters := [], returnType := none }, accessFlags := 1, code := none }
def k1c1 : Code := { maxStack := 5, maxLocals := 24, code := code, exceptionTable := #[], attributes := #[] }
def k1m1 : Method := { name := "law", desc := "(IIIIII)Z", sig := { parameters := [.int, .int, .int, .int, .int, .int], returnType := some .boolean }, accessFlags := 9, code := some k1c1 }
/-- com/example/bucket/bucket/simulation/WaitingLineRemoveOldestPinLaw -/
def k1 : Class := { plain "com/example/bucket/bucket/simulation/WaitingLineRemoveOldestPinLaw" (some 0) with
  accessFlags := 49
  interfaces := #[]
  cf := some (fileOf pool1 28 #[] #[{ accessFlags := 1, nameIndex := 5, descriptorIndex := 6, attributes := #[] }, { accessFlags := 9, nameIndex := 32, descriptorIndex := 33, attributes := #[] }] 49 2 #[] #[])
  fields := #[]
  methods := #[k1m0, k1m1]
  instanceTypes := #[]
  staticTypes := #[]
  resolved := Array.replicate 37 none
  statics := none }

def pool2 : Array CpInfo := pool [(1, .methodref 2 3), (0, .class_ 4), (0, .nameAndType 5 6), (0, u "java/lang/Object"), (0, u "<init>"), (0, u "()V"), (0, .fieldref 8 9), (0, .class_ 10), (0, .nameAndType 11 12), (0, u "com/example/bucket/bucket/simulation/WaitingLine"), (0, u "m_arrivals"), (0, u "[D"), (0, .fieldref 8 14), (0, .nameAndType 15 12), (0, u "m_sizes"), (0, .fieldref 8 17), (0, .nameAndType 18 19), (0, u "m_size"), (0, u "I"), (3, .fieldref 8 24), (0, .nameAndType 25 19), (0, u "m_oldest"), (24, u "MOST_ROOM"), (3, u "size"), (0, u "()I"), (0, u "add"), (0, u "(DD)V"), (1, u "oldestArrival"), (0, u "()D"), (0, u "oldestSize"), (0, u "removeOldest")] 2

def k2c0 : Code := { maxStack := 2, maxLocals := 1, code := prog_76_method_1_code, exceptionTable := #[], attributes := #[] }
def k2m0 : Method := { name := "<init>", desc := "()V", sig := { parameters := [], returnType := none }, accessFlags := 0, code := some k2c0 }
def k2c1 : Code := { maxStack := 1, maxLocals := 1, code := prog_76_method_2_code, exceptionTable := #[], attributes := #[] }
def k2m1 : Method := { name := "size", desc := "()I", sig := { parameters := [], returnType := some .int }, accessFlags := 0, code := some k2c1 }
def k2c2 : Code := { maxStack := 4, maxLocals := 6, code := prog_76_method_3_code, exceptionTable := #[], attributes := #[] }
def k2m2 : Method := { name := "add", desc := "(DD)V", sig := { parameters := [.double, .double], returnType := none }, accessFlags := 0, code := some k2c2 }
def k2c3 : Code := { maxStack := 2, maxLocals := 1, code := prog_76_method_4_code, exceptionTable := #[], attributes := #[] }
def k2m3 : Method := { name := "oldestArrival", desc := "()D", sig := { parameters := [], returnType := some .double }, accessFlags := 0, code := some k2c3 }
def k2c4 : Code := { maxStack := 2, maxLocals := 1, code := prog_76_method_5_code, exceptionTable := #[], attributes := #[] }
def k2m4 : Method := { name := "oldestSize", desc := "()D", sig := { parameters := [], returnType := some .double }, accessFlags := 0, code := some k2c4 }
def k2c5 : Code := { maxStack := 4, maxLocals := 1, code := prog_76_method_6_code, exceptionTable := #[], attributes := #[] }
def k2m5 : Method := { name := "removeOldest", desc := "()V", sig := { parameters := [], returnType := none }, accessFlags := 0, code := some k2c5 }
/-- com/example/bucket/bucket/simulation/WaitingLine -/
def k2 : Class := { plain "com/example/bucket/bucket/simulation/WaitingLine" (some 0) with
  accessFlags := 48
  interfaces := #[]
  cf := some (fileOf pool2 8 #[] #[{ accessFlags := 0, nameIndex := 5, descriptorIndex := 6, attributes := #[] }, { accessFlags := 0, nameIndex := 54, descriptorIndex := 55, attributes := #[] }, { accessFlags := 0, nameIndex := 56, descriptorIndex := 57, attributes := #[] }, { accessFlags := 0, nameIndex := 59, descriptorIndex := 60, attributes := #[] }, { accessFlags := 0, nameIndex := 61, descriptorIndex := 60, attributes := #[] }, { accessFlags := 0, nameIndex := 62, descriptorIndex := 6, attributes := #[] }] 48 2 #[] #[{ accessFlags := 26, nameIndex := 50, descriptorIndex := 19, attributes := #[] }, { accessFlags := 2, nameIndex := 11, descriptorIndex := 12, attributes := #[] }, { accessFlags := 2, nameIndex := 15, descriptorIndex := 12, attributes := #[] }, { accessFlags := 2, nameIndex := 25, descriptorIndex := 19, attributes := #[] }, { accessFlags := 2, nameIndex := 18, descriptorIndex := 19, attributes := #[] }])
  fields := #[{ name := "MOST_ROOM", type := .int, accessFlags := 26, slot := 0, constantValue := 0 }, { name := "m_arrivals", type := (.array .double), accessFlags := 2, slot := 0, constantValue := 0 }, { name := "m_sizes", type := (.array .double), accessFlags := 2, slot := 1, constantValue := 0 }, { name := "m_oldest", type := .int, accessFlags := 2, slot := 2, constantValue := 0 }, { name := "m_size", type := .int, accessFlags := 2, slot := 3, constantValue := 0 }]
  methods := #[k2m0, k2m1, k2m2, k2m3, k2m4, k2m5]
  instanceTypes := #[(.array .double), (.array .double), .int, .int]
  staticTypes := #[.int]
  resolved := Array.replicate 65 none
  statics := none }

def pool3 : Array CpInfo := pool [(1, u "java/lang/Cloneable"), (0, .class_ 1), (0, u "java/lang/Object"), (0, .class_ 3)] 3

/-- java/lang/Cloneable -/
def k3 : Class := { plain "java/lang/Cloneable" (some 0) with
  accessFlags := 1537
  interfaces := #[]
  cf := some (fileOf pool3 2 #[] #[] 1537 4 #[] #[])
  fields := #[]
  methods := #[]
  instanceTypes := #[]
  staticTypes := #[]
  resolved := Array.replicate 8 none
  statics := none }

def pool4 : Array CpInfo := pool [(1, u "java/io/Serializable"), (0, .class_ 1), (0, u "java/lang/Object"), (0, .class_ 3)] 3

/-- java/io/Serializable -/
def k4 : Class := { plain "java/io/Serializable" (some 0) with
  accessFlags := 1537
  interfaces := #[]
  cf := some (fileOf pool4 2 #[] #[] 1537 4 #[] #[])
  fields := #[]
  methods := #[]
  instanceTypes := #[]
  staticTypes := #[]
  resolved := Array.replicate 8 none
  statics := none }

/-- the primitive byte -/
def k5 : Class := { plain "byte" none with kind := .primitive 'B', accessFlags := 0x411 }
/-- [B -/
def k6 : Class := { plain "[B" (some 0) with kind := .array 5 .byte, interfaces := #[3, 4], accessFlags := 1041 }

/-- the primitive double -/
def k7 : Class := { plain "double" none with kind := .primitive 'D', accessFlags := 0x411 }
/-- [D -/
def k8 : Class := { plain "[D" (some 0) with kind := .array 7 .double, interfaces := #[3, 4], accessFlags := 1041 }

/-- the primitive int -/
def k9 : Class := { plain "int" none with kind := .primitive 'I', accessFlags := 0x411 }
/-- [I -/
def k10 : Class := { plain "[I" (some 0) with kind := .array 9 .int, interfaces := #[3, 4], accessFlags := 1041 }

def heap : Heap := #[]
def classes : Array Class := #[k0, k1, k2, k3, k4, k5, k6, k7, k8, k9, k10]
def interned : List (Array UInt16 × Addr) := []
def slotsUsed : Nat := 0
def theMethod : MethodId := ⟨1, 1⟩
def args0 : Array Value := #[.int 5, .int 6, .int 7, .int 8, .int 9, .int 10]
def aboutOver (below : List Frame) : State where
  vm := { classes := classes, interned := interned.toArray }
  heap := heap
  slotsUsed := slotsUsed
  threads := #[{ frames := .invoking theMethod args0 :: below }]
def below0 : List Frame := [.native { method := ⟨0, 0⟩, args := #[] }]
def about1 : State := aboutOver below0
def p0 : Program := .bare "" "" ""
def e0 : Env := launch0.env 0 0 0
theorem w_frames : about1.frames = Frame.invoking theMethod args0 :: below0 := rfl
set_option maxRecDepth 65536 in
theorem w_args : argsFit about1.vm theMethod args0 = true := by decide +kernel
set_option maxRecDepth 65536 in
theorem w_heap : heapFits about1 = true := by decide +kernel
set_option maxRecDepth 65536 in
theorem w_runnable : about1.curStatus? = some .runnable := by decide +kernel
set_option maxRecDepth 65536 in
theorem w_alone : about1.alone = true := by decide +kernel
set_option maxRecDepth 65536 in
theorem w_named : about1.methodNamed? x = some theMethod := by decide +kernel
set_option maxRecDepth 65536 in
theorem w_hears : about1.hears theMethod below0 = true := by decide +kernel
set_option maxRecDepth 65536 in
theorem w_ripe : about1.ripe theMethod args0 below0 = true := by decide +kernel
theorem w_running : about1.status = .running := rfl
set_option maxRecDepth 65536 in
theorem w_room : about1.hasRoom e0.platform room_1 = true :=
  launch0.hasRoom_least _ room_1 (by decide +kernel) (by decide +kernel) (by decide +kernel) (by decide +kernel) (by decide +kernel) (by decide +kernel)
theorem allAtoms_all (ts : List Jvm.Cond) (a : Array Jvm.Value) (st : Jvm.State) : (allAtoms ts).before a st = ts.all (fun c => c.before a st) := by
  induction ts with
  | nil => rfl
  | cons c t ih =>
    show (Jvm.Cond.and c (allAtoms t)).before a st = _
    rw [Jvm.Cond.before_and, ih, List.all_cons]
def words1 : List Jvm.Cond := Jvm.Cond.code x code maxLocals ret :: tables_1
/-- a 'code' word, met by the world's own term for the bytes: nothing is compared byte by byte -/
theorem code_word {y : MethodName} {bytes : ByteArray} {mx : Nat} {rt : Option FieldType} {a : Array Value} {s : State} {m : MethodId} {meth : Method} {c : Code} (h1 : s.methodNamed? y = some m) (h2 : s.vm.method? m = some meth) (h3 : meth.code = some c) (h4 : c.code = bytes)
    (h5 : (c.maxLocals == mx && c.exceptionTable.isEmpty && decide (c.maxStack ≤ mostOperands) && decide (meth.sig.returnType = rt) && !meth.locks && decide (parseMethodDescriptor y.desc = some meth.sig)) = true) : (Jvm.Cond.code y bytes mx rt).before a s = true := by
  simp only [Bool.and_eq_true, beq_iff_eq, Bool.not_eq_true', decide_eq_true_eq] at h5
  obtain ⟨⟨⟨⟨⟨g1, g2⟩, g3⟩, g4⟩, g5⟩, g6⟩ := h5
  simp [Cond.before, Cond.holds, Cond.value, h1, h2, h3, h4, g1, g2, g3, g4, g5, g6]
def isCode : Jvm.Cond → Bool
  | .code _ _ _ _ => true
  | _ => false
theorem all_split {L : List Jvm.Cond} {P : Jvm.Cond → Bool} (h1 : L.all (fun c => isCode c || P c) = true) (h2 : ∀ c ∈ L.filter isCode, P c = true) : L.all P = true := by
  refine List.all_eq_true.mpr fun c hc => ?_
  have h := List.all_eq_true.mp h1 c hc
  rcases Bool.eq_false_or_eq_true (isCode c) with hi | hi
  · exact h2 c (List.mem_filter.mpr ⟨hc, hi⟩)
  · simpa [hi] using h
set_option maxRecDepth 65536 in
theorem w_c0 : (Jvm.Cond.code x code maxLocals ret).before args0 about1 = true := code_word (m := ⟨1, 1⟩) (meth := k1m1) (c := k1c1) (by decide +kernel) rfl rfl rfl (by decide +kernel)
set_option maxRecDepth 65536 in
theorem w_c1 : (Jvm.Cond.code ({ cls := "com/example/bucket/bucket/simulation/WaitingLine", name := "<init>", desc := "()V" } : Jvm.MethodName) prog_76_method_1_code (1 : Nat) (Option.none : Option Jvm.ClassFile.FieldType)).before args0 about1 = true := code_word (m := ⟨2, 0⟩) (meth := k2m0) (c := k2c0) (by decide +kernel) rfl rfl rfl (by decide +kernel)
set_option maxRecDepth 65536 in
theorem w_c2 : (Jvm.Cond.code ({ cls := "java/lang/Object", name := "<init>", desc := "()V" } : Jvm.MethodName) object_method_1_code (1 : Nat) (Option.none : Option Jvm.ClassFile.FieldType)).before args0 about1 = true := code_word (m := ⟨0, 0⟩) (meth := k0m0) (c := k0c0) (by decide +kernel) rfl rfl rfl (by decide +kernel)
set_option maxRecDepth 65536 in
theorem w_c3 : (Jvm.Cond.code ({ cls := "com/example/bucket/bucket/simulation/WaitingLine", name := "add", desc := "(DD)V" } : Jvm.MethodName) prog_76_method_3_code (6 : Nat) (Option.none : Option Jvm.ClassFile.FieldType)).before args0 about1 = true := code_word (m := ⟨2, 2⟩) (meth := k2m2) (c := k2c2) (by decide +kernel) rfl rfl rfl (by decide +kernel)
set_option maxRecDepth 65536 in
theorem w_c4 : (Jvm.Cond.code ({ cls := "com/example/bucket/bucket/simulation/WaitingLine", name := "removeOldest", desc := "()V" } : Jvm.MethodName) prog_76_method_6_code (1 : Nat) (Option.none : Option Jvm.ClassFile.FieldType)).before args0 about1 = true := code_word (m := ⟨2, 5⟩) (meth := k2m5) (c := k2c5) (by decide +kernel) rfl rfl rfl (by decide +kernel)
set_option maxRecDepth 65536 in
theorem w_c5 : (Jvm.Cond.code ({ cls := "com/example/bucket/bucket/simulation/WaitingLine", name := "size", desc := "()I" } : Jvm.MethodName) prog_76_method_2_code (1 : Nat) (Option.some Jvm.ClassFile.FieldType.int)).before args0 about1 = true := code_word (m := ⟨2, 1⟩) (meth := k2m1) (c := k2c1) (by decide +kernel) rfl rfl rfl (by decide +kernel)
set_option maxRecDepth 65536 in
theorem w_c6 : (Jvm.Cond.code ({ cls := "com/example/bucket/bucket/simulation/WaitingLine", name := "oldestArrival", desc := "()D" } : Jvm.MethodName) prog_76_method_4_code (1 : Nat) (Option.some Jvm.ClassFile.FieldType.double)).before args0 about1 = true := code_word (m := ⟨2, 3⟩) (meth := k2m3) (c := k2c3) (by decide +kernel) rfl rfl rfl (by decide +kernel)
set_option maxRecDepth 65536 in
theorem w_c7 : (Jvm.Cond.code ({ cls := "com/example/bucket/bucket/simulation/WaitingLine", name := "oldestSize", desc := "()D" } : Jvm.MethodName) prog_76_method_5_code (1 : Nat) (Option.some Jvm.ClassFile.FieldType.double)).before args0 about1 = true := code_word (m := ⟨2, 4⟩) (meth := k2m4) (c := k2c4) (by decide +kernel) rfl rfl rfl (by decide +kernel)
def codes1 : List Jvm.Cond := [Jvm.Cond.code x code maxLocals ret, Jvm.Cond.code ({ cls := "com/example/bucket/bucket/simulation/WaitingLine", name := "<init>", desc := "()V" } : Jvm.MethodName) prog_76_method_1_code (1 : Nat) (Option.none : Option Jvm.ClassFile.FieldType), Jvm.Cond.code ({ cls := "java/lang/Object", name := "<init>", desc := "()V" } : Jvm.MethodName) object_method_1_code (1 : Nat) (Option.none : Option Jvm.ClassFile.FieldType), Jvm.Cond.code ({ cls := "com/example/bucket/bucket/simulation/WaitingLine", name := "add", desc := "(DD)V" } : Jvm.MethodName) prog_76_method_3_code (6 : Nat) (Option.none : Option Jvm.ClassFile.FieldType), Jvm.Cond.code ({ cls := "com/example/bucket/bucket/simulation/WaitingLine", name := "removeOldest", desc := "()V" } : Jvm.MethodName) prog_76_method_6_code (1 : Nat) (Option.none : Option Jvm.ClassFile.FieldType), Jvm.Cond.code ({ cls := "com/example/bucket/bucket/simulation/WaitingLine", name := "size", desc := "()I" } : Jvm.MethodName) prog_76_method_2_code (1 : Nat) (Option.some Jvm.ClassFile.FieldType.int), Jvm.Cond.code ({ cls := "com/example/bucket/bucket/simulation/WaitingLine", name := "oldestArrival", desc := "()D" } : Jvm.MethodName) prog_76_method_4_code (1 : Nat) (Option.some Jvm.ClassFile.FieldType.double), Jvm.Cond.code ({ cls := "com/example/bucket/bucket/simulation/WaitingLine", name := "oldestSize", desc := "()D" } : Jvm.MethodName) prog_76_method_5_code (1 : Nat) (Option.some Jvm.ClassFile.FieldType.double)]
set_option maxRecDepth 65536 in
theorem codes_eq : words1.filter isCode = codes1 := rfl
theorem w_codes : ∀ c ∈ words1.filter isCode, c.before args0 about1 = true := by
  rw [codes_eq]
  intro c hc
  simp only [codes1, List.mem_cons, List.not_mem_nil, or_false] at hc
  rcases hc with rfl | rfl | rfl | rfl | rfl | rfl | rfl | rfl
  · exact w_c0
  · exact w_c1
  · exact w_c2
  · exact w_c3
  · exact w_c4
  · exact w_c5
  · exact w_c6
  · exact w_c7
set_option maxRecDepth 65536 in
theorem w_t1 : (words1.take 24).all (fun c => isCode c || c.before args0 about1) = true := by decide +kernel
set_option maxRecDepth 65536 in
theorem w_t2 : (words1.drop 24).all (fun c => isCode c || c.before args0 about1) = true := by decide +kernel
theorem w_tables : (allAtoms (Jvm.Cond.code x code maxLocals ret :: tables_1)).before args0 about1 = true := by
  rw [allAtoms_all]
  show words1.all (fun c => c.before args0 about1) = true
  refine all_split ?_ w_codes
  rw [← List.take_append_drop 24 words1, List.all_append, w_t1, w_t2]
  rfl
set_option maxRecDepth 65536 in
theorem w_case : (Jvm.Cond.and given_1 narrow_1).before args0 about1 = true := by decide +kernel
theorem w_applies : (headSpec (Jvm.Cond.code x code maxLocals ret :: tables_1) room_1).applies x e0.platform about1 = true :=
  (Spec.applies_iff w_frames).mpr ⟨w_running, w_runnable, w_alone, w_named, w_hears, w_ripe, w_room, w_tables⟩
theorem atStart : AtStart classFile x code maxLocals ret World_1 tables_1 room_1 Calls_1 rest_1 Pre_1 launch0 p0 e0 about1 theMethod args0 below0 :=
  ⟨lists_1, trivial, launch0.admits_env _ _ _, launch0.least_env, fairChoices_fair.cas, fairChoices_fair.clock, w_frames, w_args, w_heap, w_applies, trivial, trivial, w_case⟩
end start1
theorem witness_1 : WitnessClaimed_1 := ⟨start1.p0, start1.e0, start1.about1, start1.theMethod, start1.args0, start1.below0, start1.atStart⟩
end Jvm.Pilot.@@N@@
