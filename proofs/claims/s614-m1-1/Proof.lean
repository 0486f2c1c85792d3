import JvmDerived
import JvmDerived.Pilot.@@N@@Statement
import JvmDerived.Pilot.@@N@@Code
set_option linter.unusedVariables false
set_option linter.unusedSimpArgs false

namespace Jvm.Pilot.@@N@@
open Jvm Jvm.ClassFile Sem Op Lib Jvm.Free Jvm.Stand Jvm.LawKit Jvm.RoadKit Bundle Jvm.Pilot.@@N@@.Jvm.D
/-! from S the run comes to an end that A accepts -/
def own_R (tb : Tables) (e : Env) (below : List Frame) (A : State → Outcome → Prop) (S : State) : Prop := ∃ t o, Steps tb e below S t ∧ A t o
theorem own_by {tb : Tables} {e : Env} {below : List Frame} {A : State → Outcome → Prop} {S S' : State} (st : ∀ t, Steps tb e below S' t → Steps tb e below S t) (k : own_R tb e below A S') : own_R tb e below A S := by
  obtain ⟨t, o, k1, k2⟩ := k
  exact ⟨t, o, st t k1, k2⟩
theorem own_join {α : Type} {tb : Tables} {e : Env} {below : List Frame} {A : State → Outcome → Prop} {S : State} (F : α → State) (P : α → Prop) (h1 : (∀ x, P x → own_R tb e below A (F x)) → own_R tb e below A S) (h2 : ∀ x, P x → own_R tb e below A (F x)) : own_R tb e below A S := h1 h2
theorem own_end {tb : Tables} {e : Env} {below : List Frame} {A : State → Outcome → Prop} {S : State} (k : ∃ t o, Steps tb e below S t ∧ A t o) : own_R tb e below A S := k
theorem own_retI {p : Program} {l : Launch} {e : Env} {R : Room} {s : State} {m : MethodId} {args : Array Value} {below : List Frame} {meth : Method} {c : Code} {T : State} {locs : List Loc} {cells slots : Nat} (X : Stand p l e R s m args below meth c T locs cells slots) (hx : p.tables.exec = Jvm.exec) {pc : Nat} {Ls : Array Slot} {z : Int32} {rest : List Value} (hret : meth.sig.returnType = some .int) (hd : decode c.code pc = .ok (.ireturn, 1)) {fs : List Frame}
    (hl : ∀ (f : JFrame) (acts : List Action), f.method = m → f.locked = none → f.entered = [] → (doReturn e (T.setTop f) acts (some (.int z))).1 = T.setFrames fs) : Steps p.tables e below (T.setTop (mkF m pc Ls (.int z :: rest))) (T.setFrames fs) :=
  retOut X hx hret rfl (Or.inl ⟨rfl, Or.inl rfl, z, rfl⟩) hd hl
theorem own_retJ {p : Program} {l : Launch} {e : Env} {R : Room} {s : State} {m : MethodId} {args : Array Value} {below : List Frame} {meth : Method} {c : Code} {T : State} {locs : List Loc} {cells slots : Nat} (X : Stand p l e R s m args below meth c T locs cells slots) (hx : p.tables.exec = Jvm.exec) {pc : Nat} {Ls : Array Slot} {z : Int64} {rest : List Value} (hret : meth.sig.returnType = some .long) (hd : decode c.code pc = .ok (.lreturn, 1)) {fs : List Frame}
    (hl : ∀ (f : JFrame) (acts : List Action), f.method = m → f.locked = none → f.entered = [] → (doReturn e (T.setTop f) acts (some (.long z))).1 = T.setFrames fs) : Steps p.tables e below (T.setTop (mkF m pc Ls (.long z :: rest))) (T.setFrames fs) :=
  retOut X hx hret rfl (Or.inr (Or.inl ⟨rfl, rfl, z, rfl⟩)) hd hl
/-! an array of n places, place j holds mk (g j) -/
def own_K {α : Type} (mk : α → Value) (Z : State) (h : Heap) (a : Addr) (ty : FieldType) (n : Nat) (g : Nat → α) : Prop := ∃ c : Cell, Arr Z h a c ty ∧ c.slots.size = n ∧ n < 2 ^ 31 ∧ ∀ j, j < n → c.slots[j]? = some (mk (g j))
section OwnK
variable {α : Type} {mk : α → Value} {Z : State} {h h' : Heap} {a b : Addr} {ty : FieldType} {n : Nat} {f g : Nat → α} {ws : List Addr} {sl : Nat} {v : Value}
theorem own_K.lt (F : own_K mk Z h a ty n f) : a < h.size := by obtain ⟨c, A, -⟩ := F; exact A.lt
theorem own_K.ext (F : own_K mk Z h a ty n f) (E : Ext h h') : own_K mk Z h' a ty n f := by obtain ⟨c, A, r⟩ := F; exact ⟨c, A.ext E, r⟩
theorem own_K.other (F : own_K mk Z h b ty n f) (W : Wr h h' a sl v) (q : b ≠ a) : own_K mk Z h' b ty n f := by obtain ⟨c, A, r⟩ := F; exact ⟨c, A.other W q, r⟩
theorem own_K.keep (F : own_K mk Z h a ty n f) (K : Keep h h' ws) (q : a ∉ ws) : own_K mk Z h' a ty n f := by obtain ⟨c, A, r⟩ := F; exact ⟨c, ⟨K.2.1 a c A.1 q, A.2⟩, r⟩
theorem own_K.new {k : ClassId} {z : Int32} {d : α} (A : Arr Z h a (newA k ty z) ty) (q : ¬ z < 0) (hz : z.toNatClampNeg = n) (hd : mk d = defaultValue ty) : own_K mk Z h a ty n (fun _ => d) := by
  subst hz
  exact ⟨_, A, sz_new _ _ _, (back32 q).2, fun j hj => by simp [newA, hj, hd]⟩
theorem own_K.eq (F : own_K mk Z h a ty n f) (e : ∀ j, j < n → f j = g j) : own_K mk Z h a ty n g := by
  obtain ⟨c, A, s1, s2, H⟩ := F
  exact ⟨c, A, s1, s2, fun j hj => (H j hj).trans (congrArg (fun z => some (mk z)) (e j hj))⟩
theorem own_K.rd {i : Int32} {p : Nat} (F : own_K mk Z h a ty n f) (hp : i.toNatClampNeg = p) (h0 : ¬ i < 0) (h1 : p < n) : ∃ c : Cell, Arr Z h a c ty ∧ ¬ (i < 0 ∨ c.slots.size ≤ i.toNatClampNeg) ∧ c.slots[i.toNatClampNeg]? = some (mk (f p)) := by
  obtain ⟨c, A, s1, s2, H⟩ := F
  subst hp
  exact ⟨c, A, by rw [s1]; exact fun q => q.elim h0 (fun z => absurd h1 (Nat.not_lt.mpr z)), H _ h1⟩
theorem own_K.ln (F : own_K mk Z h a ty n f) : ∃ c : Cell, Arr Z h a c ty ∧ c.slots.size.toInt32 = Int32.ofNat n := by
  obtain ⟨c, A, s1, -, -⟩ := F
  exact ⟨c, A, by rw [s1]⟩
/-! the function with one place turned -/
def own_uk {α : Type} (g : Nat → α) (i : Nat) (x : α) : Nat → α := fun j => if j = i then x else g j
theorem own_K.set {i : Int32} {p : Nat} {x : α} (F : own_K mk Z h a ty n f) (hp : i.toNatClampNeg = p) (W : Wr h h' a i.toNatClampNeg (mk x)) : own_K mk Z h' a ty n (own_uk f p x) := by
  obtain ⟨c, A, s1, s2, H⟩ := F
  subst hp
  refine ⟨_, A.same W, by rw [sz_set]; exact s1, s2, fun j hj => ?_⟩
  unfold own_uk
  by_cases u : j = i.toNatClampNeg
  · subst u
    simp [Cell.setSlot, s1, hj]
  · rw [if_neg u]
    simp only [Cell.setSlot]
    rw [Array.getElem?_setIfInBounds_ne (Ne.symm u)]
    exact H j hj
end OwnK
/-! doubles: single steps -/
section OwnD
variable {tb : Tables} [Ours tb] {e : Env} {below : List Frame} {T target : State} {m : MethodId} {c : Code} {g : JFrame}
theorem own_dloadN (h : At T m c below) (hx : tb.exec = Jvm.exec) (hg : g.method = m) {k : Fin 4} {v : UInt64} (hd : decode c.code g.pc = .ok (.dload_n k, 1)) (hl : g.locals[k.val]? = some (.val (.double v)))
    (hr : Steps tb e below (T.setTop { g with pc := g.pc + 1, stack := .double v :: g.stack }) target) : Steps tb e below (T.setTop g) target := by
  subst hg
  jvm_step h [h.top, hx, hd, hl]
  exact hr
theorem own_dload (h : At T m c below) (hx : tb.exec = Jvm.exec) (hg : g.method = m) {k : Nat} {v : UInt64} (hd : decode c.code g.pc = .ok (.dload k, 2)) (hl : g.locals[k]? = some (.val (.double v)))
    (hr : Steps tb e below (T.setTop { g with pc := g.pc + 2, stack := .double v :: g.stack }) target) : Steps tb e below (T.setTop g) target := by
  subst hg
  jvm_step h [h.top, hx, hd, hl]
  exact hr
theorem own_dstoreN (h : At T m c below) (hx : tb.exec = Jvm.exec) (hg : g.method = m) {k : Fin 4} {x : UInt64} {rest : List Value} {l' : Array Slot} (hd : decode c.code g.pc = .ok (.dstore_n k, 1)) (hs : g.stack = .double x :: rest) (hl : storeLocals g.locals k.val (.double x) = some l')
    (hr : Steps tb e below (T.setTop { g with pc := g.pc + 1, stack := rest, locals := l' }) target) : Steps tb e below (T.setTop g) target := by
  subst hg
  jvm_step h [h.top, hx, hd, hs, hl]
  exact hr
theorem own_dstore (h : At T m c below) (hx : tb.exec = Jvm.exec) (hg : g.method = m) {k : Nat} {x : UInt64} {rest : List Value} {l' : Array Slot} (hd : decode c.code g.pc = .ok (.dstore k, 2)) (hs : g.stack = .double x :: rest) (hl : storeLocals g.locals k (.double x) = some l')
    (hr : Steps tb e below (T.setTop { g with pc := g.pc + 2, stack := rest, locals := l' }) target) : Steps tb e below (T.setTop g) target := by
  subst hg
  jvm_step h [h.top, hx, hd, hs, hl]
  exact hr
theorem own_i2d (h : At T m c below) (hx : tb.exec = Jvm.exec) (hg : g.method = m) {x : Int32} {rest : List Value} (hd : decode c.code g.pc = .ok (.i2d, 1)) (hs : g.stack = .int x :: rest)
    (hr : Steps tb e below (T.setTop { g with pc := g.pc + 1, stack := .double (FP.i2d x) :: rest }) target) : Steps tb e below (T.setTop g) target := by
  subst hg
  jvm_step h [h.top, hx, hd, hs]
  exact hr
theorem own_l2d (h : At T m c below) (hx : tb.exec = Jvm.exec) (hg : g.method = m) {x : Int64} {rest : List Value} (hd : decode c.code g.pc = .ok (.l2d, 1)) (hs : g.stack = .long x :: rest)
    (hr : Steps tb e below (T.setTop { g with pc := g.pc + 1, stack := .double (FP.l2d x) :: rest }) target) : Steps tb e below (T.setTop g) target := by
  subst hg
  jvm_step h [h.top, hx, hd, hs]
  exact hr
theorem own_dcmp (h : At T m c below) (hx : tb.exec = Jvm.exec) (hg : g.method = m) {op : CmpOp} {x y : UInt64} {rest : List Value} (hd : decode c.code g.pc = .ok (.dcmp op, 1)) (hs : g.stack = .double y :: .double x :: rest)
    (hr : Steps tb e below (T.setTop { g with pc := g.pc + 1, stack := .int (cmpValue (FP.dcmp x y) op) :: rest }) target) : Steps tb e below (T.setTop g) target := by
  subst hg
  jvm_step h [h.top, hx, hd, dcmp.wp_sem, hs]
  exact hr
end OwnD
section OwnD2
variable {p : Program} {l : Launch} {e : Env} {R : Room} {s : State} {m : MethodId} {args : Array Value} {below : List Frame} {meth : Method} {c : Code} {T : State} {locs : List Loc} {cells slots : Nat}
theorem own_daload (X : Stand p l e R s m args below meth c T locs cells slots) (hexec : p.tables.exec = Jvm.exec) {a : Addr} {cell : Cell} {j : Int32} {v : Value} (hcell : T.heap[a]? = some cell) (harr : s.isArrayOf cell .double) (hknown : cell.vm ≠ .unknown)
    (hin : ¬ (j < 0 ∨ cell.slots.size ≤ j.toNatClampNeg)) (hv : cell.slots[j.toNatClampNeg]? = some v)
    {g : JFrame} (hg : g.method = m) {rest : List Value} (hstack : g.stack = .int j :: .ref a :: rest) (hdg : decode c.code g.pc = .ok (.daload, 1)) (target : State)
    (hrest : Steps p.tables e below (T.setTop { g with pc := g.pc + 1, stack := v :: rest }) target) : Steps p.tables e below (T.setTop g) target := by
  have hT := State.isArrayOf_alike X.warmed.alike harr
  subst hg
  jvm_step X.here [hexec, hdg, daload.wp_sem, hstack, hcell, hT.isArray, hin, hknown, hv]
  exact ⟨hT, hrest⟩
theorem own_dastore (X : Stand p l e R s m args below meth c T locs cells slots) (hexec : p.tables.exec = Jvm.exec) {a : Addr} {cell : Cell} {j : Int32} {x : UInt64} (hcell : T.heap[a]? = some cell) (harr : s.isArrayOf cell .double) (hknown : cell.vm ≠ .unknown)
    (hin : ¬ (j < 0 ∨ cell.slots.size ≤ j.toNatClampNeg))
    {g : JFrame} (hg : g.method = m) {rest : List Value} (hstack : g.stack = .double x :: .int j :: .ref a :: rest) (hdg : decode c.code g.pc = .ok (.dastore, 1)) :
    Stand p l e R s m args below meth c (T.setCell a (cell.setSlot j.toNatClampNeg (.double x))) (locs ++ [⟨a, j.toNatClampNeg⟩]) cells slots ∧
      ∀ target, Steps p.tables e below ((T.setCell a (cell.setSlot j.toNatClampNeg (.double x))).setTop { g with pc := g.pc + 1, stack := rest }) target → Steps p.tables e below (T.setTop g) target := by
  have hT := State.isArrayOf_alike X.warmed.alike harr
  have hfit : T.fitsSlot cell.cls cell.vm j.toNatClampNeg (.double x) = true := by
    obtain ⟨hobj, k, hk, comp, hkind⟩ := hT
    cases hvm : cell.vm <;> first | exact absurd hvm (hobj _) | simp [State.fitsSlot, State.slotType?, hk, hkind, fits]
  refine ⟨X.stored hcell _ _, fun target hrest => ?_⟩
  subst hg
  jvm_step X.here [hexec, hdg, dastore.wp_sem, hstack, hcell, hT.isArray, hin, hknown, hfit]
  refine ⟨x, j, .ref a, rest, ⟨rfl, rfl, rfl, rfl⟩, cell, hcell, hT.isArray, ?_⟩
  rw [if_neg hin]
  exact ⟨hT, hknown, hfit, hrest⟩
theorem own_stD {Z : State} {h : Heap} (X : Stand p l e R s m args below meth c T locs cells slots) (hx : p.tables.exec = Jvm.exec) (hZ : Z.Warmed39 s.vm) (eT : T.heap = h) {a : Addr} {cl : Cell} (A : Arr Z h a cl .double) {j : Int32} {x : UInt64} (hj : ¬ (j < 0 ∨ cl.slots.size ≤ j.toNatClampNeg)) {g : JFrame} (hg : g.method = m) {rest : List Value} (hs : g.stack = .double x :: .int j :: .ref a :: rest) (hd : decode c.code g.pc = .ok (.dastore, 1)) :
    ∃ T' h', Stand p l e R s m args below meth c T' (locs ++ [⟨a, j.toNatClampNeg⟩]) cells slots ∧ T'.heap = h' ∧ Wr h h' a j.toNatClampNeg (.double x) ∧ ∀ target, Steps p.tables e below (T'.setTop { g with pc := g.pc + 1, stack := rest }) target → Steps p.tables e below (T.setTop g) target := by
  obtain ⟨X', st⟩ := own_dastore X hx (by rw [eT]; exact A.1) (State.isArrayOf_alike hZ.alike A.2.1) A.2.2 hj hg hs hd
  exact ⟨_, _, X', rfl, ⟨cl, A.1, A.plain, Nat.lt_of_not_le fun q => hj (Or.inr q), by rw [← eT]; rfl⟩, st⟩
theorem own_retD (X : Stand p l e R s m args below meth c T locs cells slots) (hx : p.tables.exec = Jvm.exec) {pc : Nat} {Ls : Array Slot} {z : UInt64} {rest : List Value} (hret : meth.sig.returnType = some .double) (hd : decode c.code pc = .ok (.dreturn, 1)) {fs : List Frame}
    (hl : ∀ (f : JFrame) (acts : List Action), f.method = m → f.locked = none → f.entered = [] → (doReturn e (T.setTop f) acts (some (.double z))).1 = T.setFrames fs) : Steps p.tables e below (T.setTop (mkF m pc Ls (.double z :: rest))) (T.setFrames fs) :=
  retOut X hx hret rfl (Or.inr (Or.inr (Or.inl ⟨rfl, rfl, z, rfl⟩))) hd hl
end OwnD2
theorem own_toInt {n : Nat} (h : n < 2 ^ 31) : (Int32.ofNat n).toInt = n := Int32.toInt_ofNat_of_lt h
theorem own_ltI {a b : Nat} (ha : a < 2 ^ 31) (hb : b < 2 ^ 31) : Int32.ofNat a < Int32.ofNat b ↔ a < b := by
  rw [Int32.lt_iff_toInt_lt, own_toInt ha, own_toInt hb]; omega
theorem own_inj {a b : Nat} (ha : a < 2 ^ 31) (hb : b < 2 ^ 31) : Int32.ofNat a = Int32.ofNat b ↔ a = b := by
  rw [← Int32.toInt_inj, own_toInt ha, own_toInt hb]; omega
theorem own_add1 (a : Nat) : Int32.ofNat a + 1 = Int32.ofNat (a + 1) := by
  rw [Int32.ofNat_add]; rfl
theorem own_addI (a b : Nat) : Int32.ofNat a + Int32.ofNat b = Int32.ofNat (a + b) := by
  rw [Int32.ofNat_add]
theorem own_sub1 (a : Nat) : Int32.ofNat (a + 1) - 1 = Int32.ofNat a := by
  rw [← own_add1]; exact Int32.add_sub_cancel _ _
theorem own_clamp {a : Nat} (h : a < 2 ^ 31) : (Int32.ofNat a).toNatClampNeg = a := by
  rw [Int32.toNatClampNeg, own_toInt h]; rfl
theorem own_nn {a : Nat} (h : a < 2 ^ 31) : ¬ Int32.ofNat a < 0 := by
  rw [Int32.lt_iff_toInt_lt, own_toInt h]; show ¬ (a : Int) < 0; omega
theorem own_ofInt (x : Int32) (h : 0 ≤ x.toInt) : ∃ n : Nat, x = Int32.ofNat n ∧ (n : Int) = x.toInt := by
  refine ⟨x.toInt.toNat, ?_, Int.toNat_of_nonneg h⟩
  rw [← Int32.toInt_inj, own_toInt (by have := x.toInt_lt; omega)]
  omega
def own_fixg {α : Type} (op : α → α → α) : Nat → (Nat → α) → Nat → (Nat → α)
  | 0, m, _ => m
  | k + 1, m, n => if n < 1 then m else own_fixg op k (own_uk m n (op (m (2 * n)) (m (2 * n + 1)))) (n / 2)
def own_setg {α : Type} (op : α → α → α) (m : Nat → α) (Lf i : Nat) (v : α) : Nat → α := own_fixg op 4 (own_uk m (Lf + i) v) ((Lf + i) / 2)
def own_leaves (N : Nat) : Nat := if N ≤ 1 then 1 else if N ≤ 2 then 2 else if N ≤ 4 then 4 else 8
def own_tree {α : Type} (op : α → α → α) (N : Nat) (v0 v1 v2 v3 v4 vi : α) : Nat → α :=
  let Lf := own_leaves N
  let m0 := own_setg op (fun _ => vi) Lf 0 v0
  let m1 := if 1 < N then own_setg op m0 Lf 1 v1 else m0
  let m2 := if 2 < N then own_setg op m1 Lf 2 v2 else m1
  let m3 := if 3 < N then own_setg op m2 Lf 3 v3 else m2
  if 4 < N then own_setg op m3 Lf 4 v4 else m3
theorem own_uk_map {α β : Type} (φ : α → β) (m : Nat → α) (i : Nat) (v : α) : (fun x => φ (own_uk m i v x)) = own_uk (fun x => φ (m x)) i (φ v) := by
  funext x; unfold own_uk; split <;> rfl
theorem own_fix_map {α β : Type} (φ : α → β) (op : α → α → α) (op' : β → β → β) (h : ∀ a b, φ (op a b) = op' (φ a) (φ b)) (k : Nat) : ∀ (m : Nat → α) (n : Nat), (fun x => φ (own_fixg op k m n x)) = own_fixg op' k (fun x => φ (m x)) n := by
  induction k with
  | zero => intro m n; rfl
  | succ k ih =>
    intro m n
    unfold own_fixg
    split
    · rfl
    · rw [ih, own_uk_map, h]
theorem own_set_map {α β : Type} (φ : α → β) (op : α → α → α) (op' : β → β → β) (h : ∀ a b, φ (op a b) = op' (φ a) (φ b)) (m : Nat → α) (Lf i : Nat) (v : α) : (fun x => φ (own_setg op m Lf i v x)) = own_setg op' (fun x => φ (m x)) Lf i (φ v) := by
  unfold own_setg; rw [own_fix_map φ op op' h, own_uk_map]
theorem own_tree_map {α β : Type} (φ : α → β) (op : α → α → α) (op' : β → β → β) (h : ∀ a b, φ (op a b) = op' (φ a) (φ b)) (N : Nat) (v0 v1 v2 v3 v4 vi : α) : (fun x => φ (own_tree op N v0 v1 v2 v3 v4 vi x)) = own_tree op' N (φ v0) (φ v1) (φ v2) (φ v3) (φ v4) (φ vi) := by
  have e0 := own_set_map φ op op' h (fun _ => vi) (own_leaves N) 0 v0
  have ec : ∀ (c : Prop) [Decidable c] (m m' : Nat → α) , (fun x => φ ((if c then m else m') x)) = if c then (fun x => φ (m x)) else (fun x => φ (m' x)) := by
    intro c _ m m'; split <;> rfl
  unfold own_tree
  simp only [ec, own_set_map φ op op' h]
def own_odd : Nat → Nat → Nat
  | 0, n => n
  | k + 1, n => if n % 2 = 1 then own_odd k (n / 2) else n
def own_climb (B : Nat → Bool) : Nat → Nat → Option (Option Nat)
  | 0, _ => none
  | k + 1, n => if B n = true then some (some n) else if own_odd 5 n = 0 then some none else own_climb B k (own_odd 5 n + 1)
def own_desc (B : Nat → Bool) (Lf : Nat) : Nat → Nat → Option Nat
  | 0, _ => none
  | k + 1, n => if n < Lf then own_desc B Lf k (if B (2 * n) = true then 2 * n else 2 * n + 1) else some n
def own_fam (B : Nat → Bool) (Lf f t : Nat) : Option Int32 :=
  if f < t then
    match own_climb B 9 (Lf + f) with
    | none => none
    | some none => some (-1)
    | some (some n) => match own_desc B Lf 5 n with
      | none => none
      | some n' => some (if n' - Lf < t then Int32.ofNat (n' - Lf) else -1)
  else some (-1)
def own_want (b0 b1 b2 b3 b4 : Bool) (f t : Nat) : Int32 :=
  if f ≤ 0 ∧ 0 < t ∧ b0 = true then 0 else if f ≤ 1 ∧ 1 < t ∧ b1 = true then 1 else if f ≤ 2 ∧ 2 < t ∧ b2 = true then 2 else if f ≤ 3 ∧ 3 < t ∧ b3 = true then 3 else if f ≤ 4 ∧ 4 < t ∧ b4 = true then 4 else -1
theorem own_all1 : ∀ (b0 b1 b2 b3 b4 bi : Bool) (f t : Fin 2), own_fam (own_tree or 1 b0 b1 b2 b3 b4 bi) (own_leaves 1) f t = some (own_want b0 b1 b2 b3 b4 f t) := by decide +kernel
theorem own_all2 : ∀ (b0 b1 b2 b3 b4 bi : Bool) (f t : Fin 3), own_fam (own_tree or 2 b0 b1 b2 b3 b4 bi) (own_leaves 2) f t = some (own_want b0 b1 b2 b3 b4 f t) := by decide +kernel
theorem own_all3 : ∀ (b0 b1 b2 b3 b4 bi : Bool) (f t : Fin 4), own_fam (own_tree or 3 b0 b1 b2 b3 b4 bi) (own_leaves 3) f t = some (own_want b0 b1 b2 b3 b4 f t) := by decide +kernel
theorem own_all4 : ∀ (b0 b1 b2 b3 b4 bi : Bool) (f t : Fin 5), own_fam (own_tree or 4 b0 b1 b2 b3 b4 bi) (own_leaves 4) f t = some (own_want b0 b1 b2 b3 b4 f t) := by decide +kernel
theorem own_all5 : ∀ (b0 b1 b2 b3 b4 bi : Bool) (f t : Fin 6), own_fam (own_tree or 5 b0 b1 b2 b3 b4 bi) (own_leaves 5) f t = some (own_want b0 b1 b2 b3 b4 f t) := by decide +kernel
def own_min (x y : Int32) : Int32 := if x < y then x else y
def own_le (bd x : Int32) : Bool := decide (¬ bd < x)
theorem own_le_min (bd a b : Int32) : own_le bd (own_min a b) = (own_le bd a || own_le bd b) := by
  unfold own_le own_min
  simp only [Int32.lt_iff_toInt_lt]
  split
  · by_cases h1 : bd.toInt < a.toInt <;> by_cases h2 : bd.toInt < b.toInt <;> simp [h1, h2]; omega
  · by_cases h1 : bd.toInt < a.toInt <;> by_cases h2 : bd.toInt < b.toInt <;> simp [h1, h2]; omega
def own_c3 (x y : Int32) : Int32 := if x < y then -1 else if x = y then 0 else 1
theorem own_c3_pos (x y : Int32) : (0 : Int32) < own_c3 x y ↔ y < x := by
  unfold own_c3
  simp only [← Int32.toInt_inj, Int32.lt_iff_toInt_lt]
  split
  · rename_i h; constructor
    · intro q; exact absurd q (by decide)
    · intro q; omega
  · split
    · rename_i h; constructor
      · intro q; exact absurd q (by decide)
      · intro q; omega
    · constructor
      · intro q; omega
      · intro q; decide
theorem own_famB (bd v0 v1 v2 v3 v4 vi : Int32) (N f t : Nat) (h1 : 1 ≤ N) (h5 : N ≤ 5) (hf : f ≤ N) (ht : t ≤ N) : own_fam (fun n => own_le bd (own_tree own_min N v0 v1 v2 v3 v4 vi n)) (own_leaves N) f t = some (own_want (own_le bd v0) (own_le bd v1) (own_le bd v2) (own_le bd v3) (own_le bd v4) f t) := by
  rw [own_tree_map (own_le bd) own_min or (own_le_min bd)]
  have : N = 1 ∨ N = 2 ∨ N = 3 ∨ N = 4 ∨ N = 5 := by omega
  rcases this with rfl | rfl | rfl | rfl | rfl
  · exact own_all1 _ _ _ _ _ _ ⟨f, by omega⟩ ⟨t, by omega⟩
  · exact own_all2 _ _ _ _ _ _ ⟨f, by omega⟩ ⟨t, by omega⟩
  · exact own_all3 _ _ _ _ _ _ ⟨f, by omega⟩ ⟨t, by omega⟩
  · exact own_all4 _ _ _ _ _ _ ⟨f, by omega⟩ ⟨t, by omega⟩
  · exact own_all5 _ _ _ _ _ _ ⟨f, by omega⟩ ⟨t, by omega⟩
def own_hit (i v f t bd : Int32) : Int32 := if i < f then 0 else (if i < t then (if (0 : Int32) < own_c3 v bd then 0 else 1) else 0)
theorem own_hit1 (i f t : Nat) (v bd : Int32) (hi : i < 10) (hf : f < 10) (ht : t < 10) : own_hit (Int32.ofNat i) v (Int32.ofNat f) (Int32.ofNat t) bd = if f ≤ i ∧ i < t ∧ own_le bd v = true then 1 else 0 := by
  unfold own_hit own_le
  simp only [own_c3_pos, own_ltI (show i < 2 ^ 31 by omega) (show f < 2 ^ 31 by omega), own_ltI (show i < 2 ^ 31 by omega) (show t < 2 ^ 31 by omega)]
  by_cases h1 : i < f
  · rw [if_pos h1, if_neg (by omega)]
  · by_cases h2 : i < t
    · by_cases h3 : bd < v
      · rw [if_neg h1, if_pos h2, if_pos h3, if_neg (by simp [h3])]
      · rw [if_neg h1, if_pos h2, if_neg h3, if_pos ⟨by omega, h2, by simp [h3]⟩]
    · rw [if_neg h1, if_neg h2, if_neg (fun q => h2 q.2.1)]
theorem own_wfin {v0 v1 v2 v3 v4 bd e4 e3 e2 e1 e0 : Int32} {f t : Nat} (hf : f < 10) (ht : t < 10)
    (h4 : e4 = if own_hit (4 : Int32) v4 (Int32.ofNat f) (Int32.ofNat t) bd = (0 : Int32) then (-1 : Int32) else (4 : Int32))
    (h3 : e3 = if own_hit (3 : Int32) v3 (Int32.ofNat f) (Int32.ofNat t) bd = (0 : Int32) then e4 else (3 : Int32))
    (h2 : e2 = if own_hit (2 : Int32) v2 (Int32.ofNat f) (Int32.ofNat t) bd = (0 : Int32) then e3 else (2 : Int32))
    (h1 : e1 = if own_hit (1 : Int32) v1 (Int32.ofNat f) (Int32.ofNat t) bd = (0 : Int32) then e2 else (1 : Int32))
    (h0 : e0 = if own_hit (0 : Int32) v0 (Int32.ofNat f) (Int32.ofNat t) bd = (0 : Int32) then e1 else (0 : Int32)) :
    own_want (own_le bd v0) (own_le bd v1) (own_le bd v2) (own_le bd v3) (own_le bd v4) f t = e0 := by
  have a0 := own_hit1 0 f t v0 bd (by omega) hf ht
  have a1 := own_hit1 1 f t v1 bd (by omega) hf ht
  have a2 := own_hit1 2 f t v2 bd (by omega) hf ht
  have a3 := own_hit1 3 f t v3 bd (by omega) hf ht
  have a4 := own_hit1 4 f t v4 bd (by omega) hf ht
  change own_hit 0 _ _ _ _ = _ at a0
  change own_hit 1 _ _ _ _ = _ at a1
  change own_hit 2 _ _ _ _ = _ at a2
  change own_hit 3 _ _ _ _ = _ at a3
  change own_hit 4 _ _ _ _ = _ at a4
  rw [a0] at h0; rw [a1] at h1; rw [a2] at h2; rw [a3] at h3; rw [a4] at h4
  have z : ∀ (c : Prop) [Decidable c] (x y : Int32), (if (if c then (1 : Int32) else 0) = 0 then x else y) = if c then y else x := by
    intro c _ x y
    by_cases h : c
    · rw [if_pos h, if_pos h, if_neg (by decide)]
    · rw [if_neg h, if_neg h, if_pos rfl]
  rw [z] at h0 h1 h2 h3 h4
  subst h0 h1 h2 h3 h4
  rfl
theorem own_and1 (n : Nat) (h : n < 2 ^ 31) : (Int32.ofNat n) &&& (1 : Int32) = Int32.ofNat (n % 2) := by
  have e := own_toInt h
  apply Int32.toBitVec_inj.mp
  rw [Int32.toBitVec_and]
  show BitVec.ofNat 32 n &&& BitVec.ofNat 32 1 = BitVec.ofNat 32 (n % 2)
  apply BitVec.eq_of_toNat_eq
  rw [BitVec.toNat_and, BitVec.toNat_ofNat, BitVec.toNat_ofNat, BitVec.toNat_ofNat, Nat.mod_eq_of_lt (show n < 2 ^ 32 by omega), Nat.mod_eq_of_lt (show 1 < 2 ^ 32 by decide), Nat.and_one_is_mod, Nat.mod_eq_of_lt (show n % 2 < 2 ^ 32 by omega)]
theorem own_div2 (n : Nat) (h : n < 2 ^ 31) : (Int32.ofNat n) / (2 : Int32) = Int32.ofNat (n / 2) := by
  have := (c_idiv (Int32.ofNat n) 2 2 rfl (by decide)).1 (by rw [own_toInt (by omega)]; omega)
  rw [← Int32.toInt_inj, this, own_toInt (by omega), own_toInt (by omega)]
  omega
theorem own_mul2 (n : Nat) : (2 : Int32) * Int32.ofNat n = Int32.ofNat (2 * n) := by
  rw [Int32.ofNat_mul]; rfl
theorem own_mul2' (n : Nat) : Int32.ofNat n * (2 : Int32) = Int32.ofNat (2 * n) := by
  rw [Int32.mul_comm]; exact own_mul2 n
theorem own_subI (a b : Nat) (h : b ≤ a) : Int32.ofNat a - Int32.ofNat b = Int32.ofNat (a - b) := by
  obtain ⟨c, rfl⟩ := Nat.exists_eq_add_of_le h
  rw [Int32.ofNat_add, Nat.add_sub_cancel_left, Int32.add_comm]
  exact Int32.add_sub_cancel _ _
theorem own_odd_le (k n : Nat) : own_odd k n ≤ n := by
  induction k generalizing n with
  | zero => exact Nat.le_refl _
  | succ k ih => unfold own_odd; split
                 · exact Nat.le_trans (ih _) (Nat.div_le_self _ _)
                 · exact Nat.le_refl _
theorem own_odd_even (k n : Nat) (h : n < 2 ^ k) : own_odd k n % 2 = 0 := by
  induction k generalizing n with
  | zero => have : n = 0 := by omega
            subst this; rfl
  | succ k ih => unfold own_odd; split
                 · exact ih _ (by rw [Nat.pow_succ] at h; omega)
                 · omega
theorem own_lf (N : Nat) : own_leaves N = 1 ∨ own_leaves N = 2 ∨ own_leaves N = 4 ∨ own_leaves N = 8 := by
  unfold own_leaves; split
  · simp
  · split
    · simp
    · split <;> simp
theorem own_lfN (N : Nat) (h : N ≤ 5) : N ≤ own_leaves N := by
  unfold own_leaves; split <;> (try split) <;> (try split) <;> omega
def own_fl {α : Type} (g : Nat → α) (x : α) (i : Nat) : Nat → α := fun j => if j < i then x else g j
theorem own_flt {α : Type} (g : Nat → α) (x : α) (i : Nat) : own_uk (own_fl g x i) i x = own_fl g x (i + 1) := by
  funext j; unfold own_uk own_fl
  by_cases h : j = i
  · subst h; rw [if_pos rfl, if_pos (by omega)]
  · by_cases h2 : j < i
    · rw [if_neg h, if_pos h2, if_pos (by omega)]
    · rw [if_neg h, if_neg h2, if_neg (by omega)]
theorem own_n5 (p : Int32) : ∃ N : Nat, ((p &&& (7 : Int32)) % (5 : Int32)) + (1 : Int32) = Int32.ofNat N ∧ 1 ≤ N ∧ N ≤ 5 := by
  have h := c_and p 7 (by decide)
  have e5 : (5 : Int32).toInt = 5 := rfl
  have r := (c_iremV (p &&& 7) 5).1 h.1 (by decide)
  obtain ⟨n, e, q⟩ := own_ofInt _ r.1
  exact ⟨n + 1, by rw [e]; exact own_add1 n, by omega, by omega⟩
theorem own_modN1 (x : Int32) (N : Nat) (h4 : N ≤ 5) : ∃ I : Nat, (x &&& (2147483647 : Int32)) % (Int32.ofNat N + (1 : Int32)) = Int32.ofNat I ∧ I ≤ N := by
  have h := c_and x 2147483647 (by decide)
  rw [own_add1]
  have eN : (Int32.ofNat (N + 1)).toInt = ((N + 1 : Nat) : Int) := own_toInt (by omega)
  have r := (c_iremV (x &&& 2147483647) (Int32.ofNat (N + 1))).1 h.1 (by omega)
  obtain ⟨n, e, q⟩ := own_ofInt _ r.1
  exact ⟨n, e, by omega⟩
theorem own_nz1 (N : Nat) (h4 : N ≤ 5) : Int32.ofNat N + (1 : Int32) ≠ 0 := by
  rw [own_add1]
  intro h
  have := (own_inj (a := N + 1) (b := 0) (by omega) (by omega)).mp h
  omega
def own_mkd (x : Int32) : Value := .double (FP.i2d x)
theorem own_cmp (x y : Int32) (op : CmpOp) : cmpValue (FP.dcmp (FP.i2d x) (FP.i2d y)) op = own_c3 x y := by
  rw [show FP.dcmp (FP.i2d x) (FP.i2d y) = some (compare x.toInt y.toInt) from FP.Core.dcmp_int (FP.Core.i2d_int x) (FP.Core.i2d_int y)]
  unfold own_c3
  simp only [← Int32.toInt_inj, Int32.lt_iff_toInt_lt]
  rcases Int.lt_trichotomy x.toInt y.toInt with h | h | h
  · rw [if_pos h, Int.compare_eq_lt.mpr h]; rfl
  · rw [if_neg (by omega), if_pos h, Int.compare_eq_eq.mpr h]; rfl
  · rw [if_neg (by omega), if_neg (by omega), Int.compare_eq_gt.mpr h]; rfl
theorem own_p64 (a b : UInt64) : Native.java_lang_Math.nans.pick64 false a b = (match FP.dcmp a b with | some .lt => a | some .gt => b | _ => if ((a >>> 63 == 1) == false) = true then b else a) := by
  show (match FP.dcmp a b with | some .lt => (if false = true then b else a) | some .gt => (if false = true then a else b) | _ => if ((a >>> 63 == 1) == false) = true then b else a) = _
  rcases FP.dcmp a b with _ | _ | _ | _ <;> rfl
theorem own_pick (x y : Int32) : Native.java_lang_Math.nans.pick64 false (FP.i2d x) (FP.i2d y) = FP.i2d (own_min x y) := by
  rw [own_p64, show FP.dcmp (FP.i2d x) (FP.i2d y) = some (compare x.toInt y.toInt) from FP.Core.dcmp_int (FP.Core.i2d_int x) (FP.Core.i2d_int y)]
  unfold own_min
  simp only [Int32.lt_iff_toInt_lt]
  rcases Int.lt_trichotomy x.toInt y.toInt with h | h | h
  · have hc : compare x.toInt y.toInt = .lt := Int.compare_eq_lt.mpr h
    rw [hc, if_pos h]
  · have : x = y := Int32.toInt_inj.mp h
    subst this
    have hc : compare x.toInt x.toInt = .eq := Int.compare_eq_eq.mpr rfl
    rw [hc]
    simp
  · have hn : ¬ x.toInt < y.toInt := by omega
    have hc : compare x.toInt y.toInt = .gt := Int.compare_eq_gt.mpr h
    rw [hc, if_neg hn]
theorem own_tr1 {α : Type} (op : α → α → α) (v0 v1 v2 v3 v4 vi : α) : own_tree op 1 v0 v1 v2 v3 v4 vi = own_setg op (fun _ => vi) (own_leaves 1) 0 v0 := by simp [own_tree]
theorem own_tr2 {α : Type} (op : α → α → α) (v0 v1 v2 v3 v4 vi : α) : own_tree op 2 v0 v1 v2 v3 v4 vi = own_setg op (own_setg op (fun _ => vi) (own_leaves 2) 0 v0) (own_leaves 2) 1 v1 := by simp [own_tree]
theorem own_tr3 {α : Type} (op : α → α → α) (v0 v1 v2 v3 v4 vi : α) : own_tree op 3 v0 v1 v2 v3 v4 vi = own_setg op (own_setg op (own_setg op (fun _ => vi) (own_leaves 3) 0 v0) (own_leaves 3) 1 v1) (own_leaves 3) 2 v2 := by simp [own_tree]
theorem own_tr4 {α : Type} (op : α → α → α) (v0 v1 v2 v3 v4 vi : α) : own_tree op 4 v0 v1 v2 v3 v4 vi = own_setg op (own_setg op (own_setg op (own_setg op (fun _ => vi) (own_leaves 4) 0 v0) (own_leaves 4) 1 v1) (own_leaves 4) 2 v2) (own_leaves 4) 3 v3 := by simp [own_tree]
theorem own_tr5 {α : Type} (op : α → α → α) (v0 v1 v2 v3 v4 vi : α) : own_tree op 5 v0 v1 v2 v3 v4 vi = own_setg op (own_setg op (own_setg op (own_setg op (own_setg op (fun _ => vi) (own_leaves 5) 0 v0) (own_leaves 5) 1 v1) (own_leaves 5) 2 v2) (own_leaves 5) 3 v3) (own_leaves 5) 4 v4 := by simp [own_tree]
theorem own_nonan (x : Int32) : Jvm.Free.Fl.NoNaN64 (FP.i2d x) := (Jvm.Free.Fl.dcmp_some (FP.Core.dcmp_int (FP.Core.i2d_int x) (FP.Core.i2d_int x))).1
def own_MT (Z : State) (h : Heap) (n0 : Nat) (a b : Addr) (N : Nat) (g : Nat → Int32) : Prop := Exa Z h a "com/example/frugal_scheduler/frugalscheduler/planners/MinTree" ∧ Fld Z h a "com/example/frugal_scheduler/frugalscheduler/planners/MinTree" "leaves" "I" (.int (Int32.ofNat (own_leaves N))) ∧ Fld Z h a "com/example/frugal_scheduler/frugalscheduler/planners/MinTree" "mins" "[D" (.ref b) ∧ own_K own_mkd Z h b .double (2 * own_leaves N) g ∧ a ≠ b ∧ n0 ≤ a ∧ n0 ≤ b
theorem d1_0 : decode prog_58_method_1_code 0 = .ok (.aload_n 0, 1) := by decide +kernel
theorem d1_1 : decode prog_58_method_1_code 1 = .ok (.invokespecial 1, 3) := by decide +kernel
theorem d1_4 : decode prog_58_method_1_code 4 = .ok (.iconst 1, 1) := by decide +kernel
theorem d1_5 : decode prog_58_method_1_code 5 = .ok (.istore 4, 2) := by decide +kernel
theorem d1_7 : decode prog_58_method_1_code 7 = .ok (.iload 4, 2) := by decide +kernel
theorem d1_9 : decode prog_58_method_1_code 9 = .ok (.iload_n 1, 1) := by decide +kernel
theorem d1_10 : decode prog_58_method_1_code 10 = .ok (.if_icmp .ge 12, 3) := by decide +kernel
theorem d1_13 : decode prog_58_method_1_code 13 = .ok (.iload 4, 2) := by decide +kernel
theorem d1_15 : decode prog_58_method_1_code 15 = .ok (.iconst 2, 1) := by decide +kernel
theorem d1_16 : decode prog_58_method_1_code 16 = .ok (.imul, 1) := by decide +kernel
theorem d1_17 : decode prog_58_method_1_code 17 = .ok (.istore 4, 2) := by decide +kernel
theorem d1_19 : decode prog_58_method_1_code 19 = .ok (.goto (-12), 3) := by decide +kernel
theorem d1_22 : decode prog_58_method_1_code 22 = .ok (.aload_n 0, 1) := by decide +kernel
theorem d1_23 : decode prog_58_method_1_code 23 = .ok (.iload 4, 2) := by decide +kernel
theorem d1_25 : decode prog_58_method_1_code 25 = .ok (.putfield 7, 3) := by decide +kernel
theorem d1_28 : decode prog_58_method_1_code 28 = .ok (.aload_n 0, 1) := by decide +kernel
theorem d1_29 : decode prog_58_method_1_code 29 = .ok (.iconst 2, 1) := by decide +kernel
theorem d1_30 : decode prog_58_method_1_code 30 = .ok (.aload_n 0, 1) := by decide +kernel
theorem d1_31 : decode prog_58_method_1_code 31 = .ok (.getfield 7, 3) := by decide +kernel
theorem d1_34 : decode prog_58_method_1_code 34 = .ok (.imul, 1) := by decide +kernel
theorem d1_35 : decode prog_58_method_1_code 35 = .ok (.newarray .double, 2) := by decide +kernel
theorem d1_37 : decode prog_58_method_1_code 37 = .ok (.putfield 13, 3) := by decide +kernel
theorem d1_40 : decode prog_58_method_1_code 40 = .ok (.aload_n 0, 1) := by decide +kernel
theorem d1_41 : decode prog_58_method_1_code 41 = .ok (.getfield 13, 3) := by decide +kernel
theorem d1_44 : decode prog_58_method_1_code 44 = .ok (.dload_n 2, 1) := by decide +kernel
theorem d1_45 : decode prog_58_method_1_code 45 = .ok (.invokestatic 17, 3) := by decide +kernel
theorem d1_48 : decode prog_58_method_1_code 48 = .ok (.aload_n 0, 1) := by decide +kernel
theorem d1_49 : decode prog_58_method_1_code 49 = .ok (.iload_n 1, 1) := by decide +kernel
theorem d1_50 : decode prog_58_method_1_code 50 = .ok (.putfield 23, 3) := by decide +kernel
theorem d1_53 : decode prog_58_method_1_code 53 = .ok (.return_, 1) := by decide +kernel
theorem d3_0 : decode jdk_65_method_113_code 0 = .ok (.iconst 0, 1) := by decide +kernel
theorem d3_1 : decode jdk_65_method_113_code 1 = .ok (.istore_n 3, 1) := by decide +kernel
theorem d3_2 : decode jdk_65_method_113_code 2 = .ok (.aload_n 0, 1) := by decide +kernel
theorem d3_3 : decode jdk_65_method_113_code 3 = .ok (.arraylength, 1) := by decide +kernel
theorem d3_4 : decode jdk_65_method_113_code 4 = .ok (.istore 4, 2) := by decide +kernel
theorem d3_6 : decode jdk_65_method_113_code 6 = .ok (.iload_n 3, 1) := by decide +kernel
theorem d3_7 : decode jdk_65_method_113_code 7 = .ok (.iload 4, 2) := by decide +kernel
theorem d3_9 : decode jdk_65_method_113_code 9 = .ok (.if_icmp .ge 13, 3) := by decide +kernel
theorem d3_12 : decode jdk_65_method_113_code 12 = .ok (.aload_n 0, 1) := by decide +kernel
theorem d3_13 : decode jdk_65_method_113_code 13 = .ok (.iload_n 3, 1) := by decide +kernel
theorem d3_14 : decode jdk_65_method_113_code 14 = .ok (.dload_n 1, 1) := by decide +kernel
theorem d3_15 : decode jdk_65_method_113_code 15 = .ok (.dastore, 1) := by decide +kernel
theorem d3_16 : decode jdk_65_method_113_code 16 = .ok (.iinc 3 1, 3) := by decide +kernel
theorem d3_19 : decode jdk_65_method_113_code 19 = .ok (.goto (-13), 3) := by decide +kernel
theorem d3_22 : decode jdk_65_method_113_code 22 = .ok (.return_, 1) := by decide +kernel
theorem d4_0 : decode prog_58_method_2_code 0 = .ok (.aload_n 0, 1) := by decide +kernel
theorem d4_1 : decode prog_58_method_2_code 1 = .ok (.getfield 7, 3) := by decide +kernel
theorem d4_4 : decode prog_58_method_2_code 4 = .ok (.iload_n 1, 1) := by decide +kernel
theorem d4_5 : decode prog_58_method_2_code 5 = .ok (.iadd, 1) := by decide +kernel
theorem d4_6 : decode prog_58_method_2_code 6 = .ok (.istore 4, 2) := by decide +kernel
theorem d4_8 : decode prog_58_method_2_code 8 = .ok (.aload_n 0, 1) := by decide +kernel
theorem d4_9 : decode prog_58_method_2_code 9 = .ok (.getfield 13, 3) := by decide +kernel
theorem d4_12 : decode prog_58_method_2_code 12 = .ok (.iload 4, 2) := by decide +kernel
theorem d4_14 : decode prog_58_method_2_code 14 = .ok (.dload_n 2, 1) := by decide +kernel
theorem d4_15 : decode prog_58_method_2_code 15 = .ok (.dastore, 1) := by decide +kernel
theorem d4_16 : decode prog_58_method_2_code 16 = .ok (.iload 4, 2) := by decide +kernel
theorem d4_18 : decode prog_58_method_2_code 18 = .ok (.iconst 2, 1) := by decide +kernel
theorem d4_19 : decode prog_58_method_2_code 19 = .ok (.idiv, 1) := by decide +kernel
theorem d4_20 : decode prog_58_method_2_code 20 = .ok (.istore 4, 2) := by decide +kernel
theorem d4_22 : decode prog_58_method_2_code 22 = .ok (.iload 4, 2) := by decide +kernel
theorem d4_24 : decode prog_58_method_2_code 24 = .ok (.iconst 1, 1) := by decide +kernel
theorem d4_25 : decode prog_58_method_2_code 25 = .ok (.if_icmp .lt 42, 3) := by decide +kernel
theorem d4_28 : decode prog_58_method_2_code 28 = .ok (.aload_n 0, 1) := by decide +kernel
theorem d4_29 : decode prog_58_method_2_code 29 = .ok (.getfield 13, 3) := by decide +kernel
theorem d4_32 : decode prog_58_method_2_code 32 = .ok (.iload 4, 2) := by decide +kernel
theorem d4_34 : decode prog_58_method_2_code 34 = .ok (.aload_n 0, 1) := by decide +kernel
theorem d4_35 : decode prog_58_method_2_code 35 = .ok (.getfield 13, 3) := by decide +kernel
theorem d4_38 : decode prog_58_method_2_code 38 = .ok (.iconst 2, 1) := by decide +kernel
theorem d4_39 : decode prog_58_method_2_code 39 = .ok (.iload 4, 2) := by decide +kernel
theorem d4_41 : decode prog_58_method_2_code 41 = .ok (.imul, 1) := by decide +kernel
theorem d4_42 : decode prog_58_method_2_code 42 = .ok (.daload, 1) := by decide +kernel
theorem d4_43 : decode prog_58_method_2_code 43 = .ok (.aload_n 0, 1) := by decide +kernel
theorem d4_44 : decode prog_58_method_2_code 44 = .ok (.getfield 13, 3) := by decide +kernel
theorem d4_47 : decode prog_58_method_2_code 47 = .ok (.iconst 2, 1) := by decide +kernel
theorem d4_48 : decode prog_58_method_2_code 48 = .ok (.iload 4, 2) := by decide +kernel
theorem d4_50 : decode prog_58_method_2_code 50 = .ok (.imul, 1) := by decide +kernel
theorem d4_51 : decode prog_58_method_2_code 51 = .ok (.iconst 1, 1) := by decide +kernel
theorem d4_52 : decode prog_58_method_2_code 52 = .ok (.iadd, 1) := by decide +kernel
theorem d4_53 : decode prog_58_method_2_code 53 = .ok (.daload, 1) := by decide +kernel
theorem d4_54 : decode prog_58_method_2_code 54 = .ok (.invokestatic 26, 3) := by decide +kernel
theorem d4_57 : decode prog_58_method_2_code 57 = .ok (.dastore, 1) := by decide +kernel
theorem d4_58 : decode prog_58_method_2_code 58 = .ok (.iload 4, 2) := by decide +kernel
theorem d4_60 : decode prog_58_method_2_code 60 = .ok (.iconst 2, 1) := by decide +kernel
theorem d4_61 : decode prog_58_method_2_code 61 = .ok (.idiv, 1) := by decide +kernel
theorem d4_62 : decode prog_58_method_2_code 62 = .ok (.istore 4, 2) := by decide +kernel
theorem d4_64 : decode prog_58_method_2_code 64 = .ok (.goto (-42), 3) := by decide +kernel
theorem d4_67 : decode prog_58_method_2_code 67 = .ok (.return_, 1) := by decide +kernel
theorem d5_0 : decode prog_58_method_6_code 0 = .ok (.iload_n 1, 1) := by decide +kernel
theorem d5_1 : decode prog_58_method_6_code 1 = .ok (.iload_n 2, 1) := by decide +kernel
theorem d5_2 : decode prog_58_method_6_code 2 = .ok (.if_icmp .lt 5, 3) := by decide +kernel
theorem d5_5 : decode prog_58_method_6_code 5 = .ok (.iconst (-1), 1) := by decide +kernel
theorem d5_6 : decode prog_58_method_6_code 6 = .ok (.ireturn, 1) := by decide +kernel
theorem d5_7 : decode prog_58_method_6_code 7 = .ok (.aload_n 0, 1) := by decide +kernel
theorem d5_8 : decode prog_58_method_6_code 8 = .ok (.getfield 7, 3) := by decide +kernel
theorem d5_11 : decode prog_58_method_6_code 11 = .ok (.iload_n 1, 1) := by decide +kernel
theorem d5_12 : decode prog_58_method_6_code 12 = .ok (.iadd, 1) := by decide +kernel
theorem d5_13 : decode prog_58_method_6_code 13 = .ok (.istore 5, 2) := by decide +kernel
theorem d5_15 : decode prog_58_method_6_code 15 = .ok (.aload_n 0, 1) := by decide +kernel
theorem d5_16 : decode prog_58_method_6_code 16 = .ok (.getfield 13, 3) := by decide +kernel
theorem d5_19 : decode prog_58_method_6_code 19 = .ok (.iload 5, 2) := by decide +kernel
theorem d5_21 : decode prog_58_method_6_code 21 = .ok (.daload, 1) := by decide +kernel
theorem d5_22 : decode prog_58_method_6_code 22 = .ok (.dload_n 3, 1) := by decide +kernel
theorem d5_23 : decode prog_58_method_6_code 23 = .ok (.dcmp .l, 1) := by decide +kernel
theorem d5_24 : decode prog_58_method_6_code 24 = .ok (.ifCond .le 33, 3) := by decide +kernel
theorem d5_27 : decode prog_58_method_6_code 27 = .ok (.iload 5, 2) := by decide +kernel
theorem d5_29 : decode prog_58_method_6_code 29 = .ok (.iconst 1, 1) := by decide +kernel
theorem d5_30 : decode prog_58_method_6_code 30 = .ok (.iand, 1) := by decide +kernel
theorem d5_31 : decode prog_58_method_6_code 31 = .ok (.iconst 1, 1) := by decide +kernel
theorem d5_32 : decode prog_58_method_6_code 32 = .ok (.if_icmp .ne 12, 3) := by decide +kernel
theorem d5_35 : decode prog_58_method_6_code 35 = .ok (.iload 5, 2) := by decide +kernel
theorem d5_37 : decode prog_58_method_6_code 37 = .ok (.iconst 2, 1) := by decide +kernel
theorem d5_38 : decode prog_58_method_6_code 38 = .ok (.idiv, 1) := by decide +kernel
theorem d5_39 : decode prog_58_method_6_code 39 = .ok (.istore 5, 2) := by decide +kernel
theorem d5_41 : decode prog_58_method_6_code 41 = .ok (.goto (-14), 3) := by decide +kernel
theorem d5_44 : decode prog_58_method_6_code 44 = .ok (.iload 5, 2) := by decide +kernel
theorem d5_46 : decode prog_58_method_6_code 46 = .ok (.ifCond .ne 5, 3) := by decide +kernel
theorem d5_49 : decode prog_58_method_6_code 49 = .ok (.iconst (-1), 1) := by decide +kernel
theorem d5_50 : decode prog_58_method_6_code 50 = .ok (.ireturn, 1) := by decide +kernel
theorem d5_51 : decode prog_58_method_6_code 51 = .ok (.iinc 5 1, 3) := by decide +kernel
theorem d5_54 : decode prog_58_method_6_code 54 = .ok (.goto (-39), 3) := by decide +kernel
theorem d5_57 : decode prog_58_method_6_code 57 = .ok (.iload 5, 2) := by decide +kernel
theorem d5_59 : decode prog_58_method_6_code 59 = .ok (.aload_n 0, 1) := by decide +kernel
theorem d5_60 : decode prog_58_method_6_code 60 = .ok (.getfield 7, 3) := by decide +kernel
theorem d5_63 : decode prog_58_method_6_code 63 = .ok (.if_icmp .ge 35, 3) := by decide +kernel
theorem d5_66 : decode prog_58_method_6_code 66 = .ok (.aload_n 0, 1) := by decide +kernel
theorem d5_67 : decode prog_58_method_6_code 67 = .ok (.getfield 13, 3) := by decide +kernel
theorem d5_70 : decode prog_58_method_6_code 70 = .ok (.iconst 2, 1) := by decide +kernel
theorem d5_71 : decode prog_58_method_6_code 71 = .ok (.iload 5, 2) := by decide +kernel
theorem d5_73 : decode prog_58_method_6_code 73 = .ok (.imul, 1) := by decide +kernel
theorem d5_74 : decode prog_58_method_6_code 74 = .ok (.daload, 1) := by decide +kernel
theorem d5_75 : decode prog_58_method_6_code 75 = .ok (.dload_n 3, 1) := by decide +kernel
theorem d5_76 : decode prog_58_method_6_code 76 = .ok (.dcmp .g, 1) := by decide +kernel
theorem d5_77 : decode prog_58_method_6_code 77 = .ok (.ifCond .gt 10, 3) := by decide +kernel
theorem d5_80 : decode prog_58_method_6_code 80 = .ok (.iconst 2, 1) := by decide +kernel
theorem d5_81 : decode prog_58_method_6_code 81 = .ok (.iload 5, 2) := by decide +kernel
theorem d5_83 : decode prog_58_method_6_code 83 = .ok (.imul, 1) := by decide +kernel
theorem d5_84 : decode prog_58_method_6_code 84 = .ok (.goto 9, 3) := by decide +kernel
theorem d5_87 : decode prog_58_method_6_code 87 = .ok (.iconst 2, 1) := by decide +kernel
theorem d5_88 : decode prog_58_method_6_code 88 = .ok (.iload 5, 2) := by decide +kernel
theorem d5_90 : decode prog_58_method_6_code 90 = .ok (.imul, 1) := by decide +kernel
theorem d5_91 : decode prog_58_method_6_code 91 = .ok (.iconst 1, 1) := by decide +kernel
theorem d5_92 : decode prog_58_method_6_code 92 = .ok (.iadd, 1) := by decide +kernel
theorem d5_93 : decode prog_58_method_6_code 93 = .ok (.istore 5, 2) := by decide +kernel
theorem d5_95 : decode prog_58_method_6_code 95 = .ok (.goto (-38), 3) := by decide +kernel
theorem d5_98 : decode prog_58_method_6_code 98 = .ok (.iload 5, 2) := by decide +kernel
theorem d5_100 : decode prog_58_method_6_code 100 = .ok (.aload_n 0, 1) := by decide +kernel
theorem d5_101 : decode prog_58_method_6_code 101 = .ok (.getfield 7, 3) := by decide +kernel
theorem d5_104 : decode prog_58_method_6_code 104 = .ok (.isub, 1) := by decide +kernel
theorem d5_105 : decode prog_58_method_6_code 105 = .ok (.istore 6, 2) := by decide +kernel
theorem d5_107 : decode prog_58_method_6_code 107 = .ok (.iload 6, 2) := by decide +kernel
theorem d5_109 : decode prog_58_method_6_code 109 = .ok (.iload_n 2, 1) := by decide +kernel
theorem d5_110 : decode prog_58_method_6_code 110 = .ok (.if_icmp .ge 8, 3) := by decide +kernel
theorem d5_113 : decode prog_58_method_6_code 113 = .ok (.iload 6, 2) := by decide +kernel
theorem d5_115 : decode prog_58_method_6_code 115 = .ok (.goto 4, 3) := by decide +kernel
theorem d5_118 : decode prog_58_method_6_code 118 = .ok (.iconst (-1), 1) := by decide +kernel
theorem d5_119 : decode prog_58_method_6_code 119 = .ok (.ireturn, 1) := by decide +kernel
theorem d6_0 : decode method_3_code 0 = .ok (.iload_n 2, 1) := by decide +kernel
theorem d6_1 : decode method_3_code 1 = .ok (.iload_n 0, 1) := by decide +kernel
theorem d6_2 : decode method_3_code 2 = .ok (.if_icmp .gt 20, 3) := by decide +kernel
theorem d6_5 : decode method_3_code 5 = .ok (.iload_n 0, 1) := by decide +kernel
theorem d6_6 : decode method_3_code 6 = .ok (.iload_n 3, 1) := by decide +kernel
theorem d6_7 : decode method_3_code 7 = .ok (.if_icmp .ge 15, 3) := by decide +kernel
theorem d6_10 : decode method_3_code 10 = .ok (.iload_n 1, 1) := by decide +kernel
theorem d6_11 : decode method_3_code 11 = .ok (.i2d, 1) := by decide +kernel
theorem d6_12 : decode method_3_code 12 = .ok (.dload 4, 2) := by decide +kernel
theorem d6_14 : decode method_3_code 14 = .ok (.dcmp .g, 1) := by decide +kernel
theorem d6_15 : decode method_3_code 15 = .ok (.ifCond .gt 7, 3) := by decide +kernel
theorem d6_18 : decode method_3_code 18 = .ok (.iconst 1, 1) := by decide +kernel
theorem d6_19 : decode method_3_code 19 = .ok (.goto 4, 3) := by decide +kernel
theorem d6_22 : decode method_3_code 22 = .ok (.iconst 0, 1) := by decide +kernel
theorem d6_23 : decode method_3_code 23 = .ok (.ireturn, 1) := by decide +kernel
theorem own_pd0 : parseMethodDescriptor "([DD)V" = some ⟨[(.array .double), .double], none⟩ := by decide +kernel
theorem own_pd1 : parseMethodDescriptor "(DD)D" = some ⟨[.double, .double], some .double⟩ := by decide +kernel
theorem own_pd2 : parseMethodDescriptor "(ID)V" = some ⟨[.int, .double], none⟩ := by decide +kernel
theorem own_pd3 : parseMethodDescriptor "(IID)I" = some ⟨[.int, .int, .double], some .int⟩ := by decide +kernel
theorem own_pd4 : parseMethodDescriptor "(IIIID)Z" = some ⟨[.int, .int, .int, .int, .double], some .boolean⟩ := by decide +kernel
theorem pn_0 : plainName "com/example/frugal_scheduler/frugalscheduler/planners/MinTreeFirstAtMostPinLaw" = true := by first | (simp [plainName, overriddenIn]; done) | decide +kernel
theorem pn_1 : plainName "com/example/frugal_scheduler/frugalscheduler/planners/MinTree" = true := by first | (simp [plainName, overriddenIn]; done) | decide +kernel
theorem pn_3 : plainName "java/util/Arrays" = true := by first | (simp [plainName, overriddenIn]; done) | decide +kernel
theorem pn_4 : plainName "com/example/frugal_scheduler/frugalscheduler/planners/MinTree" = true := by first | (simp [plainName, overriddenIn]; done) | decide +kernel
theorem pn_5 : plainName "com/example/frugal_scheduler/frugalscheduler/planners/MinTree" = true := by first | (simp [plainName, overriddenIn]; done) | decide +kernel
theorem pn_6 : plainName "com/example/frugal_scheduler/frugalscheduler/planners/MinTreeFirstAtMostPinLaw" = true := by first | (simp [plainName, overriddenIn]; done) | decide +kernel
set_option maxRecDepth 65536 in
set_option maxHeartbeats 40000000 in
theorem lpF {p : Program} {l : Launch} {e : Env} {R : Room} {s : State} {m : MethodId} {args : Array Value} {below : List Frame} {meth : Method} {cd : Code} {A : State → Outcome → Prop} {Z : State} {a0 : Array Value} {h0 : Heap} {n0 : Nat} (hx : p.tables.exec = Jvm.exec) (hZ : Z.Warmed39 s.vm) (hw : ∀ d ∈ tables_1, d.before a0 Z = true) (hby : cd.code = jdk_65_method_113_code) (hml : cd.maxLocals = 5) (hown : s.vm.findClass "java/util/Arrays" = some m.cls) (a1 : Addr) (x2 : UInt64) (n : Nat) (gg : Nat → UInt64) (hn : n ≤ 16) (ge1 : n0 ≤ a1) :
    ∀ (k i : Nat) (hi : i + k = n) {T : State} {locs : List Loc} {cells slots : Nat} {h : Heap} (X0 : Stand p l e R s m args below meth cd T locs cells slots) (e0 : T.heap = h) (N0 : Fr n0 locs) (Z0 : n0 ≤ h.size) (K0 : Keep h0 h [a1]) (V : own_K .double Z h a1 .double n (own_fl gg x2 i))
      (cont : ∀ {T' : State} {locs' : List Loc} {h' : Heap} (_ : Stand p l e R s m args below meth cd T' locs' cells slots) (_ : T'.heap = h') (_ : Fr n0 locs') (_ : n0 ≤ h'.size) (_ : Keep h0 h' [a1]) (_ : own_K .double Z h' a1 .double n (own_fl gg x2 n)), own_R p.tables e below A (T'.setTop (mkF m 22 #[.val (.ref a1), .val (.double x2), .second, .val (.int (Int32.ofNat n)), .val (.int (Int32.ofNat n))] []))), own_R p.tables e below A (T.setTop (mkF m 6 #[.val (.ref a1), .val (.double x2), .second, .val (.int (Int32.ofNat i)), .val (.int (Int32.ofNat n))] [])) := by
  intro k
  induction k with
  | zero =>
    intro i hi T locs cells slots h X0 e0 N0 Z0 K0 V cont
    obtain rfl : i = n := by omega
    show own_R p.tables e below _ (T.setTop (mkF m 6 #[.val (.ref a1), .val (.double x2), .second, .val (.int (Int32.ofNat i)), .val (.int (Int32.ofNat i))] []))
    refine own_by (fun _ kZ => XS.iloadN X0.here hx rfl (hb hby d3_6) rfl kZ) ?_
    show own_R p.tables e below _ (T.setTop (mkF m 7 #[.val (.ref a1), .val (.double x2), .second, .val (.int (Int32.ofNat i)), .val (.int (Int32.ofNat i))] [(.int (Int32.ofNat i))]))
    refine own_by (fun _ kZ => XS.iload X0.here hx rfl (hb hby d3_7) rfl kZ) ?_
    show own_R p.tables e below _ (T.setTop (mkF m 9 #[.val (.ref a1), .val (.double x2), .second, .val (.int (Int32.ofNat i)), .val (.int (Int32.ofNat i))] [(.int (Int32.ofNat i)), (.int (Int32.ofNat i))]))
    refine own_by (fun _ kZ => XS.icmpYes X0.here hx rfl (pc0 := 9) (pc' := 22) rfl (hb hby d3_9) rfl (flt (by rw [own_ltI (by omega) (by omega)]; omega : ¬ Int32.ofNat i < Int32.ofNat i)).2.1 (by decide) (by decide) kZ) ?_
    show own_R p.tables e below _ (T.setTop (mkF m 22 #[.val (.ref a1), .val (.double x2), .second, .val (.int (Int32.ofNat i)), .val (.int (Int32.ofNat i))] []))
    exact cont X0 e0 N0 Z0 K0 V
  | succ k ih =>
    intro i hi T locs cells slots h X0 e0 N0 Z0 K0 V cont
    show own_R p.tables e below _ (T.setTop (mkF m 6 #[.val (.ref a1), .val (.double x2), .second, .val (.int (Int32.ofNat i)), .val (.int (Int32.ofNat n))] []))
    refine own_by (fun _ kZ => XS.iloadN X0.here hx rfl (hb hby d3_6) rfl kZ) ?_
    show own_R p.tables e below _ (T.setTop (mkF m 7 #[.val (.ref a1), .val (.double x2), .second, .val (.int (Int32.ofNat i)), .val (.int (Int32.ofNat n))] [(.int (Int32.ofNat i))]))
    refine own_by (fun _ kZ => XS.iload X0.here hx rfl (hb hby d3_7) rfl kZ) ?_
    show own_R p.tables e below _ (T.setTop (mkF m 9 #[.val (.ref a1), .val (.double x2), .second, .val (.int (Int32.ofNat i)), .val (.int (Int32.ofNat n))] [(.int (Int32.ofNat n)), (.int (Int32.ofNat i))]))
    refine own_by (fun _ kZ => XS.icmpNo X0.here hx rfl (hb hby d3_9) rfl (tlt ((own_ltI (by omega) (by omega)).mpr (by omega) : Int32.ofNat i < Int32.ofNat n)).2.1 kZ) ?_
    show own_R p.tables e below _ (T.setTop (mkF m 12 #[.val (.ref a1), .val (.double x2), .second, .val (.int (Int32.ofNat i)), .val (.int (Int32.ofNat n))] []))
    refine own_by (fun _ kZ => XS.aloadN X0.here hx rfl (hb hby d3_12) rfl rfl kZ) ?_
    show own_R p.tables e below _ (T.setTop (mkF m 13 #[.val (.ref a1), .val (.double x2), .second, .val (.int (Int32.ofNat i)), .val (.int (Int32.ofNat n))] [(.ref a1)]))
    refine own_by (fun _ kZ => XS.iloadN X0.here hx rfl (hb hby d3_13) rfl kZ) ?_
    show own_R p.tables e below _ (T.setTop (mkF m 14 #[.val (.ref a1), .val (.double x2), .second, .val (.int (Int32.ofNat i)), .val (.int (Int32.ofNat n))] [(.int (Int32.ofNat i)), (.ref a1)]))
    refine own_by (fun _ kZ => own_dloadN X0.here hx rfl (hb hby d3_14) rfl kZ) ?_
    show own_R p.tables e below _ (T.setTop (mkF m 15 #[.val (.ref a1), .val (.double x2), .second, .val (.int (Int32.ofNat i)), .val (.int (Int32.ofNat n))] [(.double x2), (.int (Int32.ofNat i)), (.ref a1)]))
    obtain ⟨cl1, Ar1, hin1, -⟩ := V.rd (i := (Int32.ofNat i)) (p := i) (own_clamp (by omega)) (own_nn (by omega)) (by omega)
    obtain ⟨T2, h2, X2, e2, W2, st2⟩ := own_stD X0 hx hZ e0 Ar1 (j := (Int32.ofNat i)) hin1 (g := (mkF m 15 #[.val (.ref a1), .val (.double x2), .second, .val (.int (Int32.ofNat i)), .val (.int (Int32.ofNat n))] [(.double x2), (.int (Int32.ofNat i)), (.ref a1)])) rfl rfl (hb hby d3_15)
    have Z3 : n0 ≤ h2.size := Nat.le_trans Z0 (Keep.of_wr W2).1
    have K3 : Keep h0 h2 [a1] := K0.wr W2 (Or.inl (List.mem_of_getElem? (i := 0) rfl))
    have N3 := Fr.snoc X2 N0 ge1
    have V2 : own_K .double Z h2 a1 .double n (own_uk (own_fl gg x2 i) i x2) := V.set (i := (Int32.ofNat i)) (p := i) (own_clamp (by omega)) W2
    refine own_by st2 ?_
    show own_R p.tables e below _ (T2.setTop (mkF m 16 #[.val (.ref a1), .val (.double x2), .second, .val (.int (Int32.ofNat i)), .val (.int (Int32.ofNat n))] []))
    have V4 : own_K .double Z h2 a1 .double n (own_fl gg x2 (i + 1)) := (own_flt gg x2 i) ▸ V2
    refine own_by (fun _ kZ => XS.iinc X2.here hx rfl (hb hby d3_16) rfl (l' := #[.val (.ref a1), .val (.double x2), .second, .val (.int ((Int32.ofNat i) + (1 : Int32))), .val (.int (Int32.ofNat n))]) rfl kZ) ?_
    show own_R p.tables e below _ (T2.setTop (mkF m 19 #[.val (.ref a1), .val (.double x2), .second, .val (.int ((Int32.ofNat i) + (1 : Int32))), .val (.int (Int32.ofNat n))] []))
    rw [show ((Int32.ofNat i) + (1 : Int32)) = (Int32.ofNat (i + 1)) from own_add1 i]
    show own_R p.tables e below _ (T2.setTop (mkF m 19 #[.val (.ref a1), .val (.double x2), .second, .val (.int (Int32.ofNat (i + 1))), .val (.int (Int32.ofNat n))] []))
    refine own_by (fun _ kZ => XS.goto X2.here hx rfl (pc0 := 19) (pc' := 6) rfl (hb hby d3_19) (by decide) (by decide) kZ) ?_
    show own_R p.tables e below _ (T2.setTop (mkF m 6 #[.val (.ref a1), .val (.double x2), .second, .val (.int (Int32.ofNat (i + 1))), .val (.int (Int32.ofNat n))] []))
    exact ih (i + 1) (by omega) X2 e2 N3 Z3 K3 V4 cont
theorem ef_3 (m : MethodId) (a1 : Addr) (x2 : UInt64) : entryFrame m #[(.ref a1), (.double x2)] 5 = mkF m 0 #[.val (.ref a1), .val (.double x2), .second, .unset, .unset] [] := by first | (simp [entryFrame, mkF, argsToLocals, Value.category]; done) | rfl
def Q3 (Z : State) (a1 : Addr) (x2 : UInt64) (n : Nat) (gg : Nat → UInt64) (h0 : Heap) (n0 : Nat) (v : Option Value) (h : Heap) (L : List Loc) : Prop := v = none ∧ Fr n0 L ∧ Keep h0 h [a1] ∧ own_K .double Z h a1 .double n (fun _ => x2)
set_option maxRecDepth 65536 in
set_option maxHeartbeats 40000000 in
theorem rm3 (l : Launch) (Z : State) (a0 : Array Value) (hw : ∀ d ∈ tables_1, d.before a0 Z = true) (ws : List Jvm.Cond) (a1 : Addr) (x2 : UInt64) (n : Nat) (gg : Nat → UInt64) (h0 : Heap) (n0 : Nat) (Z0 : n0 ≤ h0.size) (hn : n ≤ 16) (ge1 : n0 ≤ a1) (V : own_K .double Z h0 a1 .double n gg) :
    MetFree l (⟨"java/util/Arrays", "fill", "([DD)V"⟩ : MethodName) (head1 (Jvm.Cond.code (⟨"java/util/Arrays", "fill", "([DD)V"⟩ : MethodName) jdk_65_method_113_code 5 none :: ws) ({ frames := 0, cells := 0, slots := 0, locals := 0 } : Room)) (fun a U => a = #[(.ref a1), (.double x2)] ∧ Z.Warmed39 U.vm ∧ U.heap = h0) (fun _ _ _ _ _ => True) (fun _ U o U' => ∃ v L, o = .returned v ∧ Q3 Z a1 x2 n gg h0 n0 v U'.heap L ∧ FrameEnd U o U' L ({ frames := 0, cells := 0, slots := 0, locals := 0 } : Room).cells ({ frames := 0, cells := 0, slots := 0, locals := 0 } : Room).slots) := by
  refine MetFree.of_bodySF (plainFor_of_name pn_3) hisR ?_
  intro p e s m args below meth cd s₁ Bd hml0 hP hK
  obtain ⟨rfl, hZ, hh⟩ := hP
  have hx := Bd.exec
  have hby := Bd.bytes
  have hml : cd.maxLocals = 5 := hml0
  have hown : s.vm.findClass "java/util/Arrays" = some m.cls := findClass_of_methodNamed Bd.named
  have hnm := (name_of_methodNamed Bd.named Bd.method).1
  have X0 : Stand p l e ({ frames := 0, cells := 0, slots := 0, locals := 0 } : Room) s m #[(.ref a1), (.double x2)] below meth cd s₁ [] 0 0 := Stand.of_body Bd
  have e0 : s₁.heap = h0 := by rw [← hh, Bd.state]; rfl
  have N0 := Fr.nil n0
  show own_R p.tables e below _ (s₁.setTop (entryFrame m #[(.ref a1), (.double x2)] 5))
  refine own_by (fun t kZ => castTop (ef_3 m a1 x2) kZ) ?_
  show own_R p.tables e below _ (s₁.setTop (mkF m 0 #[.val (.ref a1), .val (.double x2), .second, .unset, .unset] []))
  refine own_by (fun _ kZ => XS.iconst X0.here hx rfl (hb hby d3_0) kZ) ?_
  show own_R p.tables e below _ (s₁.setTop (mkF m 1 #[.val (.ref a1), .val (.double x2), .second, .unset, .unset] [(.int (0 : Int32))]))
  refine own_by (fun _ kZ => XS.istoreN X0.here hx rfl (hb hby d3_1) rfl (l' := #[.val (.ref a1), .val (.double x2), .second, .val (.int (0 : Int32)), .unset]) rfl kZ) ?_
  show own_R p.tables e below _ (s₁.setTop (mkF m 2 #[.val (.ref a1), .val (.double x2), .second, .val (.int (0 : Int32)), .unset] []))
  refine own_by (fun _ kZ => XS.aloadN X0.here hx rfl (hb hby d3_2) rfl rfl kZ) ?_
  show own_R p.tables e below _ (s₁.setTop (mkF m 3 #[.val (.ref a1), .val (.double x2), .second, .val (.int (0 : Int32)), .unset] [(.ref a1)]))
  obtain ⟨cl5, Ar5, hln5⟩ := V.ln
  refine own_by (fun _ kZ => X0.arraylength hx (by rw [e0]; exact Ar5.1) (State.isArrayOf_alike hZ.alike Ar5.2.1) (g := (mkF m 3 #[.val (.ref a1), .val (.double x2), .second, .val (.int (0 : Int32)), .unset] [(.ref a1)])) rfl rfl (hb hby d3_3) _ kZ) ?_
  rw [hln5]
  show own_R p.tables e below _ (s₁.setTop (mkF m 4 #[.val (.ref a1), .val (.double x2), .second, .val (.int (0 : Int32)), .unset] [(.int (Int32.ofNat n))]))
  refine own_by (fun _ kZ => XS.istore X0.here hx rfl (hb hby d3_4) rfl (l' := #[.val (.ref a1), .val (.double x2), .second, .val (.int (0 : Int32)), .val (.int (Int32.ofNat n))]) rfl kZ) ?_
  show own_R p.tables e below _ (s₁.setTop (mkF m 6 #[.val (.ref a1), .val (.double x2), .second, .val (.int (0 : Int32)), .val (.int (Int32.ofNat n))] []))
  show own_R p.tables e below _ (s₁.setTop (mkF m 6 #[.val (.ref a1), .val (.double x2), .second, .val (.int (Int32.ofNat 0)), .val (.int (Int32.ofNat n))] []))
  refine lpF hx hZ hw hby hml hown a1 x2 n gg hn ge1 n 0 (by omega) X0 e0 N0 Z0 (Keep.refl h0 [a1]) (V.eq (fun j _ => rfl)) ?_
  intro T9 L9 h9 X9 e9 N9 Z9 K9 V9
  show own_R p.tables e below _ (T9.setTop (mkF m 22 #[.val (.ref a1), .val (.double x2), .second, .val (.int (Int32.ofNat n)), .val (.int (Int32.ofNat n))] []))
  obtain ⟨fs, hr, hrun, hended, hW, hsame⟩ := X9.leave (v := none) (fun _ => rfl)
  refine own_end ⟨_, _, ?_, hrun, hended, _, _, rfl, ?_, ⟨_, rfl⟩, hW, hsame.mono (by decide) (by decide)⟩
  · exact X9.returnOut hx Bd.returns (hb hby d3_22) hr
  · show Q3 Z a1 x2 n gg h0 n0 _ T9.heap _
    rw [e9]
    exact ⟨rfl, N9, K9, V9.eq (fun j hj => if_pos hj)⟩
theorem ef_1 (m : MethodId) (a1 : Addr) (p2 : Int32) (x3 : UInt64) : entryFrame m #[(.ref a1), (.int p2), (.double x3)] 5 = mkF m 0 #[.val (.ref a1), .val (.int p2), .val (.double x3), .second, .unset] [] := by first | (simp [entryFrame, mkF, argsToLocals, Value.category]; done) | rfl
def Q1 (Z : State) (a1 : Addr) (p2 : Int32) (x3 : UInt64) (N : Nat) (xi : Int32) (h0 : Heap) (n0 : Nat) (v : Option Value) (h : Heap) (L : List Loc) : Prop := v = none ∧ Fr n0 L ∧ Keep h0 h [a1] ∧ ∃ b, own_MT Z h n0 a1 b N (fun _ => xi)
set_option maxRecDepth 65536 in
set_option maxHeartbeats 40000000 in
theorem rm1 (l : Launch) (Z : State) (a0 : Array Value) (hw : ∀ d ∈ tables_1, d.before a0 Z = true) (ws : List Jvm.Cond) (a1 : Addr) (p2 : Int32) (x3 : UInt64) (N : Nat) (xi : Int32) (h0 : Heap) (n0 : Nat) (Z0 : n0 ≤ h0.size) (hp2 : p2 = Int32.ofNat N) (hx3 : x3 = FP.i2d xi) (hN1 : 1 ≤ N) (hN5 : N ≤ 5) (ge1 : n0 ≤ a1) (Ex : Exa Z h0 a1 "com/example/frugal_scheduler/frugalscheduler/planners/MinTree") (F_leaves : Fld Z h0 a1 "com/example/frugal_scheduler/frugalscheduler/planners/MinTree" "leaves" "I" (.int (0 : Int32))) (F_mins : Fld Z h0 a1 "com/example/frugal_scheduler/frugalscheduler/planners/MinTree" "mins" "[D" .null) (F_size : Fld Z h0 a1 "com/example/frugal_scheduler/frugalscheduler/planners/MinTree" "size" "I" (.int (0 : Int32))) :
    MetFree l (⟨"com/example/frugal_scheduler/frugalscheduler/planners/MinTree", "<init>", "(ID)V"⟩ : MethodName) (head1 (Jvm.Cond.code (⟨"com/example/frugal_scheduler/frugalscheduler/planners/MinTree", "<init>", "(ID)V"⟩ : MethodName) prog_58_method_1_code 5 none :: ws) ({ frames := 1, cells := 1, slots := 16, locals := 16 } : Room)) (fun a U => a = #[(.ref a1), (.int p2), (.double x3)] ∧ Z.Warmed39 U.vm ∧ U.heap = h0) (fun _ _ _ _ _ => True) (fun _ U o U' => ∃ v L, o = .returned v ∧ Q1 Z a1 p2 x3 N xi h0 n0 v U'.heap L ∧ FrameEnd U o U' L ({ frames := 1, cells := 1, slots := 16, locals := 16 } : Room).cells ({ frames := 1, cells := 1, slots := 16, locals := 16 } : Room).slots) := by
  refine MetFree.of_bodySF (plainFor_of_name pn_1) hisR ?_
  intro p e s m args below meth cd s₁ Bd hml0 hP hK
  obtain ⟨rfl, hZ, hh⟩ := hP
  have hx := Bd.exec
  have hby := Bd.bytes
  have hml : cd.maxLocals = 5 := hml0
  have hown : s.vm.findClass "com/example/frugal_scheduler/frugalscheduler/planners/MinTree" = some m.cls := findClass_of_methodNamed Bd.named
  have hnm := (name_of_methodNamed Bd.named Bd.method).1
  have X0 : Stand p l e ({ frames := 1, cells := 1, slots := 16, locals := 16 } : Room) s m #[(.ref a1), (.int p2), (.double x3)] below meth cd s₁ [] 0 0 := Stand.of_body Bd
  have e0 : s₁.heap = h0 := by rw [← hh, Bd.state]; rfl
  have N0 := Fr.nil n0
  show own_R p.tables e below _ (s₁.setTop (entryFrame m #[(.ref a1), (.int p2), (.double x3)] 5))
  refine own_by (fun t kZ => castTop (ef_1 m a1 p2 x3) kZ) ?_
  show own_R p.tables e below _ (s₁.setTop (mkF m 0 #[.val (.ref a1), .val (.int p2), .val (.double x3), .second, .unset] []))
  subst hp2 hx3
  show own_R p.tables e below _ (s₁.setTop (mkF m 0 #[.val (.ref a1), .val (.int (Int32.ofNat N)), .val (.double (FP.i2d xi)), .second, .unset] []))
  refine own_by (fun _ kZ => XS.aloadN X0.here hx rfl (hb hby d1_0) rfl rfl kZ) ?_
  show own_R p.tables e below _ (s₁.setTop (mkF m 1 #[.val (.ref a1), .val (.int (Int32.ofNat N)), .val (.double (FP.i2d xi)), .second, .unset] [(.ref a1)]))
  obtain ⟨T6, X6, e6, st6⟩ := initO X0 hx hZ hown (hw _ (List.mem_of_getElem? (i := 7) rfl)) (hw _ (List.mem_of_getElem? (i := 8) rfl)) (hw _ (List.mem_of_getElem? (i := 9) rfl)) e0 (g := (mkF m 1 #[.val (.ref a1), .val (.int (Int32.ofNat N)), .val (.double (FP.i2d xi)), .second, .unset] [(.ref a1)])) rfl (by rw [hml]; rfl) rfl (hb hby d1_1) (by decide) (W := 0) (by show 2 * 0 + _ ≤ _; exact Nat.le_of_eq rfl) (by decide)
  refine own_by st6 ?_
  show own_R p.tables e below _ (T6.setTop (mkF m 4 #[.val (.ref a1), .val (.int (Int32.ofNat N)), .val (.double (FP.i2d xi)), .second, .unset] []))
  refine own_by (fun _ kZ => XS.iconst X6.here hx rfl (hb hby d1_4) kZ) ?_
  show own_R p.tables e below _ (T6.setTop (mkF m 5 #[.val (.ref a1), .val (.int (Int32.ofNat N)), .val (.double (FP.i2d xi)), .second, .unset] [(.int (1 : Int32))]))
  refine own_by (fun _ kZ => XS.istore X6.here hx rfl (hb hby d1_5) rfl (l' := #[.val (.ref a1), .val (.int (Int32.ofNat N)), .val (.double (FP.i2d xi)), .second, .val (.int (1 : Int32))]) rfl kZ) ?_
  show own_R p.tables e below _ (T6.setTop (mkF m 7 #[.val (.ref a1), .val (.int (Int32.ofNat N)), .val (.double (FP.i2d xi)), .second, .val (.int (1 : Int32))] []))
  show own_R p.tables e below _ (T6.setTop (mkF m 7 #[.val (.ref a1), .val (.int (Int32.ofNat N)), .val (.double (FP.i2d xi)), .second, .val (.int (Int32.ofNat 1))] []))
  refine own_join (α := Nat) (fun x => T6.setTop (mkF m 22 #[.val (.ref a1), .val (.int (Int32.ofNat N)), .val (.double (FP.i2d xi)), .second, .val (.int (Int32.ofNat x))] [])) (fun x => x = own_leaves N) (fun rest => ?_) ?_
  · skip
    show own_R p.tables e below _ (T6.setTop (mkF m 7 #[.val (.ref a1), .val (.int (Int32.ofNat N)), .val (.double (FP.i2d xi)), .second, .val (.int (Int32.ofNat 1))] []))
    refine own_by (fun _ kZ => XS.iload X6.here hx rfl (hb hby d1_7) rfl kZ) ?_
    show own_R p.tables e below _ (T6.setTop (mkF m 9 #[.val (.ref a1), .val (.int (Int32.ofNat N)), .val (.double (FP.i2d xi)), .second, .val (.int (Int32.ofNat 1))] [(.int (Int32.ofNat 1))]))
    refine own_by (fun _ kZ => XS.iloadN X6.here hx rfl (hb hby d1_9) rfl kZ) ?_
    show own_R p.tables e below _ (T6.setTop (mkF m 10 #[.val (.ref a1), .val (.int (Int32.ofNat N)), .val (.double (FP.i2d xi)), .second, .val (.int (Int32.ofNat 1))] [(.int (Int32.ofNat N)), (.int (Int32.ofNat 1))]))
    by_cases hc1 : (Int32.ofNat 1) < (Int32.ofNat N)
    · skip
      refine own_by (fun _ kZ => XS.icmpNo X6.here hx rfl (hb hby d1_10) rfl (tlt hc1).2.1 kZ) ?_
      show own_R p.tables e below _ (T6.setTop (mkF m 13 #[.val (.ref a1), .val (.int (Int32.ofNat N)), .val (.double (FP.i2d xi)), .second, .val (.int (Int32.ofNat 1))] []))
      have hq1 : 1 < N := (own_ltI (by omega) (by omega)).mp hc1
      refine own_by (fun _ kZ => XS.iload X6.here hx rfl (hb hby d1_13) rfl kZ) ?_
      show own_R p.tables e below _ (T6.setTop (mkF m 15 #[.val (.ref a1), .val (.int (Int32.ofNat N)), .val (.double (FP.i2d xi)), .second, .val (.int (Int32.ofNat 1))] [(.int (Int32.ofNat 1))]))
      refine own_by (fun _ kZ => XS.iconst X6.here hx rfl (hb hby d1_15) kZ) ?_
      show own_R p.tables e below _ (T6.setTop (mkF m 16 #[.val (.ref a1), .val (.int (Int32.ofNat N)), .val (.double (FP.i2d xi)), .second, .val (.int (Int32.ofNat 1))] [(.int (2 : Int32)), (.int (Int32.ofNat 1))]))
      refine own_by (fun _ kZ => XS.imul X6.here hx rfl (hb hby d1_16) rfl kZ) ?_
      show own_R p.tables e below _ (T6.setTop (mkF m 17 #[.val (.ref a1), .val (.int (Int32.ofNat N)), .val (.double (FP.i2d xi)), .second, .val (.int (Int32.ofNat 1))] [(.int ((Int32.ofNat 1) * (2 : Int32)))]))
      rw [show ((Int32.ofNat 1) * (2 : Int32)) = (Int32.ofNat 2) from rfl]
      show own_R p.tables e below _ (T6.setTop (mkF m 17 #[.val (.ref a1), .val (.int (Int32.ofNat N)), .val (.double (FP.i2d xi)), .second, .val (.int (Int32.ofNat 1))] [(.int (Int32.ofNat 2))]))
      refine own_by (fun _ kZ => XS.istore X6.here hx rfl (hb hby d1_17) rfl (l' := #[.val (.ref a1), .val (.int (Int32.ofNat N)), .val (.double (FP.i2d xi)), .second, .val (.int (Int32.ofNat 2))]) rfl kZ) ?_
      show own_R p.tables e below _ (T6.setTop (mkF m 19 #[.val (.ref a1), .val (.int (Int32.ofNat N)), .val (.double (FP.i2d xi)), .second, .val (.int (Int32.ofNat 2))] []))
      refine own_by (fun _ kZ => XS.goto X6.here hx rfl (pc0 := 19) (pc' := 7) rfl (hb hby d1_19) (by decide) (by decide) kZ) ?_
      show own_R p.tables e below _ (T6.setTop (mkF m 7 #[.val (.ref a1), .val (.int (Int32.ofNat N)), .val (.double (FP.i2d xi)), .second, .val (.int (Int32.ofNat 2))] []))
      refine own_by (fun _ kZ => XS.iload X6.here hx rfl (hb hby d1_7) rfl kZ) ?_
      show own_R p.tables e below _ (T6.setTop (mkF m 9 #[.val (.ref a1), .val (.int (Int32.ofNat N)), .val (.double (FP.i2d xi)), .second, .val (.int (Int32.ofNat 2))] [(.int (Int32.ofNat 2))]))
      refine own_by (fun _ kZ => XS.iloadN X6.here hx rfl (hb hby d1_9) rfl kZ) ?_
      show own_R p.tables e below _ (T6.setTop (mkF m 10 #[.val (.ref a1), .val (.int (Int32.ofNat N)), .val (.double (FP.i2d xi)), .second, .val (.int (Int32.ofNat 2))] [(.int (Int32.ofNat N)), (.int (Int32.ofNat 2))]))
      by_cases hc2 : (Int32.ofNat 2) < (Int32.ofNat N)
      · skip
        refine own_by (fun _ kZ => XS.icmpNo X6.here hx rfl (hb hby d1_10) rfl (tlt hc2).2.1 kZ) ?_
        show own_R p.tables e below _ (T6.setTop (mkF m 13 #[.val (.ref a1), .val (.int (Int32.ofNat N)), .val (.double (FP.i2d xi)), .second, .val (.int (Int32.ofNat 2))] []))
        have hq2 : 2 < N := (own_ltI (by omega) (by omega)).mp hc2
        refine own_by (fun _ kZ => XS.iload X6.here hx rfl (hb hby d1_13) rfl kZ) ?_
        show own_R p.tables e below _ (T6.setTop (mkF m 15 #[.val (.ref a1), .val (.int (Int32.ofNat N)), .val (.double (FP.i2d xi)), .second, .val (.int (Int32.ofNat 2))] [(.int (Int32.ofNat 2))]))
        refine own_by (fun _ kZ => XS.iconst X6.here hx rfl (hb hby d1_15) kZ) ?_
        show own_R p.tables e below _ (T6.setTop (mkF m 16 #[.val (.ref a1), .val (.int (Int32.ofNat N)), .val (.double (FP.i2d xi)), .second, .val (.int (Int32.ofNat 2))] [(.int (2 : Int32)), (.int (Int32.ofNat 2))]))
        refine own_by (fun _ kZ => XS.imul X6.here hx rfl (hb hby d1_16) rfl kZ) ?_
        show own_R p.tables e below _ (T6.setTop (mkF m 17 #[.val (.ref a1), .val (.int (Int32.ofNat N)), .val (.double (FP.i2d xi)), .second, .val (.int (Int32.ofNat 2))] [(.int ((Int32.ofNat 2) * (2 : Int32)))]))
        rw [show ((Int32.ofNat 2) * (2 : Int32)) = (Int32.ofNat 4) from rfl]
        show own_R p.tables e below _ (T6.setTop (mkF m 17 #[.val (.ref a1), .val (.int (Int32.ofNat N)), .val (.double (FP.i2d xi)), .second, .val (.int (Int32.ofNat 2))] [(.int (Int32.ofNat 4))]))
        refine own_by (fun _ kZ => XS.istore X6.here hx rfl (hb hby d1_17) rfl (l' := #[.val (.ref a1), .val (.int (Int32.ofNat N)), .val (.double (FP.i2d xi)), .second, .val (.int (Int32.ofNat 4))]) rfl kZ) ?_
        show own_R p.tables e below _ (T6.setTop (mkF m 19 #[.val (.ref a1), .val (.int (Int32.ofNat N)), .val (.double (FP.i2d xi)), .second, .val (.int (Int32.ofNat 4))] []))
        refine own_by (fun _ kZ => XS.goto X6.here hx rfl (pc0 := 19) (pc' := 7) rfl (hb hby d1_19) (by decide) (by decide) kZ) ?_
        show own_R p.tables e below _ (T6.setTop (mkF m 7 #[.val (.ref a1), .val (.int (Int32.ofNat N)), .val (.double (FP.i2d xi)), .second, .val (.int (Int32.ofNat 4))] []))
        refine own_by (fun _ kZ => XS.iload X6.here hx rfl (hb hby d1_7) rfl kZ) ?_
        show own_R p.tables e below _ (T6.setTop (mkF m 9 #[.val (.ref a1), .val (.int (Int32.ofNat N)), .val (.double (FP.i2d xi)), .second, .val (.int (Int32.ofNat 4))] [(.int (Int32.ofNat 4))]))
        refine own_by (fun _ kZ => XS.iloadN X6.here hx rfl (hb hby d1_9) rfl kZ) ?_
        show own_R p.tables e below _ (T6.setTop (mkF m 10 #[.val (.ref a1), .val (.int (Int32.ofNat N)), .val (.double (FP.i2d xi)), .second, .val (.int (Int32.ofNat 4))] [(.int (Int32.ofNat N)), (.int (Int32.ofNat 4))]))
        by_cases hc4 : (Int32.ofNat 4) < (Int32.ofNat N)
        · skip
          refine own_by (fun _ kZ => XS.icmpNo X6.here hx rfl (hb hby d1_10) rfl (tlt hc4).2.1 kZ) ?_
          show own_R p.tables e below _ (T6.setTop (mkF m 13 #[.val (.ref a1), .val (.int (Int32.ofNat N)), .val (.double (FP.i2d xi)), .second, .val (.int (Int32.ofNat 4))] []))
          have hq4 : 4 < N := (own_ltI (by omega) (by omega)).mp hc4
          refine own_by (fun _ kZ => XS.iload X6.here hx rfl (hb hby d1_13) rfl kZ) ?_
          show own_R p.tables e below _ (T6.setTop (mkF m 15 #[.val (.ref a1), .val (.int (Int32.ofNat N)), .val (.double (FP.i2d xi)), .second, .val (.int (Int32.ofNat 4))] [(.int (Int32.ofNat 4))]))
          refine own_by (fun _ kZ => XS.iconst X6.here hx rfl (hb hby d1_15) kZ) ?_
          show own_R p.tables e below _ (T6.setTop (mkF m 16 #[.val (.ref a1), .val (.int (Int32.ofNat N)), .val (.double (FP.i2d xi)), .second, .val (.int (Int32.ofNat 4))] [(.int (2 : Int32)), (.int (Int32.ofNat 4))]))
          refine own_by (fun _ kZ => XS.imul X6.here hx rfl (hb hby d1_16) rfl kZ) ?_
          show own_R p.tables e below _ (T6.setTop (mkF m 17 #[.val (.ref a1), .val (.int (Int32.ofNat N)), .val (.double (FP.i2d xi)), .second, .val (.int (Int32.ofNat 4))] [(.int ((Int32.ofNat 4) * (2 : Int32)))]))
          rw [show ((Int32.ofNat 4) * (2 : Int32)) = (Int32.ofNat 8) from rfl]
          show own_R p.tables e below _ (T6.setTop (mkF m 17 #[.val (.ref a1), .val (.int (Int32.ofNat N)), .val (.double (FP.i2d xi)), .second, .val (.int (Int32.ofNat 4))] [(.int (Int32.ofNat 8))]))
          refine own_by (fun _ kZ => XS.istore X6.here hx rfl (hb hby d1_17) rfl (l' := #[.val (.ref a1), .val (.int (Int32.ofNat N)), .val (.double (FP.i2d xi)), .second, .val (.int (Int32.ofNat 8))]) rfl kZ) ?_
          show own_R p.tables e below _ (T6.setTop (mkF m 19 #[.val (.ref a1), .val (.int (Int32.ofNat N)), .val (.double (FP.i2d xi)), .second, .val (.int (Int32.ofNat 8))] []))
          refine own_by (fun _ kZ => XS.goto X6.here hx rfl (pc0 := 19) (pc' := 7) rfl (hb hby d1_19) (by decide) (by decide) kZ) ?_
          show own_R p.tables e below _ (T6.setTop (mkF m 7 #[.val (.ref a1), .val (.int (Int32.ofNat N)), .val (.double (FP.i2d xi)), .second, .val (.int (Int32.ofNat 8))] []))
          refine own_by (fun _ kZ => XS.iload X6.here hx rfl (hb hby d1_7) rfl kZ) ?_
          show own_R p.tables e below _ (T6.setTop (mkF m 9 #[.val (.ref a1), .val (.int (Int32.ofNat N)), .val (.double (FP.i2d xi)), .second, .val (.int (Int32.ofNat 8))] [(.int (Int32.ofNat 8))]))
          refine own_by (fun _ kZ => XS.iloadN X6.here hx rfl (hb hby d1_9) rfl kZ) ?_
          show own_R p.tables e below _ (T6.setTop (mkF m 10 #[.val (.ref a1), .val (.int (Int32.ofNat N)), .val (.double (FP.i2d xi)), .second, .val (.int (Int32.ofNat 8))] [(.int (Int32.ofNat N)), (.int (Int32.ofNat 8))]))
          refine own_by (fun _ kZ => XS.icmpYes X6.here hx rfl (pc0 := 10) (pc' := 22) rfl (hb hby d1_10) rfl (flt (by rw [own_ltI (by omega) (by omega)]; omega : ¬ Int32.ofNat 8 < Int32.ofNat N)).2.1 (by decide) (by decide) kZ) ?_
          show own_R p.tables e below _ (T6.setTop (mkF m 22 #[.val (.ref a1), .val (.int (Int32.ofNat N)), .val (.double (FP.i2d xi)), .second, .val (.int (Int32.ofNat 8))] []))
          exact rest 8 (by unfold own_leaves; split <;> (try split) <;> (try split) <;> omega)
        · skip
          refine own_by (fun _ kZ => XS.icmpYes X6.here hx rfl (pc0 := 10) (pc' := 22) rfl (hb hby d1_10) rfl (flt hc4).2.1 (by decide) (by decide) kZ) ?_
          show own_R p.tables e below _ (T6.setTop (mkF m 22 #[.val (.ref a1), .val (.int (Int32.ofNat N)), .val (.double (FP.i2d xi)), .second, .val (.int (Int32.ofNat 4))] []))
          have hq4 : ¬ 4 < N := fun q => hc4 ((own_ltI (by omega) (by omega)).mpr q)
          exact rest 4 (by unfold own_leaves; split <;> (try split) <;> (try split) <;> omega)
      · skip
        refine own_by (fun _ kZ => XS.icmpYes X6.here hx rfl (pc0 := 10) (pc' := 22) rfl (hb hby d1_10) rfl (flt hc2).2.1 (by decide) (by decide) kZ) ?_
        show own_R p.tables e below _ (T6.setTop (mkF m 22 #[.val (.ref a1), .val (.int (Int32.ofNat N)), .val (.double (FP.i2d xi)), .second, .val (.int (Int32.ofNat 2))] []))
        have hq2 : ¬ 2 < N := fun q => hc2 ((own_ltI (by omega) (by omega)).mpr q)
        exact rest 2 (by unfold own_leaves; split <;> (try split) <;> (try split) <;> omega)
    · skip
      refine own_by (fun _ kZ => XS.icmpYes X6.here hx rfl (pc0 := 10) (pc' := 22) rfl (hb hby d1_10) rfl (flt hc1).2.1 (by decide) (by decide) kZ) ?_
      show own_R p.tables e below _ (T6.setTop (mkF m 22 #[.val (.ref a1), .val (.int (Int32.ofNat N)), .val (.double (FP.i2d xi)), .second, .val (.int (Int32.ofNat 1))] []))
      have hq1 : ¬ 1 < N := fun q => hc1 ((own_ltI (by omega) (by omega)).mpr q)
      exact rest 1 (by unfold own_leaves; split <;> (try split) <;> (try split) <;> omega)
  intro x hx'
  subst hx'
  show own_R p.tables e below _ (T6.setTop (mkF m 22 #[.val (.ref a1), .val (.int (Int32.ofNat N)), .val (.double (FP.i2d xi)), .second, .val (.int (Int32.ofNat (own_leaves N)))] []))
  have hlf := own_lf N
  refine own_by (fun _ kZ => XS.aloadN X6.here hx rfl (hb hby d1_22) rfl rfl kZ) ?_
  show own_R p.tables e below _ (T6.setTop (mkF m 23 #[.val (.ref a1), .val (.int (Int32.ofNat N)), .val (.double (FP.i2d xi)), .second, .val (.int (Int32.ofNat (own_leaves N)))] [(.ref a1)]))
  refine own_by (fun _ kZ => XS.iload X6.here hx rfl (hb hby d1_23) rfl kZ) ?_
  show own_R p.tables e below _ (T6.setTop (mkF m 25 #[.val (.ref a1), .val (.int (Int32.ofNat N)), .val (.double (FP.i2d xi)), .second, .val (.int (Int32.ofNat (own_leaves N)))] [(.int (Int32.ofNat (own_leaves N))), (.ref a1)]))
  obtain ⟨T7, h7, X7, e7, W7, st7⟩ := putF X6 hx hZ hown (host := "") (Or.inl (hw _ (List.mem_of_getElem? (i := 10) rfl))) Via.refl e6 F_leaves Ex (Or.inl (hw _ (List.mem_of_getElem? (i := 11) rfl))) (hw _ (List.mem_of_getElem? (i := 2) rfl)) (ty := .int) (by decide) rfl rfl (g := (mkF m 25 #[.val (.ref a1), .val (.int (Int32.ofNat N)), .val (.double (FP.i2d xi)), .second, .val (.int (Int32.ofNat (own_leaves N)))] [(.int (Int32.ofNat (own_leaves N))), (.ref a1)])) rfl rfl (hb hby d1_25)
  have f8_a1 : Exa Z h7 a1 "com/example/frugal_scheduler/frugalscheduler/planners/MinTree" := Ex.wr W7
  have f9_a1 : Fld Z h7 a1 "com/example/frugal_scheduler/frugalscheduler/planners/MinTree" "leaves" "I" (.int (Int32.ofNat (own_leaves N))) := F_leaves.same W7
  have f10_a1 : Fld Z h7 a1 "com/example/frugal_scheduler/frugalscheduler/planners/MinTree" "mins" "[D" .null := F_mins.other W7 (Or.inr (slot_ne (Or.inl (hw _ (List.mem_of_getElem? (i := 14) rfl))) (Or.inl (hw _ (List.mem_of_getElem? (i := 11) rfl))) (by decide) (t := (.array .double)) (t' := .int) (by decide) (by decide)))
  have f11_a1 : Fld Z h7 a1 "com/example/frugal_scheduler/frugalscheduler/planners/MinTree" "size" "I" (.int (0 : Int32)) := F_size.other W7 (Or.inr (slot_ne (Or.inl (hw _ (List.mem_of_getElem? (i := 20) rfl))) (Or.inl (hw _ (List.mem_of_getElem? (i := 11) rfl))) (by decide) (t := .int) (t' := .int) (by decide) (by decide)))
  have Z12 : n0 ≤ h7.size := Nat.le_trans Z0 (Keep.of_wr W7).1
  have K12 : Keep h0 h7 [a1] := (Keep.refl h0 [a1]).wr W7 (Or.inl (List.mem_of_getElem? (i := 0) rfl))
  have N12 := Fr.snoc X7 N0 ge1
  refine own_by st7 ?_
  show own_R p.tables e below _ (T7.setTop (mkF m 28 #[.val (.ref a1), .val (.int (Int32.ofNat N)), .val (.double (FP.i2d xi)), .second, .val (.int (Int32.ofNat (own_leaves N)))] []))
  refine own_by (fun _ kZ => XS.aloadN X7.here hx rfl (hb hby d1_28) rfl rfl kZ) ?_
  show own_R p.tables e below _ (T7.setTop (mkF m 29 #[.val (.ref a1), .val (.int (Int32.ofNat N)), .val (.double (FP.i2d xi)), .second, .val (.int (Int32.ofNat (own_leaves N)))] [(.ref a1)]))
  refine own_by (fun _ kZ => XS.iconst X7.here hx rfl (hb hby d1_29) kZ) ?_
  show own_R p.tables e below _ (T7.setTop (mkF m 30 #[.val (.ref a1), .val (.int (Int32.ofNat N)), .val (.double (FP.i2d xi)), .second, .val (.int (Int32.ofNat (own_leaves N)))] [(.int (2 : Int32)), (.ref a1)]))
  refine own_by (fun _ kZ => XS.aloadN X7.here hx rfl (hb hby d1_30) rfl rfl kZ) ?_
  show own_R p.tables e below _ (T7.setTop (mkF m 31 #[.val (.ref a1), .val (.int (Int32.ofNat N)), .val (.double (FP.i2d xi)), .second, .val (.int (Int32.ofNat (own_leaves N)))] [(.ref a1), (.int (2 : Int32)), (.ref a1)]))
  obtain ⟨T13, X13, e13, st13⟩ := getF X7 hx hZ hown (host := "") (Or.inl (hw _ (List.mem_of_getElem? (i := 10) rfl))) Via.refl e7 f9_a1 (g := (mkF m 31 #[.val (.ref a1), .val (.int (Int32.ofNat N)), .val (.double (FP.i2d xi)), .second, .val (.int (Int32.ofNat (own_leaves N)))] [(.ref a1), (.int (2 : Int32)), (.ref a1)])) rfl rfl (hb hby d1_31)
  refine own_by st13 ?_
  show own_R p.tables e below _ (T13.setTop (mkF m 34 #[.val (.ref a1), .val (.int (Int32.ofNat N)), .val (.double (FP.i2d xi)), .second, .val (.int (Int32.ofNat (own_leaves N)))] [(.int (Int32.ofNat (own_leaves N))), (.int (2 : Int32)), (.ref a1)]))
  refine own_by (fun _ kZ => XS.imul X13.here hx rfl (hb hby d1_34) rfl kZ) ?_
  show own_R p.tables e below _ (T13.setTop (mkF m 35 #[.val (.ref a1), .val (.int (Int32.ofNat N)), .val (.double (FP.i2d xi)), .second, .val (.int (Int32.ofNat (own_leaves N)))] [(.int ((2 : Int32) * (Int32.ofNat (own_leaves N)))), (.ref a1)]))
  rw [show ((2 : Int32) * (Int32.ofNat (own_leaves N))) = (Int32.ofNat (2 * (own_leaves N))) from own_mul2 _]
  show own_R p.tables e below _ (T13.setTop (mkF m 35 #[.val (.ref a1), .val (.int (Int32.ofNat N)), .val (.double (FP.i2d xi)), .second, .val (.int (Int32.ofNat (own_leaves N)))] [(.int (Int32.ofNat (2 * (own_leaves N)))), (.ref a1)]))
  obtain ⟨T14, h14, k14, X14, e14, E14, A14, st14⟩ := newP X13 hx hZ (hw _ (List.mem_of_getElem? (i := 12) rfl)) e13 (g := (mkF m 35 #[.val (.ref a1), .val (.int (Int32.ofNat N)), .val (.double (FP.i2d xi)), .second, .val (.int (Int32.ofNat (own_leaves N)))] [(.int (Int32.ofNat (2 * (own_leaves N)))), (.ref a1)])) rfl (hb hby d1_35) rfl (own_nn (by omega)) (cap := 16) (by rw [own_clamp (by omega)]; omega) (by decide) (by decide) (by decide)
  obtain ⟨b, g14⟩ : ∃ z, z = h7.size := ⟨_, rfl⟩
  have ne_a1_b : a1 ≠ b := Nat.ne_of_lt (Nat.lt_of_lt_of_le f8_a1.lt (Nat.le_of_eq g14.symm))
  have ge_b : n0 ≤ b := Nat.le_trans Z12 (Nat.le_of_eq g14.symm)
  have sz_b : h0.size ≤ b := Nat.le_trans K12.1 (Nat.le_of_eq g14.symm)
  rw [← g14] at A14 st14
  have f15_a1 : Exa Z h14 a1 "com/example/frugal_scheduler/frugalscheduler/planners/MinTree" := f8_a1.ext E14
  have f16_a1 : Fld Z h14 a1 "com/example/frugal_scheduler/frugalscheduler/planners/MinTree" "leaves" "I" (.int (Int32.ofNat (own_leaves N))) := f9_a1.ext E14
  have f17_a1 : Fld Z h14 a1 "com/example/frugal_scheduler/frugalscheduler/planners/MinTree" "mins" "[D" .null := f10_a1.ext E14
  have f18_a1 : Fld Z h14 a1 "com/example/frugal_scheduler/frugalscheduler/planners/MinTree" "size" "I" (.int (0 : Int32)) := f11_a1.ext E14
  have Z19 : n0 ≤ h14.size := Nat.le_trans Z12 E14.1
  have K19 : Keep h0 h14 [a1] := K12.ext E14
  have V14 : own_K .double Z h14 b .double (2 * own_leaves N) (fun _ => (0 : UInt64)) := own_K.new A14 (own_nn (by omega)) (own_clamp (by omega)) rfl
  refine own_by st14 ?_
  show own_R p.tables e below _ (T14.setTop (mkF m 37 #[.val (.ref a1), .val (.int (Int32.ofNat N)), .val (.double (FP.i2d xi)), .second, .val (.int (Int32.ofNat (own_leaves N)))] [(.ref b), (.ref a1)]))
  obtain ⟨T20, h20, X20, e20, W20, st20⟩ := putF X14 hx hZ hown (host := "") (Or.inl (hw _ (List.mem_of_getElem? (i := 13) rfl))) Via.refl e14 f17_a1 f15_a1 (Or.inl (hw _ (List.mem_of_getElem? (i := 14) rfl))) (hw _ (List.mem_of_getElem? (i := 2) rfl)) (ty := (.array .double)) (by decide) rfl rfl (g := (mkF m 37 #[.val (.ref a1), .val (.int (Int32.ofNat N)), .val (.double (FP.i2d xi)), .second, .val (.int (Int32.ofNat (own_leaves N)))] [(.ref b), (.ref a1)])) rfl rfl (hb hby d1_37)
  have f21_a1 : Exa Z h20 a1 "com/example/frugal_scheduler/frugalscheduler/planners/MinTree" := f15_a1.wr W20
  have f22_a1 : Fld Z h20 a1 "com/example/frugal_scheduler/frugalscheduler/planners/MinTree" "leaves" "I" (.int (Int32.ofNat (own_leaves N))) := f16_a1.other W20 (Or.inr (slot_ne (Or.inl (hw _ (List.mem_of_getElem? (i := 11) rfl))) (Or.inl (hw _ (List.mem_of_getElem? (i := 14) rfl))) (by decide) (t := .int) (t' := (.array .double)) (by decide) (by decide)))
  have f23_a1 : Fld Z h20 a1 "com/example/frugal_scheduler/frugalscheduler/planners/MinTree" "mins" "[D" (.ref b) := f17_a1.same W20
  have f24_a1 : Fld Z h20 a1 "com/example/frugal_scheduler/frugalscheduler/planners/MinTree" "size" "I" (.int (0 : Int32)) := f18_a1.other W20 (Or.inr (slot_ne (Or.inl (hw _ (List.mem_of_getElem? (i := 20) rfl))) (Or.inl (hw _ (List.mem_of_getElem? (i := 14) rfl))) (by decide) (t := .int) (t' := (.array .double)) (by decide) (by decide)))
  have f25_b : own_K .double Z h20 b .double (2 * own_leaves N) (fun _ => (0 : UInt64)) := V14.other W20 (Ne.symm ne_a1_b)
  have Z26 : n0 ≤ h20.size := Nat.le_trans Z19 (Keep.of_wr W20).1
  have K26 : Keep h0 h20 [a1] := K19.wr W20 (Or.inl (List.mem_of_getElem? (i := 0) rfl))
  have N26 := Fr.snoc X20 N12 ge1
  refine own_by st20 ?_
  show own_R p.tables e below _ (T20.setTop (mkF m 40 #[.val (.ref a1), .val (.int (Int32.ofNat N)), .val (.double (FP.i2d xi)), .second, .val (.int (Int32.ofNat (own_leaves N)))] []))
  refine own_by (fun _ kZ => XS.aloadN X20.here hx rfl (hb hby d1_40) rfl rfl kZ) ?_
  show own_R p.tables e below _ (T20.setTop (mkF m 41 #[.val (.ref a1), .val (.int (Int32.ofNat N)), .val (.double (FP.i2d xi)), .second, .val (.int (Int32.ofNat (own_leaves N)))] [(.ref a1)]))
  obtain ⟨T27, X27, e27, st27⟩ := getF X20 hx hZ hown (host := "") (Or.inl (hw _ (List.mem_of_getElem? (i := 13) rfl))) Via.refl e20 f23_a1 (g := (mkF m 41 #[.val (.ref a1), .val (.int (Int32.ofNat N)), .val (.double (FP.i2d xi)), .second, .val (.int (Int32.ofNat (own_leaves N)))] [(.ref a1)])) rfl rfl (hb hby d1_41)
  refine own_by st27 ?_
  show own_R p.tables e below _ (T27.setTop (mkF m 44 #[.val (.ref a1), .val (.int (Int32.ofNat N)), .val (.double (FP.i2d xi)), .second, .val (.int (Int32.ofNat (own_leaves N)))] [(.ref b)]))
  refine own_by (fun _ kZ => own_dloadN X27.here hx rfl (hb hby d1_44) rfl kZ) ?_
  show own_R p.tables e below _ (T27.setTop (mkF m 45 #[.val (.ref a1), .val (.int (Int32.ofNat N)), .val (.double (FP.i2d xi)), .second, .val (.int (Int32.ofNat (own_leaves N)))] [(.double (FP.i2d xi)), (.ref b)]))
  obtain ⟨_, _, ⟨T28, L28, k28, n28⟩, -, X28, ⟨Lc28, hQ28, l28, y28, z28⟩, st28⟩ := Jvm.LawKit.callS X27 hx (y := (⟨"java/util/Arrays", "fill", "([DD)V"⟩ : MethodName)) hown (mvT hZ (hw _ (List.mem_of_getElem? (i := 15) rfl))) (mvT hZ (hw _ (List.mem_of_getElem? (i := 16) rfl))) (mvT hZ (hw _ (List.mem_of_getElem? (i := 17) rfl))) (mvT hZ (hw _ (List.mem_of_getElem? (i := 18) rfl))) (by decide) (backOf (W := 0) (rm3 l Z a0 hw [] b (FP.i2d xi) (2 * own_leaves N) (fun _ => (0 : UInt64)) h20 n0 Z26 (by omega) ge_b f25_b) hZ (hw _ (List.mem_of_getElem? (i := 18) rfl)) (hw _ (List.mem_of_getElem? (i := 17) rfl)) (by decide) (by decide)) (g := (mkF m 45 #[.val (.ref a1), .val (.int (Int32.ofNat N)), .val (.double (FP.i2d xi)), .second, .val (.int (Int32.ofNat (own_leaves N)))] [(.double (FP.i2d xi)), (.ref b)])) rfl (by rw [hml]; rfl) (argsL := [(.ref b), (.double (FP.i2d xi))]) (rest := []) (lenOf own_pd0 rfl) rfl (by show 2 * 0 + _ ≤ _; exact Nat.le_of_eq rfl) (hb hby d1_45) (fun _ _ => ⟨rfl, e27, (by decide : 1 + 0 ≤ _), (by decide : 16 + 0 ≤ _)⟩)
  dsimp only [Pt.U, Pt.locs, Pt.cells, Pt.slots] at X28 l28 y28 z28 st28 hQ28
  subst l28 y28 z28
  obtain ⟨rfl, Nq28, K28, Vf28⟩ := hQ28
  have N28 := Fr.app N26 Nq28
  have f29_a1 : Exa Z T28.heap a1 "com/example/frugal_scheduler/frugalscheduler/planners/MinTree" := f21_a1.keep K28
  have f30_a1 : Fld Z T28.heap a1 "com/example/frugal_scheduler/frugalscheduler/planners/MinTree" "leaves" "I" (.int (Int32.ofNat (own_leaves N))) := f22_a1.keep K28 (ninS ne_a1_b nin0)
  have f31_a1 : Fld Z T28.heap a1 "com/example/frugal_scheduler/frugalscheduler/planners/MinTree" "mins" "[D" (.ref b) := f23_a1.keep K28 (ninS ne_a1_b nin0)
  have f32_a1 : Fld Z T28.heap a1 "com/example/frugal_scheduler/frugalscheduler/planners/MinTree" "size" "I" (.int (0 : Int32)) := f24_a1.keep K28 (ninS ne_a1_b nin0)
  have Z33 : n0 ≤ T28.heap.size := Nat.le_trans Z26 K28.1
  have K33 : Keep h0 T28.heap [a1] := K26.trans K28 (allS (Or.inr sz_b) all0)
  refine own_by st28 ?_
  show own_R p.tables e below _ (T28.setTop (mkF m 48 #[.val (.ref a1), .val (.int (Int32.ofNat N)), .val (.double (FP.i2d xi)), .second, .val (.int (Int32.ofNat (own_leaves N)))] []))
  refine own_by (fun _ kZ => XS.aloadN X28.here hx rfl (hb hby d1_48) rfl rfl kZ) ?_
  show own_R p.tables e below _ (T28.setTop (mkF m 49 #[.val (.ref a1), .val (.int (Int32.ofNat N)), .val (.double (FP.i2d xi)), .second, .val (.int (Int32.ofNat (own_leaves N)))] [(.ref a1)]))
  refine own_by (fun _ kZ => XS.iloadN X28.here hx rfl (hb hby d1_49) rfl kZ) ?_
  show own_R p.tables e below _ (T28.setTop (mkF m 50 #[.val (.ref a1), .val (.int (Int32.ofNat N)), .val (.double (FP.i2d xi)), .second, .val (.int (Int32.ofNat (own_leaves N)))] [(.int (Int32.ofNat N)), (.ref a1)]))
  obtain ⟨T34, h34, X34, e34, W34, st34⟩ := putF X28 hx hZ hown (host := "") (Or.inl (hw _ (List.mem_of_getElem? (i := 19) rfl))) Via.refl rfl f32_a1 f29_a1 (Or.inl (hw _ (List.mem_of_getElem? (i := 20) rfl))) (hw _ (List.mem_of_getElem? (i := 2) rfl)) (ty := .int) (by decide) rfl rfl (g := (mkF m 50 #[.val (.ref a1), .val (.int (Int32.ofNat N)), .val (.double (FP.i2d xi)), .second, .val (.int (Int32.ofNat (own_leaves N)))] [(.int (Int32.ofNat N)), (.ref a1)])) rfl rfl (hb hby d1_50)
  have f35_a1 : Exa Z h34 a1 "com/example/frugal_scheduler/frugalscheduler/planners/MinTree" := f29_a1.wr W34
  have f36_a1 : Fld Z h34 a1 "com/example/frugal_scheduler/frugalscheduler/planners/MinTree" "leaves" "I" (.int (Int32.ofNat (own_leaves N))) := f30_a1.other W34 (Or.inr (slot_ne (Or.inl (hw _ (List.mem_of_getElem? (i := 11) rfl))) (Or.inl (hw _ (List.mem_of_getElem? (i := 20) rfl))) (by decide) (t := .int) (t' := .int) (by decide) (by decide)))
  have f37_a1 : Fld Z h34 a1 "com/example/frugal_scheduler/frugalscheduler/planners/MinTree" "mins" "[D" (.ref b) := f31_a1.other W34 (Or.inr (slot_ne (Or.inl (hw _ (List.mem_of_getElem? (i := 14) rfl))) (Or.inl (hw _ (List.mem_of_getElem? (i := 20) rfl))) (by decide) (t := (.array .double)) (t' := .int) (by decide) (by decide)))
  have f38_a1 : Fld Z h34 a1 "com/example/frugal_scheduler/frugalscheduler/planners/MinTree" "size" "I" (.int (Int32.ofNat N)) := f32_a1.same W34
  have f39_b : own_K own_mkd Z h34 b .double (2 * own_leaves N) (fun _ => xi) := Vf28.other W34 (Ne.symm ne_a1_b)
  have Z40 : n0 ≤ h34.size := Nat.le_trans Z33 (Keep.of_wr W34).1
  have K40 : Keep h0 h34 [a1] := K33.wr W34 (Or.inl (List.mem_of_getElem? (i := 0) rfl))
  have N40 := Fr.snoc X34 N28 ge1
  refine own_by st34 ?_
  show own_R p.tables e below _ (T34.setTop (mkF m 53 #[.val (.ref a1), .val (.int (Int32.ofNat N)), .val (.double (FP.i2d xi)), .second, .val (.int (Int32.ofNat (own_leaves N)))] []))
  obtain ⟨fs, hr, hrun, hended, hW, hsame⟩ := X34.leave (v := none) (fun _ => rfl)
  refine own_end ⟨_, _, ?_, hrun, hended, _, _, rfl, ?_, ⟨_, rfl⟩, hW, hsame.mono (by decide) (by decide)⟩
  · exact X34.returnOut hx Bd.returns (hb hby d1_53) hr
  · show Q1 Z a1 (Int32.ofNat N) (FP.i2d xi) N xi h0 n0 _ T34.heap _
    rw [e34]
    exact ⟨rfl, N40, K40, b, f35_a1, f36_a1, f37_a1, f39_b, ne_a1_b, ge1, ge_b⟩
set_option maxRecDepth 65536 in
set_option maxHeartbeats 40000000 in
theorem lpS {p : Program} {l : Launch} {e : Env} {s : State} {m : MethodId} {args : Array Value} {below : List Frame} {meth : Method} {cd : Code} {A : State → Outcome → Prop} {Z : State} {a0 : Array Value} {h0 : Heap} {n0 : Nat} (hx : p.tables.exec = Jvm.exec) (hZ : Z.Warmed39 s.vm) (hw : ∀ d ∈ tables_1, d.before a0 Z = true) (hby : cd.code = prog_58_method_2_code) (hml : cd.maxLocals = 5) (hown : s.vm.findClass "com/example/frugal_scheduler/frugalscheduler/planners/MinTree" = some m.cls) (a1 b : Addr) (p2 : Int32) (x3 : UInt64) (N : Nat) (n1 : a1 ≠ b) (g1 : n0 ≤ a1) (g2 : n0 ≤ b) :
    ∀ (k nd : Nat) (gm : Nat → Int32) (hk : nd < 2 ^ k) (hnd : nd < own_leaves N) {T : State} {locs : List Loc} {h : Heap} (X0 : Stand p l e ({ frames := 1, cells := 0, slots := 0, locals := 18 } : Room) s m args below meth cd T locs 0 0) (e0 : T.heap = h) (N0 : Fr n0 locs) (Z0 : n0 ≤ h.size) (K0 : Keep h0 h [b]) (Ex : Exa Z h a1 "com/example/frugal_scheduler/frugalscheduler/planners/MinTree") (Fl : Fld Z h a1 "com/example/frugal_scheduler/frugalscheduler/planners/MinTree" "leaves" "I" (.int (Int32.ofNat (own_leaves N)))) (Fm : Fld Z h a1 "com/example/frugal_scheduler/frugalscheduler/planners/MinTree" "mins" "[D" (.ref b)) (Vb : own_K own_mkd Z h b .double (2 * own_leaves N) gm)
      (cont : ∀ {T' : State} {locs' : List Loc} {h' : Heap} (_ : Stand p l e ({ frames := 1, cells := 0, slots := 0, locals := 18 } : Room) s m args below meth cd T' locs' 0 0) (_ : T'.heap = h') (_ : Fr n0 locs') (_ : n0 ≤ h'.size) (_ : Keep h0 h' [b]) (_ : Exa Z h' a1 "com/example/frugal_scheduler/frugalscheduler/planners/MinTree") (_ : Fld Z h' a1 "com/example/frugal_scheduler/frugalscheduler/planners/MinTree" "leaves" "I" (.int (Int32.ofNat (own_leaves N)))) (_ : Fld Z h' a1 "com/example/frugal_scheduler/frugalscheduler/planners/MinTree" "mins" "[D" (.ref b)) (_ : own_K own_mkd Z h' b .double (2 * own_leaves N) (own_fixg own_min k gm nd)), own_R p.tables e below A (T'.setTop (mkF m 67 #[.val (.ref a1), .val (.int p2), .val (.double x3), .second, .val (.int (Int32.ofNat 0))] []))), own_R p.tables e below A (T.setTop (mkF m 22 #[.val (.ref a1), .val (.int p2), .val (.double x3), .second, .val (.int (Int32.ofNat nd))] [])) := by
  have hlf := own_lf N
  intro k
  induction k with
  | zero =>
    intro nd gm hk hnd T locs h X0 e0 N0 Z0 K0 Ex Fl Fm Vb cont
    obtain rfl : nd = 0 := by omega
    show own_R p.tables e below _ (T.setTop (mkF m 22 #[.val (.ref a1), .val (.int p2), .val (.double x3), .second, .val (.int (Int32.ofNat 0))] []))
    refine own_by (fun _ kZ => XS.iload X0.here hx rfl (hb hby d4_22) rfl kZ) ?_
    show own_R p.tables e below _ (T.setTop (mkF m 24 #[.val (.ref a1), .val (.int p2), .val (.double x3), .second, .val (.int (Int32.ofNat 0))] [(.int (Int32.ofNat 0))]))
    refine own_by (fun _ kZ => XS.iconst X0.here hx rfl (hb hby d4_24) kZ) ?_
    show own_R p.tables e below _ (T.setTop (mkF m 25 #[.val (.ref a1), .val (.int p2), .val (.double x3), .second, .val (.int (Int32.ofNat 0))] [(.int (1 : Int32)), (.int (Int32.ofNat 0))]))
    refine own_by (fun _ kZ => XS.icmpYes X0.here hx rfl (pc0 := 25) (pc' := 67) rfl (hb hby d4_25) rfl (tlt (by decide : Int32.ofNat 0 < (1 : Int32))).1 (by decide) (by decide) kZ) ?_
    show own_R p.tables e below _ (T.setTop (mkF m 67 #[.val (.ref a1), .val (.int p2), .val (.double x3), .second, .val (.int (Int32.ofNat 0))] []))
    exact cont X0 e0 N0 Z0 K0 Ex Fl Fm Vb
  | succ k ih =>
    intro nd gm hk hnd T locs h X0 e0 N0 Z0 K0 Ex Fl Fm Vb cont
    by_cases hz : nd < 1
    · obtain rfl : nd = 0 := by omega
      show own_R p.tables e below _ (T.setTop (mkF m 22 #[.val (.ref a1), .val (.int p2), .val (.double x3), .second, .val (.int (Int32.ofNat 0))] []))
      refine own_by (fun _ kZ => XS.iload X0.here hx rfl (hb hby d4_22) rfl kZ) ?_
      show own_R p.tables e below _ (T.setTop (mkF m 24 #[.val (.ref a1), .val (.int p2), .val (.double x3), .second, .val (.int (Int32.ofNat 0))] [(.int (Int32.ofNat 0))]))
      refine own_by (fun _ kZ => XS.iconst X0.here hx rfl (hb hby d4_24) kZ) ?_
      show own_R p.tables e below _ (T.setTop (mkF m 25 #[.val (.ref a1), .val (.int p2), .val (.double x3), .second, .val (.int (Int32.ofNat 0))] [(.int (1 : Int32)), (.int (Int32.ofNat 0))]))
      refine own_by (fun _ kZ => XS.icmpYes X0.here hx rfl (pc0 := 25) (pc' := 67) rfl (hb hby d4_25) rfl (tlt (by decide : Int32.ofNat 0 < (1 : Int32))).1 (by decide) (by decide) kZ) ?_
      show own_R p.tables e below _ (T.setTop (mkF m 67 #[.val (.ref a1), .val (.int p2), .val (.double x3), .second, .val (.int (Int32.ofNat 0))] []))
      exact cont X0 e0 N0 Z0 K0 Ex Fl Fm Vb
    · have hp : 2 ^ (k + 1) = 2 * 2 ^ k := by rw [Nat.pow_succ]; omega
      show own_R p.tables e below _ (T.setTop (mkF m 22 #[.val (.ref a1), .val (.int p2), .val (.double x3), .second, .val (.int (Int32.ofNat nd))] []))
      refine own_by (fun _ kZ => XS.iload X0.here hx rfl (hb hby d4_22) rfl kZ) ?_
      show own_R p.tables e below _ (T.setTop (mkF m 24 #[.val (.ref a1), .val (.int p2), .val (.double x3), .second, .val (.int (Int32.ofNat nd))] [(.int (Int32.ofNat nd))]))
      refine own_by (fun _ kZ => XS.iconst X0.here hx rfl (hb hby d4_24) kZ) ?_
      show own_R p.tables e below _ (T.setTop (mkF m 25 #[.val (.ref a1), .val (.int p2), .val (.double x3), .second, .val (.int (Int32.ofNat nd))] [(.int (1 : Int32)), (.int (Int32.ofNat nd))]))
      refine own_by (fun _ kZ => XS.icmpNo X0.here hx rfl (hb hby d4_25) rfl (flt (by show ¬ Int32.ofNat nd < Int32.ofNat 1; rw [own_ltI (by omega) (by omega)]; exact hz : ¬ Int32.ofNat nd < (1 : Int32))).1 kZ) ?_
      show own_R p.tables e below _ (T.setTop (mkF m 28 #[.val (.ref a1), .val (.int p2), .val (.double x3), .second, .val (.int (Int32.ofNat nd))] []))
      refine own_by (fun _ kZ => XS.aloadN X0.here hx rfl (hb hby d4_28) rfl rfl kZ) ?_
      show own_R p.tables e below _ (T.setTop (mkF m 29 #[.val (.ref a1), .val (.int p2), .val (.double x3), .second, .val (.int (Int32.ofNat nd))] [(.ref a1)]))
      obtain ⟨T41, X41, e41, st41⟩ := getF X0 hx hZ hown (host := "") (Or.inl (hw _ (List.mem_of_getElem? (i := 13) rfl))) Via.refl e0 Fm (g := (mkF m 29 #[.val (.ref a1), .val (.int p2), .val (.double x3), .second, .val (.int (Int32.ofNat nd))] [(.ref a1)])) rfl rfl (hb hby d4_29)
      refine own_by st41 ?_
      show own_R p.tables e below _ (T41.setTop (mkF m 32 #[.val (.ref a1), .val (.int p2), .val (.double x3), .second, .val (.int (Int32.ofNat nd))] [(.ref b)]))
      refine own_by (fun _ kZ => XS.iload X41.here hx rfl (hb hby d4_32) rfl kZ) ?_
      show own_R p.tables e below _ (T41.setTop (mkF m 34 #[.val (.ref a1), .val (.int p2), .val (.double x3), .second, .val (.int (Int32.ofNat nd))] [(.int (Int32.ofNat nd)), (.ref b)]))
      refine own_by (fun _ kZ => XS.aloadN X41.here hx rfl (hb hby d4_34) rfl rfl kZ) ?_
      show own_R p.tables e below _ (T41.setTop (mkF m 35 #[.val (.ref a1), .val (.int p2), .val (.double x3), .second, .val (.int (Int32.ofNat nd))] [(.ref a1), (.int (Int32.ofNat nd)), (.ref b)]))
      obtain ⟨T42, X42, e42, st42⟩ := getF X41 hx hZ hown (host := "") (Or.inl (hw _ (List.mem_of_getElem? (i := 13) rfl))) Via.refl e41 Fm (g := (mkF m 35 #[.val (.ref a1), .val (.int p2), .val (.double x3), .second, .val (.int (Int32.ofNat nd))] [(.ref a1), (.int (Int32.ofNat nd)), (.ref b)])) rfl rfl (hb hby d4_35)
      refine own_by st42 ?_
      show own_R p.tables e below _ (T42.setTop (mkF m 38 #[.val (.ref a1), .val (.int p2), .val (.double x3), .second, .val (.int (Int32.ofNat nd))] [(.ref b), (.int (Int32.ofNat nd)), (.ref b)]))
      refine own_by (fun _ kZ => XS.iconst X42.here hx rfl (hb hby d4_38) kZ) ?_
      show own_R p.tables e below _ (T42.setTop (mkF m 39 #[.val (.ref a1), .val (.int p2), .val (.double x3), .second, .val (.int (Int32.ofNat nd))] [(.int (2 : Int32)), (.ref b), (.int (Int32.ofNat nd)), (.ref b)]))
      refine own_by (fun _ kZ => XS.iload X42.here hx rfl (hb hby d4_39) rfl kZ) ?_
      show own_R p.tables e below _ (T42.setTop (mkF m 41 #[.val (.ref a1), .val (.int p2), .val (.double x3), .second, .val (.int (Int32.ofNat nd))] [(.int (Int32.ofNat nd)), (.int (2 : Int32)), (.ref b), (.int (Int32.ofNat nd)), (.ref b)]))
      refine own_by (fun _ kZ => XS.imul X42.here hx rfl (hb hby d4_41) rfl kZ) ?_
      show own_R p.tables e below _ (T42.setTop (mkF m 42 #[.val (.ref a1), .val (.int p2), .val (.double x3), .second, .val (.int (Int32.ofNat nd))] [(.int ((2 : Int32) * (Int32.ofNat nd))), (.ref b), (.int (Int32.ofNat nd)), (.ref b)]))
      rw [show ((2 : Int32) * (Int32.ofNat nd)) = (Int32.ofNat (2 * nd)) from own_mul2 nd]
      show own_R p.tables e below _ (T42.setTop (mkF m 42 #[.val (.ref a1), .val (.int p2), .val (.double x3), .second, .val (.int (Int32.ofNat nd))] [(.int (Int32.ofNat (2 * nd))), (.ref b), (.int (Int32.ofNat nd)), (.ref b)]))
      obtain ⟨cl43, Ar43, hin43, hat43⟩ := Vb.rd (i := (Int32.ofNat (2 * nd))) (p := (2 * nd)) (own_clamp (by omega)) (own_nn (by omega)) (by omega)
      refine own_by (fun _ kZ => own_daload X42 hx (j := (Int32.ofNat (2 * nd))) (v := (own_mkd (gm (2 * nd)))) (by rw [e42]; exact Ar43.1) (State.isArrayOf_alike hZ.alike Ar43.2.1) Ar43.2.2 hin43 hat43 (g := (mkF m 42 #[.val (.ref a1), .val (.int p2), .val (.double x3), .second, .val (.int (Int32.ofNat nd))] [(.int (Int32.ofNat (2 * nd))), (.ref b), (.int (Int32.ofNat nd)), (.ref b)])) rfl rfl (hb hby d4_42) _ kZ) ?_
      show own_R p.tables e below _ (T42.setTop (mkF m 43 #[.val (.ref a1), .val (.int p2), .val (.double x3), .second, .val (.int (Int32.ofNat nd))] [(.double (FP.i2d (gm (2 * nd)))), (.int (Int32.ofNat nd)), (.ref b)]))
      refine own_by (fun _ kZ => XS.aloadN X42.here hx rfl (hb hby d4_43) rfl rfl kZ) ?_
      show own_R p.tables e below _ (T42.setTop (mkF m 44 #[.val (.ref a1), .val (.int p2), .val (.double x3), .second, .val (.int (Int32.ofNat nd))] [(.ref a1), (.double (FP.i2d (gm (2 * nd)))), (.int (Int32.ofNat nd)), (.ref b)]))
      obtain ⟨T44, X44, e44, st44⟩ := getF X42 hx hZ hown (host := "") (Or.inl (hw _ (List.mem_of_getElem? (i := 13) rfl))) Via.refl e42 Fm (g := (mkF m 44 #[.val (.ref a1), .val (.int p2), .val (.double x3), .second, .val (.int (Int32.ofNat nd))] [(.ref a1), (.double (FP.i2d (gm (2 * nd)))), (.int (Int32.ofNat nd)), (.ref b)])) rfl rfl (hb hby d4_44)
      refine own_by st44 ?_
      show own_R p.tables e below _ (T44.setTop (mkF m 47 #[.val (.ref a1), .val (.int p2), .val (.double x3), .second, .val (.int (Int32.ofNat nd))] [(.ref b), (.double (FP.i2d (gm (2 * nd)))), (.int (Int32.ofNat nd)), (.ref b)]))
      refine own_by (fun _ kZ => XS.iconst X44.here hx rfl (hb hby d4_47) kZ) ?_
      show own_R p.tables e below _ (T44.setTop (mkF m 48 #[.val (.ref a1), .val (.int p2), .val (.double x3), .second, .val (.int (Int32.ofNat nd))] [(.int (2 : Int32)), (.ref b), (.double (FP.i2d (gm (2 * nd)))), (.int (Int32.ofNat nd)), (.ref b)]))
      refine own_by (fun _ kZ => XS.iload X44.here hx rfl (hb hby d4_48) rfl kZ) ?_
      show own_R p.tables e below _ (T44.setTop (mkF m 50 #[.val (.ref a1), .val (.int p2), .val (.double x3), .second, .val (.int (Int32.ofNat nd))] [(.int (Int32.ofNat nd)), (.int (2 : Int32)), (.ref b), (.double (FP.i2d (gm (2 * nd)))), (.int (Int32.ofNat nd)), (.ref b)]))
      refine own_by (fun _ kZ => XS.imul X44.here hx rfl (hb hby d4_50) rfl kZ) ?_
      show own_R p.tables e below _ (T44.setTop (mkF m 51 #[.val (.ref a1), .val (.int p2), .val (.double x3), .second, .val (.int (Int32.ofNat nd))] [(.int ((2 : Int32) * (Int32.ofNat nd))), (.ref b), (.double (FP.i2d (gm (2 * nd)))), (.int (Int32.ofNat nd)), (.ref b)]))
      refine own_by (fun _ kZ => XS.iconst X44.here hx rfl (hb hby d4_51) kZ) ?_
      show own_R p.tables e below _ (T44.setTop (mkF m 52 #[.val (.ref a1), .val (.int p2), .val (.double x3), .second, .val (.int (Int32.ofNat nd))] [(.int (1 : Int32)), (.int ((2 : Int32) * (Int32.ofNat nd))), (.ref b), (.double (FP.i2d (gm (2 * nd)))), (.int (Int32.ofNat nd)), (.ref b)]))
      refine own_by (fun _ kZ => XS.iadd X44.here hx rfl (hb hby d4_52) rfl kZ) ?_
      show own_R p.tables e below _ (T44.setTop (mkF m 53 #[.val (.ref a1), .val (.int p2), .val (.double x3), .second, .val (.int (Int32.ofNat nd))] [(.int (((2 : Int32) * (Int32.ofNat nd)) + (1 : Int32))), (.ref b), (.double (FP.i2d (gm (2 * nd)))), (.int (Int32.ofNat nd)), (.ref b)]))
      rw [show (((2 : Int32) * (Int32.ofNat nd)) + (1 : Int32)) = (Int32.ofNat (2 * nd + 1)) from by rw [own_mul2, own_add1]]
      show own_R p.tables e below _ (T44.setTop (mkF m 53 #[.val (.ref a1), .val (.int p2), .val (.double x3), .second, .val (.int (Int32.ofNat nd))] [(.int (Int32.ofNat (2 * nd + 1))), (.ref b), (.double (FP.i2d (gm (2 * nd)))), (.int (Int32.ofNat nd)), (.ref b)]))
      obtain ⟨cl45, Ar45, hin45, hat45⟩ := Vb.rd (i := (Int32.ofNat (2 * nd + 1))) (p := (2 * nd + 1)) (own_clamp (by omega)) (own_nn (by omega)) (by omega)
      refine own_by (fun _ kZ => own_daload X44 hx (j := (Int32.ofNat (2 * nd + 1))) (v := (own_mkd (gm (2 * nd + 1)))) (by rw [e44]; exact Ar45.1) (State.isArrayOf_alike hZ.alike Ar45.2.1) Ar45.2.2 hin45 hat45 (g := (mkF m 53 #[.val (.ref a1), .val (.int p2), .val (.double x3), .second, .val (.int (Int32.ofNat nd))] [(.int (Int32.ofNat (2 * nd + 1))), (.ref b), (.double (FP.i2d (gm (2 * nd)))), (.int (Int32.ofNat nd)), (.ref b)])) rfl rfl (hb hby d4_53) _ kZ) ?_
      show own_R p.tables e below _ (T44.setTop (mkF m 54 #[.val (.ref a1), .val (.int p2), .val (.double x3), .second, .val (.int (Int32.ofNat nd))] [(.double (FP.i2d (gm (2 * nd + 1)))), (.double (FP.i2d (gm (2 * nd)))), (.int (Int32.ofNat nd)), (.ref b)]))
      obtain ⟨_, vm46, ⟨T46, L46, k46, n46⟩, -, X46, ⟨rfl, hB46⟩, st46⟩ := Jvm.LawKit.callS X44 hx (y := (⟨"java/lang/Math", "min", "(DD)D"⟩ : MethodName)) hown (mvT hZ (hw _ (List.mem_of_getElem? (i := 35) rfl))) (mvT hZ (hw _ (List.mem_of_getElem? (i := 36) rfl))) (mvT hZ (hw _ (List.mem_of_getElem? (i := 37) rfl))) (mvT hZ (hw _ (List.mem_of_getElem? (i := 38) rfl))) (by decide) (Jvm.Free.Fl.Abs.minD_pays (W := 2) (FP.i2d (gm (2 * nd))) (FP.i2d (gm (2 * nd + 1))) (mvT hZ (hw _ (List.mem_of_getElem? (i := 38) rfl))) (by decide) (by decide)) (g := (mkF m 54 #[.val (.ref a1), .val (.int p2), .val (.double x3), .second, .val (.int (Int32.ofNat nd))] [(.double (FP.i2d (gm (2 * nd + 1)))), (.double (FP.i2d (gm (2 * nd)))), (.int (Int32.ofNat nd)), (.ref b)])) rfl (by rw [hml]; rfl) (argsL := [(.double (FP.i2d (gm (2 * nd)))), (.double (FP.i2d (gm (2 * nd + 1))))]) (rest := [(.int (Int32.ofNat nd)), (.ref b)]) (lenOf own_pd1 rfl) rfl (by show 2 * 0 + _ ≤ _; exact Nat.le_of_eq rfl) (hb hby d4_54) (fun _ _ => ⟨Nat.zero_le _, Nat.zero_le _, rfl, own_nonan _, own_nonan _⟩)
      cases hB46
      dsimp only [Pt.U, Pt.locs, Pt.cells, Pt.slots] at X46 st46
      have e46 : (T44.setVm vm46).heap = h := e44
      refine own_by st46 ?_
      show own_R p.tables e below _ ((T44.setVm vm46).setTop (mkF m 57 #[.val (.ref a1), .val (.int p2), .val (.double x3), .second, .val (.int (Int32.ofNat nd))] [(.double (Native.java_lang_Math.nans.pick64 false (FP.i2d (gm (2 * nd))) (FP.i2d (gm (2 * nd + 1))))), (.int (Int32.ofNat nd)), (.ref b)]))
      rw [show (Native.java_lang_Math.nans.pick64 false (FP.i2d (gm (2 * nd))) (FP.i2d (gm (2 * nd + 1)))) = (FP.i2d (own_min (gm (2 * nd)) (gm (2 * nd + 1)))) from own_pick _ _]
      show own_R p.tables e below _ ((T44.setVm vm46).setTop (mkF m 57 #[.val (.ref a1), .val (.int p2), .val (.double x3), .second, .val (.int (Int32.ofNat nd))] [(.double (FP.i2d (own_min (gm (2 * nd)) (gm (2 * nd + 1))))), (.int (Int32.ofNat nd)), (.ref b)]))
      obtain ⟨cl47, Ar47, hin47, -⟩ := Vb.rd (i := (Int32.ofNat nd)) (p := nd) (own_clamp (by omega)) (own_nn (by omega)) (by omega)
      obtain ⟨T48, h48, X48, e48, W48, st48⟩ := own_stD X46 hx hZ e46 Ar47 (j := (Int32.ofNat nd)) hin47 (g := (mkF m 57 #[.val (.ref a1), .val (.int p2), .val (.double x3), .second, .val (.int (Int32.ofNat nd))] [(.double (FP.i2d (own_min (gm (2 * nd)) (gm (2 * nd + 1))))), (.int (Int32.ofNat nd)), (.ref b)])) rfl rfl (hb hby d4_57)
      have f49_a1 : Exa Z h48 a1 "com/example/frugal_scheduler/frugalscheduler/planners/MinTree" := Ex.wr W48
      have f50_a1 : Fld Z h48 a1 "com/example/frugal_scheduler/frugalscheduler/planners/MinTree" "leaves" "I" (.int (Int32.ofNat (own_leaves N))) := Fl.other W48 (Or.inl n1)
      have f51_a1 : Fld Z h48 a1 "com/example/frugal_scheduler/frugalscheduler/planners/MinTree" "mins" "[D" (.ref b) := Fm.other W48 (Or.inl n1)
      have Z52 : n0 ≤ h48.size := Nat.le_trans Z0 (Keep.of_wr W48).1
      have K52 : Keep h0 h48 [b] := K0.wr W48 (Or.inl (List.mem_of_getElem? (i := 0) rfl))
      have N52 := Fr.snoc X48 N0 g2
      have V48 : own_K own_mkd Z h48 b .double (2 * own_leaves N) (own_uk gm nd (own_min (gm (2 * nd)) (gm (2 * nd + 1)))) := Vb.set (i := (Int32.ofNat nd)) (p := nd) (own_clamp (by omega)) W48
      refine own_by st48 ?_
      show own_R p.tables e below _ (T48.setTop (mkF m 58 #[.val (.ref a1), .val (.int p2), .val (.double x3), .second, .val (.int (Int32.ofNat nd))] []))
      refine own_by (fun _ kZ => XS.iload X48.here hx rfl (hb hby d4_58) rfl kZ) ?_
      show own_R p.tables e below _ (T48.setTop (mkF m 60 #[.val (.ref a1), .val (.int p2), .val (.double x3), .second, .val (.int (Int32.ofNat nd))] [(.int (Int32.ofNat nd))]))
      refine own_by (fun _ kZ => XS.iconst X48.here hx rfl (hb hby d4_60) kZ) ?_
      show own_R p.tables e below _ (T48.setTop (mkF m 61 #[.val (.ref a1), .val (.int p2), .val (.double x3), .second, .val (.int (Int32.ofNat nd))] [(.int (2 : Int32)), (.int (Int32.ofNat nd))]))
      refine own_by (fun _ kZ => XS.idiv X48.here hx rfl (hb hby d4_61) rfl (by decide) kZ) ?_
      show own_R p.tables e below _ (T48.setTop (mkF m 62 #[.val (.ref a1), .val (.int p2), .val (.double x3), .second, .val (.int (Int32.ofNat nd))] [(.int ((Int32.ofNat nd) / (2 : Int32)))]))
      rw [show ((Int32.ofNat nd) / (2 : Int32)) = (Int32.ofNat (nd / 2)) from own_div2 nd (by omega)]
      show own_R p.tables e below _ (T48.setTop (mkF m 62 #[.val (.ref a1), .val (.int p2), .val (.double x3), .second, .val (.int (Int32.ofNat nd))] [(.int (Int32.ofNat (nd / 2)))]))
      refine own_by (fun _ kZ => XS.istore X48.here hx rfl (hb hby d4_62) rfl (l' := #[.val (.ref a1), .val (.int p2), .val (.double x3), .second, .val (.int (Int32.ofNat (nd / 2)))]) rfl kZ) ?_
      show own_R p.tables e below _ (T48.setTop (mkF m 64 #[.val (.ref a1), .val (.int p2), .val (.double x3), .second, .val (.int (Int32.ofNat (nd / 2)))] []))
      refine own_by (fun _ kZ => XS.goto X48.here hx rfl (pc0 := 64) (pc' := 22) rfl (hb hby d4_64) (by decide) (by decide) kZ) ?_
      show own_R p.tables e below _ (T48.setTop (mkF m 22 #[.val (.ref a1), .val (.int p2), .val (.double x3), .second, .val (.int (Int32.ofNat (nd / 2)))] []))
      refine ih (nd / 2) _ (by omega) (by omega) X48 e48 N52 Z52 K52 f49_a1 f50_a1 f51_a1 V48 ?_
      intro T' locs' h' X' e' N' Z' K' Ex' Fl' Fm' Vb'
      have q := cont (T' := T') (locs' := locs') (h' := h') X' e' N' Z' K' Ex' Fl' Fm' (by rw [own_fixg, if_neg hz]; exact Vb')
      exact q
theorem ef_4 (m : MethodId) (a1 : Addr) (p2 : Int32) (x3 : UInt64) : entryFrame m #[(.ref a1), (.int p2), (.double x3)] 5 = mkF m 0 #[.val (.ref a1), .val (.int p2), .val (.double x3), .second, .unset] [] := by first | (simp [entryFrame, mkF, argsToLocals, Value.category]; done) | rfl
def Q4 (Z : State) (a1 : Addr) (p2 : Int32) (x3 : UInt64) (b : Addr) (N : Nat) (gm : Nat → Int32) (i : Nat) (vi : Int32) (h0 : Heap) (n0 : Nat) (v : Option Value) (h : Heap) (L : List Loc) : Prop := v = none ∧ Fr n0 L ∧ Keep h0 h [b] ∧ own_MT Z h n0 a1 b N (own_setg own_min gm (own_leaves N) i vi)
set_option maxRecDepth 65536 in
set_option maxHeartbeats 40000000 in
theorem rm4 (l : Launch) (Z : State) (a0 : Array Value) (hw : ∀ d ∈ tables_1, d.before a0 Z = true) (ws : List Jvm.Cond) (a1 : Addr) (p2 : Int32) (x3 : UInt64) (b : Addr) (N : Nat) (gm : Nat → Int32) (i : Nat) (vi : Int32) (h0 : Heap) (n0 : Nat) (Z0 : n0 ≤ h0.size) (W : own_MT Z h0 n0 a1 b N gm) (hi : p2 = Int32.ofNat i) (li : i < own_leaves N) (hv : x3 = FP.i2d vi) :
    MetFree l (⟨"com/example/frugal_scheduler/frugalscheduler/planners/MinTree", "set", "(ID)V"⟩ : MethodName) (head1 (Jvm.Cond.code (⟨"com/example/frugal_scheduler/frugalscheduler/planners/MinTree", "set", "(ID)V"⟩ : MethodName) prog_58_method_2_code 5 none :: ws) ({ frames := 1, cells := 0, slots := 0, locals := 18 } : Room)) (fun a U => a = #[(.ref a1), (.int p2), (.double x3)] ∧ Z.Warmed39 U.vm ∧ U.heap = h0) (fun _ _ _ _ _ => True) (fun _ U o U' => ∃ v L, o = .returned v ∧ Q4 Z a1 p2 x3 b N gm i vi h0 n0 v U'.heap L ∧ FrameEnd U o U' L ({ frames := 1, cells := 0, slots := 0, locals := 18 } : Room).cells ({ frames := 1, cells := 0, slots := 0, locals := 18 } : Room).slots) := by
  refine MetFree.of_bodySF (plainFor_of_name pn_4) hisR ?_
  intro p e s m args below meth cd s₁ Bd hml0 hP hK
  obtain ⟨rfl, hZ, hh⟩ := hP
  have hx := Bd.exec
  have hby := Bd.bytes
  have hml : cd.maxLocals = 5 := hml0
  have hown : s.vm.findClass "com/example/frugal_scheduler/frugalscheduler/planners/MinTree" = some m.cls := findClass_of_methodNamed Bd.named
  have hnm := (name_of_methodNamed Bd.named Bd.method).1
  have X0 : Stand p l e ({ frames := 1, cells := 0, slots := 0, locals := 18 } : Room) s m #[(.ref a1), (.int p2), (.double x3)] below meth cd s₁ [] 0 0 := Stand.of_body Bd
  have e0 : s₁.heap = h0 := by rw [← hh, Bd.state]; rfl
  have N0 := Fr.nil n0
  show own_R p.tables e below _ (s₁.setTop (entryFrame m #[(.ref a1), (.int p2), (.double x3)] 5))
  refine own_by (fun t kZ => castTop (ef_4 m a1 p2 x3) kZ) ?_
  show own_R p.tables e below _ (s₁.setTop (mkF m 0 #[.val (.ref a1), .val (.int p2), .val (.double x3), .second, .unset] []))
  obtain ⟨Ex, Fl, Fm, Vb, n1, g1, g2⟩ := W
  have hlf := own_lf N
  subst hi hv
  show own_R p.tables e below _ (s₁.setTop (mkF m 0 #[.val (.ref a1), .val (.int (Int32.ofNat i)), .val (.double (FP.i2d vi)), .second, .unset] []))
  refine own_by (fun _ kZ => XS.aloadN X0.here hx rfl (hb hby d4_0) rfl rfl kZ) ?_
  show own_R p.tables e below _ (s₁.setTop (mkF m 1 #[.val (.ref a1), .val (.int (Int32.ofNat i)), .val (.double (FP.i2d vi)), .second, .unset] [(.ref a1)]))
  obtain ⟨T53, X53, e53, st53⟩ := getF X0 hx hZ hown (host := "") (Or.inl (hw _ (List.mem_of_getElem? (i := 10) rfl))) Via.refl e0 Fl (g := (mkF m 1 #[.val (.ref a1), .val (.int (Int32.ofNat i)), .val (.double (FP.i2d vi)), .second, .unset] [(.ref a1)])) rfl rfl (hb hby d4_1)
  refine own_by st53 ?_
  show own_R p.tables e below _ (T53.setTop (mkF m 4 #[.val (.ref a1), .val (.int (Int32.ofNat i)), .val (.double (FP.i2d vi)), .second, .unset] [(.int (Int32.ofNat (own_leaves N)))]))
  refine own_by (fun _ kZ => XS.iloadN X53.here hx rfl (hb hby d4_4) rfl kZ) ?_
  show own_R p.tables e below _ (T53.setTop (mkF m 5 #[.val (.ref a1), .val (.int (Int32.ofNat i)), .val (.double (FP.i2d vi)), .second, .unset] [(.int (Int32.ofNat i)), (.int (Int32.ofNat (own_leaves N)))]))
  refine own_by (fun _ kZ => XS.iadd X53.here hx rfl (hb hby d4_5) rfl kZ) ?_
  show own_R p.tables e below _ (T53.setTop (mkF m 6 #[.val (.ref a1), .val (.int (Int32.ofNat i)), .val (.double (FP.i2d vi)), .second, .unset] [(.int ((Int32.ofNat (own_leaves N)) + (Int32.ofNat i)))]))
  rw [show ((Int32.ofNat (own_leaves N)) + (Int32.ofNat i)) = (Int32.ofNat (own_leaves N + i)) from own_addI _ _]
  show own_R p.tables e below _ (T53.setTop (mkF m 6 #[.val (.ref a1), .val (.int (Int32.ofNat i)), .val (.double (FP.i2d vi)), .second, .unset] [(.int (Int32.ofNat (own_leaves N + i)))]))
  refine own_by (fun _ kZ => XS.istore X53.here hx rfl (hb hby d4_6) rfl (l' := #[.val (.ref a1), .val (.int (Int32.ofNat i)), .val (.double (FP.i2d vi)), .second, .val (.int (Int32.ofNat (own_leaves N + i)))]) rfl kZ) ?_
  show own_R p.tables e below _ (T53.setTop (mkF m 8 #[.val (.ref a1), .val (.int (Int32.ofNat i)), .val (.double (FP.i2d vi)), .second, .val (.int (Int32.ofNat (own_leaves N + i)))] []))
  refine own_by (fun _ kZ => XS.aloadN X53.here hx rfl (hb hby d4_8) rfl rfl kZ) ?_
  show own_R p.tables e below _ (T53.setTop (mkF m 9 #[.val (.ref a1), .val (.int (Int32.ofNat i)), .val (.double (FP.i2d vi)), .second, .val (.int (Int32.ofNat (own_leaves N + i)))] [(.ref a1)]))
  obtain ⟨T54, X54, e54, st54⟩ := getF X53 hx hZ hown (host := "") (Or.inl (hw _ (List.mem_of_getElem? (i := 13) rfl))) Via.refl e53 Fm (g := (mkF m 9 #[.val (.ref a1), .val (.int (Int32.ofNat i)), .val (.double (FP.i2d vi)), .second, .val (.int (Int32.ofNat (own_leaves N + i)))] [(.ref a1)])) rfl rfl (hb hby d4_9)
  refine own_by st54 ?_
  show own_R p.tables e below _ (T54.setTop (mkF m 12 #[.val (.ref a1), .val (.int (Int32.ofNat i)), .val (.double (FP.i2d vi)), .second, .val (.int (Int32.ofNat (own_leaves N + i)))] [(.ref b)]))
  refine own_by (fun _ kZ => XS.iload X54.here hx rfl (hb hby d4_12) rfl kZ) ?_
  show own_R p.tables e below _ (T54.setTop (mkF m 14 #[.val (.ref a1), .val (.int (Int32.ofNat i)), .val (.double (FP.i2d vi)), .second, .val (.int (Int32.ofNat (own_leaves N + i)))] [(.int (Int32.ofNat (own_leaves N + i))), (.ref b)]))
  refine own_by (fun _ kZ => own_dloadN X54.here hx rfl (hb hby d4_14) rfl kZ) ?_
  show own_R p.tables e below _ (T54.setTop (mkF m 15 #[.val (.ref a1), .val (.int (Int32.ofNat i)), .val (.double (FP.i2d vi)), .second, .val (.int (Int32.ofNat (own_leaves N + i)))] [(.double (FP.i2d vi)), (.int (Int32.ofNat (own_leaves N + i))), (.ref b)]))
  obtain ⟨cl55, Ar55, hin55, -⟩ := Vb.rd (i := (Int32.ofNat (own_leaves N + i))) (p := (own_leaves N + i)) (own_clamp (by omega)) (own_nn (by omega)) (by omega)
  obtain ⟨T56, h56, X56, e56, W56, st56⟩ := own_stD X54 hx hZ e54 Ar55 (j := (Int32.ofNat (own_leaves N + i))) hin55 (g := (mkF m 15 #[.val (.ref a1), .val (.int (Int32.ofNat i)), .val (.double (FP.i2d vi)), .second, .val (.int (Int32.ofNat (own_leaves N + i)))] [(.double (FP.i2d vi)), (.int (Int32.ofNat (own_leaves N + i))), (.ref b)])) rfl rfl (hb hby d4_15)
  have f57_a1 : Exa Z h56 a1 "com/example/frugal_scheduler/frugalscheduler/planners/MinTree" := Ex.wr W56
  have f58_a1 : Fld Z h56 a1 "com/example/frugal_scheduler/frugalscheduler/planners/MinTree" "leaves" "I" (.int (Int32.ofNat (own_leaves N))) := Fl.other W56 (Or.inl n1)
  have f59_a1 : Fld Z h56 a1 "com/example/frugal_scheduler/frugalscheduler/planners/MinTree" "mins" "[D" (.ref b) := Fm.other W56 (Or.inl n1)
  have Z60 : n0 ≤ h56.size := Nat.le_trans Z0 (Keep.of_wr W56).1
  have K60 : Keep h0 h56 [b] := (Keep.refl h0 [b]).wr W56 (Or.inl (List.mem_of_getElem? (i := 0) rfl))
  have N60 := Fr.snoc X56 N0 g2
  have V56 : own_K own_mkd Z h56 b .double (2 * own_leaves N) (own_uk gm (own_leaves N + i) vi) := Vb.set (i := (Int32.ofNat (own_leaves N + i))) (p := (own_leaves N + i)) (own_clamp (by omega)) W56
  refine own_by st56 ?_
  show own_R p.tables e below _ (T56.setTop (mkF m 16 #[.val (.ref a1), .val (.int (Int32.ofNat i)), .val (.double (FP.i2d vi)), .second, .val (.int (Int32.ofNat (own_leaves N + i)))] []))
  refine own_by (fun _ kZ => XS.iload X56.here hx rfl (hb hby d4_16) rfl kZ) ?_
  show own_R p.tables e below _ (T56.setTop (mkF m 18 #[.val (.ref a1), .val (.int (Int32.ofNat i)), .val (.double (FP.i2d vi)), .second, .val (.int (Int32.ofNat (own_leaves N + i)))] [(.int (Int32.ofNat (own_leaves N + i)))]))
  refine own_by (fun _ kZ => XS.iconst X56.here hx rfl (hb hby d4_18) kZ) ?_
  show own_R p.tables e below _ (T56.setTop (mkF m 19 #[.val (.ref a1), .val (.int (Int32.ofNat i)), .val (.double (FP.i2d vi)), .second, .val (.int (Int32.ofNat (own_leaves N + i)))] [(.int (2 : Int32)), (.int (Int32.ofNat (own_leaves N + i)))]))
  refine own_by (fun _ kZ => XS.idiv X56.here hx rfl (hb hby d4_19) rfl (by decide) kZ) ?_
  show own_R p.tables e below _ (T56.setTop (mkF m 20 #[.val (.ref a1), .val (.int (Int32.ofNat i)), .val (.double (FP.i2d vi)), .second, .val (.int (Int32.ofNat (own_leaves N + i)))] [(.int ((Int32.ofNat (own_leaves N + i)) / (2 : Int32)))]))
  rw [show ((Int32.ofNat (own_leaves N + i)) / (2 : Int32)) = (Int32.ofNat ((own_leaves N + i) / 2)) from own_div2 _ (by omega)]
  show own_R p.tables e below _ (T56.setTop (mkF m 20 #[.val (.ref a1), .val (.int (Int32.ofNat i)), .val (.double (FP.i2d vi)), .second, .val (.int (Int32.ofNat (own_leaves N + i)))] [(.int (Int32.ofNat ((own_leaves N + i) / 2)))]))
  refine own_by (fun _ kZ => XS.istore X56.here hx rfl (hb hby d4_20) rfl (l' := #[.val (.ref a1), .val (.int (Int32.ofNat i)), .val (.double (FP.i2d vi)), .second, .val (.int (Int32.ofNat ((own_leaves N + i) / 2)))]) rfl kZ) ?_
  show own_R p.tables e below _ (T56.setTop (mkF m 22 #[.val (.ref a1), .val (.int (Int32.ofNat i)), .val (.double (FP.i2d vi)), .second, .val (.int (Int32.ofNat ((own_leaves N + i) / 2)))] []))
  refine lpS hx hZ hw hby hml hown a1 b (Int32.ofNat i) (FP.i2d vi) N n1 g1 g2 4 _ _ (by omega) (by omega) X56 e56 N60 Z60 K60 f57_a1 f58_a1 f59_a1 V56 ?_
  intro T9 L9 h9 X9 e9 N9 Z9 K9 Ex9 Fl9 Fm9 Vb9
  show own_R p.tables e below _ (T9.setTop (mkF m 67 #[.val (.ref a1), .val (.int (Int32.ofNat i)), .val (.double (FP.i2d vi)), .second, .val (.int (Int32.ofNat 0))] []))
  obtain ⟨fs, hr, hrun, hended, hW, hsame⟩ := X9.leave (v := none) (fun _ => rfl)
  refine own_end ⟨_, _, ?_, hrun, hended, _, _, rfl, ?_, ⟨_, rfl⟩, hW, hsame.mono (by decide) (by decide)⟩
  · exact X9.returnOut hx Bd.returns (hb hby d4_67) hr
  · show Q4 Z a1 (Int32.ofNat i) (FP.i2d vi) b N gm i vi h0 n0 _ T9.heap _
    rw [e9]
    exact ⟨rfl, N9, K9, Ex9, Fl9, Fm9, Vb9, n1, g1, g2⟩
set_option maxRecDepth 65536 in
set_option maxHeartbeats 40000000 in
theorem lpO {p : Program} {l : Launch} {e : Env} {s : State} {m : MethodId} {args : Array Value} {below : List Frame} {meth : Method} {cd : Code} {A : State → Outcome → Prop} {Z : State} {a0 : Array Value} {h0 : Heap} {n0 : Nat} (hx : p.tables.exec = Jvm.exec) (hZ : Z.Warmed39 s.vm) (hw : ∀ d ∈ tables_1, d.before a0 Z = true) (hby : cd.code = prog_58_method_6_code) (hml : cd.maxLocals = 7) (hown : s.vm.findClass "com/example/frugal_scheduler/frugalscheduler/planners/MinTree" = some m.cls) (a1 : Addr) (f t : Nat) (bd : Int32) {T : State} {locs : List Loc} (X0 : Stand p l e ({ frames := 0, cells := 0, slots := 0, locals := 0 } : Room) s m args below meth cd T locs 0 0) :
    ∀ (k n : Nat) (hk : n < 2 ^ k) (hn : n < 32) (cont : own_R p.tables e below A (T.setTop (mkF m 44 #[.val (.ref a1), .val (.int (Int32.ofNat f)), .val (.int (Int32.ofNat t)), .val (.double (FP.i2d bd)), .second, .val (.int (Int32.ofNat (own_odd k n))), .unset] []))), own_R p.tables e below A (T.setTop (mkF m 27 #[.val (.ref a1), .val (.int (Int32.ofNat f)), .val (.int (Int32.ofNat t)), .val (.double (FP.i2d bd)), .second, .val (.int (Int32.ofNat n)), .unset] [])) := by
  intro k
  induction k with
  | zero =>
    intro n hk hn cont
    obtain rfl : n = 0 := by omega
    show own_R p.tables e below _ (T.setTop (mkF m 27 #[.val (.ref a1), .val (.int (Int32.ofNat f)), .val (.int (Int32.ofNat t)), .val (.double (FP.i2d bd)), .second, .val (.int (Int32.ofNat 0)), .unset] []))
    refine own_by (fun _ kZ => XS.iload X0.here hx rfl (hb hby d5_27) rfl kZ) ?_
    show own_R p.tables e below _ (T.setTop (mkF m 29 #[.val (.ref a1), .val (.int (Int32.ofNat f)), .val (.int (Int32.ofNat t)), .val (.double (FP.i2d bd)), .second, .val (.int (Int32.ofNat 0)), .unset] [(.int (Int32.ofNat 0))]))
    refine own_by (fun _ kZ => XS.iconst X0.here hx rfl (hb hby d5_29) kZ) ?_
    show own_R p.tables e below _ (T.setTop (mkF m 30 #[.val (.ref a1), .val (.int (Int32.ofNat f)), .val (.int (Int32.ofNat t)), .val (.double (FP.i2d bd)), .second, .val (.int (Int32.ofNat 0)), .unset] [(.int (1 : Int32)), (.int (Int32.ofNat 0))]))
    refine own_by (fun _ kZ => XS.iand X0.here hx rfl (hb hby d5_30) rfl kZ) ?_
    show own_R p.tables e below _ (T.setTop (mkF m 31 #[.val (.ref a1), .val (.int (Int32.ofNat f)), .val (.int (Int32.ofNat t)), .val (.double (FP.i2d bd)), .second, .val (.int (Int32.ofNat 0)), .unset] [(.int ((Int32.ofNat 0) &&& (1 : Int32)))]))
    refine own_by (fun _ kZ => XS.iconst X0.here hx rfl (hb hby d5_31) kZ) ?_
    show own_R p.tables e below _ (T.setTop (mkF m 32 #[.val (.ref a1), .val (.int (Int32.ofNat f)), .val (.int (Int32.ofNat t)), .val (.double (FP.i2d bd)), .second, .val (.int (Int32.ofNat 0)), .unset] [(.int (1 : Int32)), (.int ((Int32.ofNat 0) &&& (1 : Int32)))]))
    refine own_by (fun _ kZ => XS.icmpYes X0.here hx rfl (pc0 := 32) (pc' := 44) rfl (hb hby d5_32) rfl (feq (by decide : ¬ ((Int32.ofNat 0) &&& (1 : Int32)) = (1 : Int32))).2 (by decide) (by decide) kZ) ?_
    show own_R p.tables e below _ (T.setTop (mkF m 44 #[.val (.ref a1), .val (.int (Int32.ofNat f)), .val (.int (Int32.ofNat t)), .val (.double (FP.i2d bd)), .second, .val (.int (Int32.ofNat 0)), .unset] []))
    exact cont
  | succ k ih =>
    intro n hk hn cont
    have hp : 2 ^ (k + 1) = 2 * 2 ^ k := by rw [Nat.pow_succ]; omega
    by_cases ho : n % 2 = 1
    · rw [own_odd, if_pos ho] at cont
      show own_R p.tables e below _ (T.setTop (mkF m 27 #[.val (.ref a1), .val (.int (Int32.ofNat f)), .val (.int (Int32.ofNat t)), .val (.double (FP.i2d bd)), .second, .val (.int (Int32.ofNat n)), .unset] []))
      refine own_by (fun _ kZ => XS.iload X0.here hx rfl (hb hby d5_27) rfl kZ) ?_
      show own_R p.tables e below _ (T.setTop (mkF m 29 #[.val (.ref a1), .val (.int (Int32.ofNat f)), .val (.int (Int32.ofNat t)), .val (.double (FP.i2d bd)), .second, .val (.int (Int32.ofNat n)), .unset] [(.int (Int32.ofNat n))]))
      refine own_by (fun _ kZ => XS.iconst X0.here hx rfl (hb hby d5_29) kZ) ?_
      show own_R p.tables e below _ (T.setTop (mkF m 30 #[.val (.ref a1), .val (.int (Int32.ofNat f)), .val (.int (Int32.ofNat t)), .val (.double (FP.i2d bd)), .second, .val (.int (Int32.ofNat n)), .unset] [(.int (1 : Int32)), (.int (Int32.ofNat n))]))
      refine own_by (fun _ kZ => XS.iand X0.here hx rfl (hb hby d5_30) rfl kZ) ?_
      show own_R p.tables e below _ (T.setTop (mkF m 31 #[.val (.ref a1), .val (.int (Int32.ofNat f)), .val (.int (Int32.ofNat t)), .val (.double (FP.i2d bd)), .second, .val (.int (Int32.ofNat n)), .unset] [(.int ((Int32.ofNat n) &&& (1 : Int32)))]))
      refine own_by (fun _ kZ => XS.iconst X0.here hx rfl (hb hby d5_31) kZ) ?_
      show own_R p.tables e below _ (T.setTop (mkF m 32 #[.val (.ref a1), .val (.int (Int32.ofNat f)), .val (.int (Int32.ofNat t)), .val (.double (FP.i2d bd)), .second, .val (.int (Int32.ofNat n)), .unset] [(.int (1 : Int32)), (.int ((Int32.ofNat n) &&& (1 : Int32)))]))
      refine own_by (fun _ kZ => XS.icmpNo X0.here hx rfl (hb hby d5_32) rfl (teq (by rw [own_and1 n (by omega), ho]; rfl : ((Int32.ofNat n) &&& (1 : Int32)) = (1 : Int32))).2 kZ) ?_
      show own_R p.tables e below _ (T.setTop (mkF m 35 #[.val (.ref a1), .val (.int (Int32.ofNat f)), .val (.int (Int32.ofNat t)), .val (.double (FP.i2d bd)), .second, .val (.int (Int32.ofNat n)), .unset] []))
      refine own_by (fun _ kZ => XS.iload X0.here hx rfl (hb hby d5_35) rfl kZ) ?_
      show own_R p.tables e below _ (T.setTop (mkF m 37 #[.val (.ref a1), .val (.int (Int32.ofNat f)), .val (.int (Int32.ofNat t)), .val (.double (FP.i2d bd)), .second, .val (.int (Int32.ofNat n)), .unset] [(.int (Int32.ofNat n))]))
      refine own_by (fun _ kZ => XS.iconst X0.here hx rfl (hb hby d5_37) kZ) ?_
      show own_R p.tables e below _ (T.setTop (mkF m 38 #[.val (.ref a1), .val (.int (Int32.ofNat f)), .val (.int (Int32.ofNat t)), .val (.double (FP.i2d bd)), .second, .val (.int (Int32.ofNat n)), .unset] [(.int (2 : Int32)), (.int (Int32.ofNat n))]))
      refine own_by (fun _ kZ => XS.idiv X0.here hx rfl (hb hby d5_38) rfl (by decide) kZ) ?_
      show own_R p.tables e below _ (T.setTop (mkF m 39 #[.val (.ref a1), .val (.int (Int32.ofNat f)), .val (.int (Int32.ofNat t)), .val (.double (FP.i2d bd)), .second, .val (.int (Int32.ofNat n)), .unset] [(.int ((Int32.ofNat n) / (2 : Int32)))]))
      rw [show ((Int32.ofNat n) / (2 : Int32)) = (Int32.ofNat (n / 2)) from own_div2 n (by omega)]
      show own_R p.tables e below _ (T.setTop (mkF m 39 #[.val (.ref a1), .val (.int (Int32.ofNat f)), .val (.int (Int32.ofNat t)), .val (.double (FP.i2d bd)), .second, .val (.int (Int32.ofNat n)), .unset] [(.int (Int32.ofNat (n / 2)))]))
      refine own_by (fun _ kZ => XS.istore X0.here hx rfl (hb hby d5_39) rfl (l' := #[.val (.ref a1), .val (.int (Int32.ofNat f)), .val (.int (Int32.ofNat t)), .val (.double (FP.i2d bd)), .second, .val (.int (Int32.ofNat (n / 2))), .unset]) rfl kZ) ?_
      show own_R p.tables e below _ (T.setTop (mkF m 41 #[.val (.ref a1), .val (.int (Int32.ofNat f)), .val (.int (Int32.ofNat t)), .val (.double (FP.i2d bd)), .second, .val (.int (Int32.ofNat (n / 2))), .unset] []))
      refine own_by (fun _ kZ => XS.goto X0.here hx rfl (pc0 := 41) (pc' := 27) rfl (hb hby d5_41) (by decide) (by decide) kZ) ?_
      show own_R p.tables e below _ (T.setTop (mkF m 27 #[.val (.ref a1), .val (.int (Int32.ofNat f)), .val (.int (Int32.ofNat t)), .val (.double (FP.i2d bd)), .second, .val (.int (Int32.ofNat (n / 2))), .unset] []))
      exact ih (n / 2) (by omega) (by omega) cont
    · rw [own_odd, if_neg ho] at cont
      show own_R p.tables e below _ (T.setTop (mkF m 27 #[.val (.ref a1), .val (.int (Int32.ofNat f)), .val (.int (Int32.ofNat t)), .val (.double (FP.i2d bd)), .second, .val (.int (Int32.ofNat n)), .unset] []))
      refine own_by (fun _ kZ => XS.iload X0.here hx rfl (hb hby d5_27) rfl kZ) ?_
      show own_R p.tables e below _ (T.setTop (mkF m 29 #[.val (.ref a1), .val (.int (Int32.ofNat f)), .val (.int (Int32.ofNat t)), .val (.double (FP.i2d bd)), .second, .val (.int (Int32.ofNat n)), .unset] [(.int (Int32.ofNat n))]))
      refine own_by (fun _ kZ => XS.iconst X0.here hx rfl (hb hby d5_29) kZ) ?_
      show own_R p.tables e below _ (T.setTop (mkF m 30 #[.val (.ref a1), .val (.int (Int32.ofNat f)), .val (.int (Int32.ofNat t)), .val (.double (FP.i2d bd)), .second, .val (.int (Int32.ofNat n)), .unset] [(.int (1 : Int32)), (.int (Int32.ofNat n))]))
      refine own_by (fun _ kZ => XS.iand X0.here hx rfl (hb hby d5_30) rfl kZ) ?_
      show own_R p.tables e below _ (T.setTop (mkF m 31 #[.val (.ref a1), .val (.int (Int32.ofNat f)), .val (.int (Int32.ofNat t)), .val (.double (FP.i2d bd)), .second, .val (.int (Int32.ofNat n)), .unset] [(.int ((Int32.ofNat n) &&& (1 : Int32)))]))
      refine own_by (fun _ kZ => XS.iconst X0.here hx rfl (hb hby d5_31) kZ) ?_
      show own_R p.tables e below _ (T.setTop (mkF m 32 #[.val (.ref a1), .val (.int (Int32.ofNat f)), .val (.int (Int32.ofNat t)), .val (.double (FP.i2d bd)), .second, .val (.int (Int32.ofNat n)), .unset] [(.int (1 : Int32)), (.int ((Int32.ofNat n) &&& (1 : Int32)))]))
      refine own_by (fun _ kZ => XS.icmpYes X0.here hx rfl (pc0 := 32) (pc' := 44) rfl (hb hby d5_32) rfl (feq (by rw [own_and1 n (by omega), show n % 2 = 0 by omega]; decide : ¬ ((Int32.ofNat n) &&& (1 : Int32)) = (1 : Int32))).2 (by decide) (by decide) kZ) ?_
      show own_R p.tables e below _ (T.setTop (mkF m 44 #[.val (.ref a1), .val (.int (Int32.ofNat f)), .val (.int (Int32.ofNat t)), .val (.double (FP.i2d bd)), .second, .val (.int (Int32.ofNat n)), .unset] []))
      exact cont
set_option maxRecDepth 65536 in
set_option maxHeartbeats 40000000 in
theorem lpC {p : Program} {l : Launch} {e : Env} {s : State} {m : MethodId} {args : Array Value} {below : List Frame} {meth : Method} {cd : Code} {A : State → Outcome → Prop} {Z : State} {a0 : Array Value} {h0 : Heap} {n0 : Nat} (hx : p.tables.exec = Jvm.exec) (hZ : Z.Warmed39 s.vm) (hw : ∀ d ∈ tables_1, d.before a0 Z = true) (hby : cd.code = prog_58_method_6_code) (hml : cd.maxLocals = 7) (hown : s.vm.findClass "com/example/frugal_scheduler/frugalscheduler/planners/MinTree" = some m.cls) (a1 b : Addr) (f t : Nat) (bd : Int32) (N : Nat) (gm : Nat → Int32) (Fl : Fld Z h0 a1 "com/example/frugal_scheduler/frugalscheduler/planners/MinTree" "leaves" "I" (.int (Int32.ofNat (own_leaves N)))) (Fm : Fld Z h0 a1 "com/example/frugal_scheduler/frugalscheduler/planners/MinTree" "mins" "[D" (.ref b)) (Vb : own_K own_mkd Z h0 b .double (2 * own_leaves N) gm) :
    ∀ (k n : Nat) (r : Option Nat) (hr : own_climb (fun n => own_le bd (gm n)) k n = some r) (hn : n < 2 * own_leaves N) {T : State} {locs : List Loc} (X0 : Stand p l e ({ frames := 0, cells := 0, slots := 0, locals := 0 } : Room) s m args below meth cd T locs 0 0) (e0 : T.heap = h0) (N0 : Fr n0 locs)
      (cont1 : ∀ {T' : State} (_ : Stand p l e ({ frames := 0, cells := 0, slots := 0, locals := 0 } : Room) s m args below meth cd T' locs 0 0) (_ : T'.heap = h0) (_ : r = none), own_R p.tables e below A (T'.setTop (mkF m 49 #[.val (.ref a1), .val (.int (Int32.ofNat f)), .val (.int (Int32.ofNat t)), .val (.double (FP.i2d bd)), .second, .val (.int (Int32.ofNat 0)), .unset] [])))
      (cont2 : ∀ {T' : State} (_ : Stand p l e ({ frames := 0, cells := 0, slots := 0, locals := 0 } : Room) s m args below meth cd T' locs 0 0) (_ : T'.heap = h0) (n' : Nat) (_ : r = some n') (_ : n' < 2 * own_leaves N), own_R p.tables e below A (T'.setTop (mkF m 57 #[.val (.ref a1), .val (.int (Int32.ofNat f)), .val (.int (Int32.ofNat t)), .val (.double (FP.i2d bd)), .second, .val (.int (Int32.ofNat n')), .unset] []))), own_R p.tables e below A (T.setTop (mkF m 15 #[.val (.ref a1), .val (.int (Int32.ofNat f)), .val (.int (Int32.ofNat t)), .val (.double (FP.i2d bd)), .second, .val (.int (Int32.ofNat n)), .unset] [])) := by
  have hlf := own_lf N
  intro k
  induction k with
  | zero =>
    intro n r hr
    cases hr
  | succ k ih =>
    intro n r hr hn T locs X0 e0 N0 cont1 cont2
    rw [own_climb] at hr
    show own_R p.tables e below _ (T.setTop (mkF m 15 #[.val (.ref a1), .val (.int (Int32.ofNat f)), .val (.int (Int32.ofNat t)), .val (.double (FP.i2d bd)), .second, .val (.int (Int32.ofNat n)), .unset] []))
    refine own_by (fun _ kZ => XS.aloadN X0.here hx rfl (hb hby d5_15) rfl rfl kZ) ?_
    show own_R p.tables e below _ (T.setTop (mkF m 16 #[.val (.ref a1), .val (.int (Int32.ofNat f)), .val (.int (Int32.ofNat t)), .val (.double (FP.i2d bd)), .second, .val (.int (Int32.ofNat n)), .unset] [(.ref a1)]))
    obtain ⟨T61, X61, e61, st61⟩ := getF X0 hx hZ hown (host := "") (Or.inl (hw _ (List.mem_of_getElem? (i := 13) rfl))) Via.refl e0 Fm (g := (mkF m 16 #[.val (.ref a1), .val (.int (Int32.ofNat f)), .val (.int (Int32.ofNat t)), .val (.double (FP.i2d bd)), .second, .val (.int (Int32.ofNat n)), .unset] [(.ref a1)])) rfl rfl (hb hby d5_16)
    refine own_by st61 ?_
    show own_R p.tables e below _ (T61.setTop (mkF m 19 #[.val (.ref a1), .val (.int (Int32.ofNat f)), .val (.int (Int32.ofNat t)), .val (.double (FP.i2d bd)), .second, .val (.int (Int32.ofNat n)), .unset] [(.ref b)]))
    refine own_by (fun _ kZ => XS.iload X61.here hx rfl (hb hby d5_19) rfl kZ) ?_
    show own_R p.tables e below _ (T61.setTop (mkF m 21 #[.val (.ref a1), .val (.int (Int32.ofNat f)), .val (.int (Int32.ofNat t)), .val (.double (FP.i2d bd)), .second, .val (.int (Int32.ofNat n)), .unset] [(.int (Int32.ofNat n)), (.ref b)]))
    obtain ⟨cl62, Ar62, hin62, hat62⟩ := Vb.rd (i := (Int32.ofNat n)) (p := n) (own_clamp (by omega)) (own_nn (by omega)) hn
    refine own_by (fun _ kZ => own_daload X61 hx (j := (Int32.ofNat n)) (v := (own_mkd (gm n))) (by rw [e61]; exact Ar62.1) (State.isArrayOf_alike hZ.alike Ar62.2.1) Ar62.2.2 hin62 hat62 (g := (mkF m 21 #[.val (.ref a1), .val (.int (Int32.ofNat f)), .val (.int (Int32.ofNat t)), .val (.double (FP.i2d bd)), .second, .val (.int (Int32.ofNat n)), .unset] [(.int (Int32.ofNat n)), (.ref b)])) rfl rfl (hb hby d5_21) _ kZ) ?_
    show own_R p.tables e below _ (T61.setTop (mkF m 22 #[.val (.ref a1), .val (.int (Int32.ofNat f)), .val (.int (Int32.ofNat t)), .val (.double (FP.i2d bd)), .second, .val (.int (Int32.ofNat n)), .unset] [(.double (FP.i2d (gm n)))]))
    refine own_by (fun _ kZ => own_dloadN X61.here hx rfl (hb hby d5_22) rfl kZ) ?_
    show own_R p.tables e below _ (T61.setTop (mkF m 23 #[.val (.ref a1), .val (.int (Int32.ofNat f)), .val (.int (Int32.ofNat t)), .val (.double (FP.i2d bd)), .second, .val (.int (Int32.ofNat n)), .unset] [(.double (FP.i2d bd)), (.double (FP.i2d (gm n)))]))
    refine own_by (fun _ kZ => own_dcmp X61.here hx rfl (hb hby d5_23) rfl kZ) ?_
    show own_R p.tables e below _ (T61.setTop (mkF m 24 #[.val (.ref a1), .val (.int (Int32.ofNat f)), .val (.int (Int32.ofNat t)), .val (.double (FP.i2d bd)), .second, .val (.int (Int32.ofNat n)), .unset] [(.int (cmpValue (FP.dcmp (FP.i2d (gm n)) (FP.i2d bd)) .l))]))
    rw [show (cmpValue (FP.dcmp (FP.i2d (gm n)) (FP.i2d bd)) .l) = (own_c3 (gm n) bd) from own_cmp _ _ _]
    show own_R p.tables e below _ (T61.setTop (mkF m 24 #[.val (.ref a1), .val (.int (Int32.ofNat f)), .val (.int (Int32.ofNat t)), .val (.double (FP.i2d bd)), .second, .val (.int (Int32.ofNat n)), .unset] [(.int (own_c3 (gm n) bd))]))
    by_cases hc : (0 : Int32) < (own_c3 (gm n) bd)
    · skip
      refine own_by (fun _ kZ => XS.ifNo X61.here hx rfl (hb hby d5_24) rfl ((if0 _ _).trans (tlt hc).2.2.2) kZ) ?_
      show own_R p.tables e below _ (T61.setTop (mkF m 27 #[.val (.ref a1), .val (.int (Int32.ofNat f)), .val (.int (Int32.ofNat t)), .val (.double (FP.i2d bd)), .second, .val (.int (Int32.ofNat n)), .unset] []))
      have hB : ¬ own_le bd (gm n) = true := by simp [own_le, (own_c3_pos _ _).mp hc]
      rw [if_neg hB] at hr
      refine lpO (h0 := h0) (n0 := n0) hx hZ hw hby hml hown a1 f t bd X61 5 n (by omega) (by omega) ?_
      show own_R p.tables e below _ (T61.setTop (mkF m 44 #[.val (.ref a1), .val (.int (Int32.ofNat f)), .val (.int (Int32.ofNat t)), .val (.double (FP.i2d bd)), .second, .val (.int (Int32.ofNat (own_odd 5 n))), .unset] []))
      have hod := own_odd_le 5 n
      have hev := own_odd_even 5 n (by omega)
      refine own_by (fun _ kZ => XS.iload X61.here hx rfl (hb hby d5_44) rfl kZ) ?_
      show own_R p.tables e below _ (T61.setTop (mkF m 46 #[.val (.ref a1), .val (.int (Int32.ofNat f)), .val (.int (Int32.ofNat t)), .val (.double (FP.i2d bd)), .second, .val (.int (Int32.ofNat (own_odd 5 n))), .unset] [(.int (Int32.ofNat (own_odd 5 n)))]))
      by_cases hz : (Int32.ofNat (own_odd 5 n)) = (0 : Int32)
      · skip
        have hz0 : own_odd 5 n = 0 := (own_inj (b := 0) (by omega) (by omega)).mp hz
        rw [if_pos hz0] at hr
        cases hr
        refine own_by (fun _ kZ => XS.ifNo X61.here hx rfl (hb hby d5_46) rfl ((if0 _ _).trans (teq hz).2) kZ) ?_
        show own_R p.tables e below _ (T61.setTop (mkF m 49 #[.val (.ref a1), .val (.int (Int32.ofNat f)), .val (.int (Int32.ofNat t)), .val (.double (FP.i2d bd)), .second, .val (.int (Int32.ofNat (own_odd 5 n))), .unset] []))
        rw [hz0]
        exact cont1 X61 e61 rfl
      · skip
        have hz0 : ¬ own_odd 5 n = 0 := fun q => hz (by rw [q]; rfl)
        rw [if_neg hz0] at hr
        refine own_by (fun _ kZ => XS.ifYes X61.here hx rfl (pc0 := 46) (pc' := 51) rfl (hb hby d5_46) rfl ((if0 _ _).trans (feq hz).2) (by decide) (by decide) kZ) ?_
        show own_R p.tables e below _ (T61.setTop (mkF m 51 #[.val (.ref a1), .val (.int (Int32.ofNat f)), .val (.int (Int32.ofNat t)), .val (.double (FP.i2d bd)), .second, .val (.int (Int32.ofNat (own_odd 5 n))), .unset] []))
        refine own_by (fun _ kZ => XS.iinc X61.here hx rfl (hb hby d5_51) rfl (l' := #[.val (.ref a1), .val (.int (Int32.ofNat f)), .val (.int (Int32.ofNat t)), .val (.double (FP.i2d bd)), .second, .val (.int ((Int32.ofNat (own_odd 5 n)) + (1 : Int32))), .unset]) rfl kZ) ?_
        show own_R p.tables e below _ (T61.setTop (mkF m 54 #[.val (.ref a1), .val (.int (Int32.ofNat f)), .val (.int (Int32.ofNat t)), .val (.double (FP.i2d bd)), .second, .val (.int ((Int32.ofNat (own_odd 5 n)) + (1 : Int32))), .unset] []))
        rw [show ((Int32.ofNat (own_odd 5 n)) + (1 : Int32)) = (Int32.ofNat (own_odd 5 n + 1)) from own_add1 _]
        show own_R p.tables e below _ (T61.setTop (mkF m 54 #[.val (.ref a1), .val (.int (Int32.ofNat f)), .val (.int (Int32.ofNat t)), .val (.double (FP.i2d bd)), .second, .val (.int (Int32.ofNat (own_odd 5 n + 1))), .unset] []))
        refine own_by (fun _ kZ => XS.goto X61.here hx rfl (pc0 := 54) (pc' := 15) rfl (hb hby d5_54) (by decide) (by decide) kZ) ?_
        show own_R p.tables e below _ (T61.setTop (mkF m 15 #[.val (.ref a1), .val (.int (Int32.ofNat f)), .val (.int (Int32.ofNat t)), .val (.double (FP.i2d bd)), .second, .val (.int (Int32.ofNat (own_odd 5 n + 1))), .unset] []))
        exact ih (own_odd 5 n + 1) r hr (by omega) X61 e61 N0 cont1 cont2
    · skip
      refine own_by (fun _ kZ => XS.ifYes X61.here hx rfl (pc0 := 24) (pc' := 57) rfl (hb hby d5_24) rfl ((if0 _ _).trans (flt hc).2.2.2) (by decide) (by decide) kZ) ?_
      show own_R p.tables e below _ (T61.setTop (mkF m 57 #[.val (.ref a1), .val (.int (Int32.ofNat f)), .val (.int (Int32.ofNat t)), .val (.double (FP.i2d bd)), .second, .val (.int (Int32.ofNat n)), .unset] []))
      have hB : own_le bd (gm n) = true := by simp only [own_le, decide_eq_true_eq]; exact fun q => hc ((own_c3_pos _ _).mpr q)
      rw [if_pos hB] at hr
      cases hr
      exact cont2 X61 e61 n rfl hn
set_option maxRecDepth 65536 in
set_option maxHeartbeats 40000000 in
theorem lpD {p : Program} {l : Launch} {e : Env} {s : State} {m : MethodId} {args : Array Value} {below : List Frame} {meth : Method} {cd : Code} {A : State → Outcome → Prop} {Z : State} {a0 : Array Value} {h0 : Heap} {n0 : Nat} (hx : p.tables.exec = Jvm.exec) (hZ : Z.Warmed39 s.vm) (hw : ∀ d ∈ tables_1, d.before a0 Z = true) (hby : cd.code = prog_58_method_6_code) (hml : cd.maxLocals = 7) (hown : s.vm.findClass "com/example/frugal_scheduler/frugalscheduler/planners/MinTree" = some m.cls) (a1 b : Addr) (f t : Nat) (bd : Int32) (N : Nat) (gm : Nat → Int32) (Fl : Fld Z h0 a1 "com/example/frugal_scheduler/frugalscheduler/planners/MinTree" "leaves" "I" (.int (Int32.ofNat (own_leaves N)))) (Fm : Fld Z h0 a1 "com/example/frugal_scheduler/frugalscheduler/planners/MinTree" "mins" "[D" (.ref b)) (Vb : own_K own_mkd Z h0 b .double (2 * own_leaves N) gm) :
    ∀ (k n n' : Nat) (hr : own_desc (fun n => own_le bd (gm n)) (own_leaves N) k n = some n') (hn : n < 2 * own_leaves N) {T : State} {locs : List Loc} (X0 : Stand p l e ({ frames := 0, cells := 0, slots := 0, locals := 0 } : Room) s m args below meth cd T locs 0 0) (e0 : T.heap = h0) (N0 : Fr n0 locs)
      (cont : ∀ {T' : State} (_ : Stand p l e ({ frames := 0, cells := 0, slots := 0, locals := 0 } : Room) s m args below meth cd T' locs 0 0) (_ : T'.heap = h0) (_ : own_leaves N ≤ n') (_ : n' < 2 * own_leaves N), own_R p.tables e below A (T'.setTop (mkF m 98 #[.val (.ref a1), .val (.int (Int32.ofNat f)), .val (.int (Int32.ofNat t)), .val (.double (FP.i2d bd)), .second, .val (.int (Int32.ofNat n')), .unset] []))), own_R p.tables e below A (T.setTop (mkF m 57 #[.val (.ref a1), .val (.int (Int32.ofNat f)), .val (.int (Int32.ofNat t)), .val (.double (FP.i2d bd)), .second, .val (.int (Int32.ofNat n)), .unset] [])) := by
  have hlf := own_lf N
  intro k
  induction k with
  | zero =>
    intro n n' hr
    cases hr
  | succ k ih =>
    intro n n' hr hn T locs X0 e0 N0 cont
    rw [own_desc] at hr
    show own_R p.tables e below _ (T.setTop (mkF m 57 #[.val (.ref a1), .val (.int (Int32.ofNat f)), .val (.int (Int32.ofNat t)), .val (.double (FP.i2d bd)), .second, .val (.int (Int32.ofNat n)), .unset] []))
    refine own_by (fun _ kZ => XS.iload X0.here hx rfl (hb hby d5_57) rfl kZ) ?_
    show own_R p.tables e below _ (T.setTop (mkF m 59 #[.val (.ref a1), .val (.int (Int32.ofNat f)), .val (.int (Int32.ofNat t)), .val (.double (FP.i2d bd)), .second, .val (.int (Int32.ofNat n)), .unset] [(.int (Int32.ofNat n))]))
    refine own_by (fun _ kZ => XS.aloadN X0.here hx rfl (hb hby d5_59) rfl rfl kZ) ?_
    show own_R p.tables e below _ (T.setTop (mkF m 60 #[.val (.ref a1), .val (.int (Int32.ofNat f)), .val (.int (Int32.ofNat t)), .val (.double (FP.i2d bd)), .second, .val (.int (Int32.ofNat n)), .unset] [(.ref a1), (.int (Int32.ofNat n))]))
    obtain ⟨T63, X63, e63, st63⟩ := getF X0 hx hZ hown (host := "") (Or.inl (hw _ (List.mem_of_getElem? (i := 10) rfl))) Via.refl e0 Fl (g := (mkF m 60 #[.val (.ref a1), .val (.int (Int32.ofNat f)), .val (.int (Int32.ofNat t)), .val (.double (FP.i2d bd)), .second, .val (.int (Int32.ofNat n)), .unset] [(.ref a1), (.int (Int32.ofNat n))])) rfl rfl (hb hby d5_60)
    refine own_by st63 ?_
    show own_R p.tables e below _ (T63.setTop (mkF m 63 #[.val (.ref a1), .val (.int (Int32.ofNat f)), .val (.int (Int32.ofNat t)), .val (.double (FP.i2d bd)), .second, .val (.int (Int32.ofNat n)), .unset] [(.int (Int32.ofNat (own_leaves N))), (.int (Int32.ofNat n))]))
    by_cases hc : (Int32.ofNat n) < (Int32.ofNat (own_leaves N))
    · skip
      refine own_by (fun _ kZ => XS.icmpNo X63.here hx rfl (hb hby d5_63) rfl (tlt hc).2.1 kZ) ?_
      show own_R p.tables e below _ (T63.setTop (mkF m 66 #[.val (.ref a1), .val (.int (Int32.ofNat f)), .val (.int (Int32.ofNat t)), .val (.double (FP.i2d bd)), .second, .val (.int (Int32.ofNat n)), .unset] []))
      have hl : n < own_leaves N := (own_ltI (by omega) (by omega)).mp hc
      rw [if_pos hl] at hr
      refine own_by (fun _ kZ => XS.aloadN X63.here hx rfl (hb hby d5_66) rfl rfl kZ) ?_
      show own_R p.tables e below _ (T63.setTop (mkF m 67 #[.val (.ref a1), .val (.int (Int32.ofNat f)), .val (.int (Int32.ofNat t)), .val (.double (FP.i2d bd)), .second, .val (.int (Int32.ofNat n)), .unset] [(.ref a1)]))
      obtain ⟨T64, X64, e64, st64⟩ := getF X63 hx hZ hown (host := "") (Or.inl (hw _ (List.mem_of_getElem? (i := 13) rfl))) Via.refl e63 Fm (g := (mkF m 67 #[.val (.ref a1), .val (.int (Int32.ofNat f)), .val (.int (Int32.ofNat t)), .val (.double (FP.i2d bd)), .second, .val (.int (Int32.ofNat n)), .unset] [(.ref a1)])) rfl rfl (hb hby d5_67)
      refine own_by st64 ?_
      show own_R p.tables e below _ (T64.setTop (mkF m 70 #[.val (.ref a1), .val (.int (Int32.ofNat f)), .val (.int (Int32.ofNat t)), .val (.double (FP.i2d bd)), .second, .val (.int (Int32.ofNat n)), .unset] [(.ref b)]))
      refine own_by (fun _ kZ => XS.iconst X64.here hx rfl (hb hby d5_70) kZ) ?_
      show own_R p.tables e below _ (T64.setTop (mkF m 71 #[.val (.ref a1), .val (.int (Int32.ofNat f)), .val (.int (Int32.ofNat t)), .val (.double (FP.i2d bd)), .second, .val (.int (Int32.ofNat n)), .unset] [(.int (2 : Int32)), (.ref b)]))
      refine own_by (fun _ kZ => XS.iload X64.here hx rfl (hb hby d5_71) rfl kZ) ?_
      show own_R p.tables e below _ (T64.setTop (mkF m 73 #[.val (.ref a1), .val (.int (Int32.ofNat f)), .val (.int (Int32.ofNat t)), .val (.double (FP.i2d bd)), .second, .val (.int (Int32.ofNat n)), .unset] [(.int (Int32.ofNat n)), (.int (2 : Int32)), (.ref b)]))
      refine own_by (fun _ kZ => XS.imul X64.here hx rfl (hb hby d5_73) rfl kZ) ?_
      show own_R p.tables e below _ (T64.setTop (mkF m 74 #[.val (.ref a1), .val (.int (Int32.ofNat f)), .val (.int (Int32.ofNat t)), .val (.double (FP.i2d bd)), .second, .val (.int (Int32.ofNat n)), .unset] [(.int ((2 : Int32) * (Int32.ofNat n))), (.ref b)]))
      rw [show ((2 : Int32) * (Int32.ofNat n)) = (Int32.ofNat (2 * n)) from own_mul2 n]
      show own_R p.tables e below _ (T64.setTop (mkF m 74 #[.val (.ref a1), .val (.int (Int32.ofNat f)), .val (.int (Int32.ofNat t)), .val (.double (FP.i2d bd)), .second, .val (.int (Int32.ofNat n)), .unset] [(.int (Int32.ofNat (2 * n))), (.ref b)]))
      obtain ⟨cl65, Ar65, hin65, hat65⟩ := Vb.rd (i := (Int32.ofNat (2 * n))) (p := (2 * n)) (own_clamp (by omega)) (own_nn (by omega)) (by omega)
      refine own_by (fun _ kZ => own_daload X64 hx (j := (Int32.ofNat (2 * n))) (v := (own_mkd (gm (2 * n)))) (by rw [e64]; exact Ar65.1) (State.isArrayOf_alike hZ.alike Ar65.2.1) Ar65.2.2 hin65 hat65 (g := (mkF m 74 #[.val (.ref a1), .val (.int (Int32.ofNat f)), .val (.int (Int32.ofNat t)), .val (.double (FP.i2d bd)), .second, .val (.int (Int32.ofNat n)), .unset] [(.int (Int32.ofNat (2 * n))), (.ref b)])) rfl rfl (hb hby d5_74) _ kZ) ?_
      show own_R p.tables e below _ (T64.setTop (mkF m 75 #[.val (.ref a1), .val (.int (Int32.ofNat f)), .val (.int (Int32.ofNat t)), .val (.double (FP.i2d bd)), .second, .val (.int (Int32.ofNat n)), .unset] [(.double (FP.i2d (gm (2 * n))))]))
      refine own_by (fun _ kZ => own_dloadN X64.here hx rfl (hb hby d5_75) rfl kZ) ?_
      show own_R p.tables e below _ (T64.setTop (mkF m 76 #[.val (.ref a1), .val (.int (Int32.ofNat f)), .val (.int (Int32.ofNat t)), .val (.double (FP.i2d bd)), .second, .val (.int (Int32.ofNat n)), .unset] [(.double (FP.i2d bd)), (.double (FP.i2d (gm (2 * n))))]))
      refine own_by (fun _ kZ => own_dcmp X64.here hx rfl (hb hby d5_76) rfl kZ) ?_
      show own_R p.tables e below _ (T64.setTop (mkF m 77 #[.val (.ref a1), .val (.int (Int32.ofNat f)), .val (.int (Int32.ofNat t)), .val (.double (FP.i2d bd)), .second, .val (.int (Int32.ofNat n)), .unset] [(.int (cmpValue (FP.dcmp (FP.i2d (gm (2 * n))) (FP.i2d bd)) .g))]))
      rw [show (cmpValue (FP.dcmp (FP.i2d (gm (2 * n))) (FP.i2d bd)) .g) = (own_c3 (gm (2 * n)) bd) from own_cmp _ _ _]
      show own_R p.tables e below _ (T64.setTop (mkF m 77 #[.val (.ref a1), .val (.int (Int32.ofNat f)), .val (.int (Int32.ofNat t)), .val (.double (FP.i2d bd)), .second, .val (.int (Int32.ofNat n)), .unset] [(.int (own_c3 (gm (2 * n)) bd))]))
      by_cases hbd : (0 : Int32) < (own_c3 (gm (2 * n)) bd)
      · skip
        have hB : ¬ own_le bd (gm (2 * n)) = true := by simp [own_le, (own_c3_pos _ _).mp hbd]
        rw [if_neg hB] at hr
        refine own_by (fun _ kZ => XS.ifYes X64.here hx rfl (pc0 := 77) (pc' := 87) rfl (hb hby d5_77) rfl ((if0 _ _).trans (tlt hbd).2.2.1) (by decide) (by decide) kZ) ?_
        show own_R p.tables e below _ (T64.setTop (mkF m 87 #[.val (.ref a1), .val (.int (Int32.ofNat f)), .val (.int (Int32.ofNat t)), .val (.double (FP.i2d bd)), .second, .val (.int (Int32.ofNat n)), .unset] []))
        refine own_by (fun _ kZ => XS.iconst X64.here hx rfl (hb hby d5_87) kZ) ?_
        show own_R p.tables e below _ (T64.setTop (mkF m 88 #[.val (.ref a1), .val (.int (Int32.ofNat f)), .val (.int (Int32.ofNat t)), .val (.double (FP.i2d bd)), .second, .val (.int (Int32.ofNat n)), .unset] [(.int (2 : Int32))]))
        refine own_by (fun _ kZ => XS.iload X64.here hx rfl (hb hby d5_88) rfl kZ) ?_
        show own_R p.tables e below _ (T64.setTop (mkF m 90 #[.val (.ref a1), .val (.int (Int32.ofNat f)), .val (.int (Int32.ofNat t)), .val (.double (FP.i2d bd)), .second, .val (.int (Int32.ofNat n)), .unset] [(.int (Int32.ofNat n)), (.int (2 : Int32))]))
        refine own_by (fun _ kZ => XS.imul X64.here hx rfl (hb hby d5_90) rfl kZ) ?_
        show own_R p.tables e below _ (T64.setTop (mkF m 91 #[.val (.ref a1), .val (.int (Int32.ofNat f)), .val (.int (Int32.ofNat t)), .val (.double (FP.i2d bd)), .second, .val (.int (Int32.ofNat n)), .unset] [(.int ((2 : Int32) * (Int32.ofNat n)))]))
        refine own_by (fun _ kZ => XS.iconst X64.here hx rfl (hb hby d5_91) kZ) ?_
        show own_R p.tables e below _ (T64.setTop (mkF m 92 #[.val (.ref a1), .val (.int (Int32.ofNat f)), .val (.int (Int32.ofNat t)), .val (.double (FP.i2d bd)), .second, .val (.int (Int32.ofNat n)), .unset] [(.int (1 : Int32)), (.int ((2 : Int32) * (Int32.ofNat n)))]))
        refine own_by (fun _ kZ => XS.iadd X64.here hx rfl (hb hby d5_92) rfl kZ) ?_
        show own_R p.tables e below _ (T64.setTop (mkF m 93 #[.val (.ref a1), .val (.int (Int32.ofNat f)), .val (.int (Int32.ofNat t)), .val (.double (FP.i2d bd)), .second, .val (.int (Int32.ofNat n)), .unset] [(.int (((2 : Int32) * (Int32.ofNat n)) + (1 : Int32)))]))
        rw [show (((2 : Int32) * (Int32.ofNat n)) + (1 : Int32)) = (Int32.ofNat (2 * n + 1)) from by rw [own_mul2, own_add1]]
        show own_R p.tables e below _ (T64.setTop (mkF m 93 #[.val (.ref a1), .val (.int (Int32.ofNat f)), .val (.int (Int32.ofNat t)), .val (.double (FP.i2d bd)), .second, .val (.int (Int32.ofNat n)), .unset] [(.int (Int32.ofNat (2 * n + 1)))]))
        refine own_by (fun _ kZ => XS.istore X64.here hx rfl (hb hby d5_93) rfl (l' := #[.val (.ref a1), .val (.int (Int32.ofNat f)), .val (.int (Int32.ofNat t)), .val (.double (FP.i2d bd)), .second, .val (.int (Int32.ofNat (2 * n + 1))), .unset]) rfl kZ) ?_
        show own_R p.tables e below _ (T64.setTop (mkF m 95 #[.val (.ref a1), .val (.int (Int32.ofNat f)), .val (.int (Int32.ofNat t)), .val (.double (FP.i2d bd)), .second, .val (.int (Int32.ofNat (2 * n + 1))), .unset] []))
        refine own_by (fun _ kZ => XS.goto X64.here hx rfl (pc0 := 95) (pc' := 57) rfl (hb hby d5_95) (by decide) (by decide) kZ) ?_
        show own_R p.tables e below _ (T64.setTop (mkF m 57 #[.val (.ref a1), .val (.int (Int32.ofNat f)), .val (.int (Int32.ofNat t)), .val (.double (FP.i2d bd)), .second, .val (.int (Int32.ofNat (2 * n + 1))), .unset] []))
        exact ih (2 * n + 1) n' hr (by omega) X64 e64 N0 cont
      · skip
        have hB : own_le bd (gm (2 * n)) = true := by simp only [own_le, decide_eq_true_eq]; exact fun q => hbd ((own_c3_pos _ _).mpr q)
        rw [if_pos hB] at hr
        refine own_by (fun _ kZ => XS.ifNo X64.here hx rfl (hb hby d5_77) rfl ((if0 _ _).trans (flt hbd).2.2.1) kZ) ?_
        show own_R p.tables e below _ (T64.setTop (mkF m 80 #[.val (.ref a1), .val (.int (Int32.ofNat f)), .val (.int (Int32.ofNat t)), .val (.double (FP.i2d bd)), .second, .val (.int (Int32.ofNat n)), .unset] []))
        refine own_by (fun _ kZ => XS.iconst X64.here hx rfl (hb hby d5_80) kZ) ?_
        show own_R p.tables e below _ (T64.setTop (mkF m 81 #[.val (.ref a1), .val (.int (Int32.ofNat f)), .val (.int (Int32.ofNat t)), .val (.double (FP.i2d bd)), .second, .val (.int (Int32.ofNat n)), .unset] [(.int (2 : Int32))]))
        refine own_by (fun _ kZ => XS.iload X64.here hx rfl (hb hby d5_81) rfl kZ) ?_
        show own_R p.tables e below _ (T64.setTop (mkF m 83 #[.val (.ref a1), .val (.int (Int32.ofNat f)), .val (.int (Int32.ofNat t)), .val (.double (FP.i2d bd)), .second, .val (.int (Int32.ofNat n)), .unset] [(.int (Int32.ofNat n)), (.int (2 : Int32))]))
        refine own_by (fun _ kZ => XS.imul X64.here hx rfl (hb hby d5_83) rfl kZ) ?_
        show own_R p.tables e below _ (T64.setTop (mkF m 84 #[.val (.ref a1), .val (.int (Int32.ofNat f)), .val (.int (Int32.ofNat t)), .val (.double (FP.i2d bd)), .second, .val (.int (Int32.ofNat n)), .unset] [(.int ((2 : Int32) * (Int32.ofNat n)))]))
        refine own_by (fun _ kZ => XS.goto X64.here hx rfl (pc0 := 84) (pc' := 93) rfl (hb hby d5_84) (by decide) (by decide) kZ) ?_
        show own_R p.tables e below _ (T64.setTop (mkF m 93 #[.val (.ref a1), .val (.int (Int32.ofNat f)), .val (.int (Int32.ofNat t)), .val (.double (FP.i2d bd)), .second, .val (.int (Int32.ofNat n)), .unset] [(.int ((2 : Int32) * (Int32.ofNat n)))]))
        rw [show ((2 : Int32) * (Int32.ofNat n)) = (Int32.ofNat (2 * n)) from own_mul2 n]
        show own_R p.tables e below _ (T64.setTop (mkF m 93 #[.val (.ref a1), .val (.int (Int32.ofNat f)), .val (.int (Int32.ofNat t)), .val (.double (FP.i2d bd)), .second, .val (.int (Int32.ofNat n)), .unset] [(.int (Int32.ofNat (2 * n)))]))
        refine own_by (fun _ kZ => XS.istore X64.here hx rfl (hb hby d5_93) rfl (l' := #[.val (.ref a1), .val (.int (Int32.ofNat f)), .val (.int (Int32.ofNat t)), .val (.double (FP.i2d bd)), .second, .val (.int (Int32.ofNat (2 * n))), .unset]) rfl kZ) ?_
        show own_R p.tables e below _ (T64.setTop (mkF m 95 #[.val (.ref a1), .val (.int (Int32.ofNat f)), .val (.int (Int32.ofNat t)), .val (.double (FP.i2d bd)), .second, .val (.int (Int32.ofNat (2 * n))), .unset] []))
        refine own_by (fun _ kZ => XS.goto X64.here hx rfl (pc0 := 95) (pc' := 57) rfl (hb hby d5_95) (by decide) (by decide) kZ) ?_
        show own_R p.tables e below _ (T64.setTop (mkF m 57 #[.val (.ref a1), .val (.int (Int32.ofNat f)), .val (.int (Int32.ofNat t)), .val (.double (FP.i2d bd)), .second, .val (.int (Int32.ofNat (2 * n))), .unset] []))
        exact ih (2 * n) n' hr (by omega) X64 e64 N0 cont
    · skip
      refine own_by (fun _ kZ => XS.icmpYes X63.here hx rfl (pc0 := 63) (pc' := 98) rfl (hb hby d5_63) rfl (flt hc).2.1 (by decide) (by decide) kZ) ?_
      show own_R p.tables e below _ (T63.setTop (mkF m 98 #[.val (.ref a1), .val (.int (Int32.ofNat f)), .val (.int (Int32.ofNat t)), .val (.double (FP.i2d bd)), .second, .val (.int (Int32.ofNat n)), .unset] []))
      have hl : ¬ n < own_leaves N := fun q => hc ((own_ltI (by omega) (by omega)).mpr q)
      rw [if_neg hl] at hr
      cases hr
      exact cont X63 e63 (by omega) hn
theorem ef_5 (m : MethodId) (a1 : Addr) (p2 : Int32) (p3 : Int32) (x4 : UInt64) : entryFrame m #[(.ref a1), (.int p2), (.int p3), (.double x4)] 7 = mkF m 0 #[.val (.ref a1), .val (.int p2), .val (.int p3), .val (.double x4), .second, .unset, .unset] [] := by first | (simp [entryFrame, mkF, argsToLocals, Value.category]; done) | rfl
def Q5 (Z : State) (a1 : Addr) (p2 : Int32) (p3 : Int32) (x4 : UInt64) (b : Addr) (N : Nat) (gm : Nat → Int32) (f t : Nat) (bd r : Int32) (h0 : Heap) (n0 : Nat) (v : Option Value) (h : Heap) (L : List Loc) : Prop := v = some (.int r) ∧ Fr n0 L ∧ h = h0
set_option maxRecDepth 65536 in
set_option maxHeartbeats 40000000 in
theorem rm5 (l : Launch) (Z : State) (a0 : Array Value) (hw : ∀ d ∈ tables_1, d.before a0 Z = true) (ws : List Jvm.Cond) (a1 : Addr) (p2 : Int32) (p3 : Int32) (x4 : UInt64) (b : Addr) (N : Nat) (gm : Nat → Int32) (f t : Nat) (bd r : Int32) (h0 : Heap) (n0 : Nat) (Z0 : n0 ≤ h0.size) (W : own_MT Z h0 n0 a1 b N gm) (hN5 : N ≤ 5) (hp2 : p2 = Int32.ofNat f) (hp3 : p3 = Int32.ofNat t) (hx4 : x4 = FP.i2d bd) (hf : f ≤ N) (ht : t ≤ N) (hr : own_fam (fun n => own_le bd (gm n)) (own_leaves N) f t = some r) :
    MetFree l (⟨"com/example/frugal_scheduler/frugalscheduler/planners/MinTree", "firstAtMost", "(IID)I"⟩ : MethodName) (head1 (Jvm.Cond.code (⟨"com/example/frugal_scheduler/frugalscheduler/planners/MinTree", "firstAtMost", "(IID)I"⟩ : MethodName) prog_58_method_6_code 7 (some .int) :: ws) ({ frames := 0, cells := 0, slots := 0, locals := 0 } : Room)) (fun a U => a = #[(.ref a1), (.int p2), (.int p3), (.double x4)] ∧ Z.Warmed39 U.vm ∧ U.heap = h0) (fun _ _ _ _ _ => True) (fun _ U o U' => ∃ v L, o = .returned v ∧ Q5 Z a1 p2 p3 x4 b N gm f t bd r h0 n0 v U'.heap L ∧ FrameEnd U o U' L ({ frames := 0, cells := 0, slots := 0, locals := 0 } : Room).cells ({ frames := 0, cells := 0, slots := 0, locals := 0 } : Room).slots) := by
  refine MetFree.of_bodySF (plainFor_of_name pn_5) hisR ?_
  intro p e s m args below meth cd s₁ Bd hml0 hP hK
  obtain ⟨rfl, hZ, hh⟩ := hP
  have hx := Bd.exec
  have hby := Bd.bytes
  have hml : cd.maxLocals = 7 := hml0
  have hown : s.vm.findClass "com/example/frugal_scheduler/frugalscheduler/planners/MinTree" = some m.cls := findClass_of_methodNamed Bd.named
  have hnm := (name_of_methodNamed Bd.named Bd.method).1
  have X0 : Stand p l e ({ frames := 0, cells := 0, slots := 0, locals := 0 } : Room) s m #[(.ref a1), (.int p2), (.int p3), (.double x4)] below meth cd s₁ [] 0 0 := Stand.of_body Bd
  have e0 : s₁.heap = h0 := by rw [← hh, Bd.state]; rfl
  have N0 := Fr.nil n0
  show own_R p.tables e below _ (s₁.setTop (entryFrame m #[(.ref a1), (.int p2), (.int p3), (.double x4)] 7))
  refine own_by (fun t kZ => castTop (ef_5 m a1 p2 p3 x4) kZ) ?_
  show own_R p.tables e below _ (s₁.setTop (mkF m 0 #[.val (.ref a1), .val (.int p2), .val (.int p3), .val (.double x4), .second, .unset, .unset] []))
  obtain ⟨Ex, Fl, Fm, Vb, n1, g1, g2⟩ := W
  have hlf := own_lf N
  have hlN := own_lfN N hN5
  subst hp2 hp3 hx4
  unfold own_fam at hr
  show own_R p.tables e below _ (s₁.setTop (mkF m 0 #[.val (.ref a1), .val (.int (Int32.ofNat f)), .val (.int (Int32.ofNat t)), .val (.double (FP.i2d bd)), .second, .unset, .unset] []))
  refine own_by (fun _ kZ => XS.iloadN X0.here hx rfl (hb hby d5_0) rfl kZ) ?_
  show own_R p.tables e below _ (s₁.setTop (mkF m 1 #[.val (.ref a1), .val (.int (Int32.ofNat f)), .val (.int (Int32.ofNat t)), .val (.double (FP.i2d bd)), .second, .unset, .unset] [(.int (Int32.ofNat f))]))
  refine own_by (fun _ kZ => XS.iloadN X0.here hx rfl (hb hby d5_1) rfl kZ) ?_
  show own_R p.tables e below _ (s₁.setTop (mkF m 2 #[.val (.ref a1), .val (.int (Int32.ofNat f)), .val (.int (Int32.ofNat t)), .val (.double (FP.i2d bd)), .second, .unset, .unset] [(.int (Int32.ofNat t)), (.int (Int32.ofNat f))]))
  by_cases hc : (Int32.ofNat f) < (Int32.ofNat t)
  · skip
    refine own_by (fun _ kZ => XS.icmpYes X0.here hx rfl (pc0 := 2) (pc' := 7) rfl (hb hby d5_2) rfl (tlt hc).1 (by decide) (by decide) kZ) ?_
    show own_R p.tables e below _ (s₁.setTop (mkF m 7 #[.val (.ref a1), .val (.int (Int32.ofNat f)), .val (.int (Int32.ofNat t)), .val (.double (FP.i2d bd)), .second, .unset, .unset] []))
    have hft : f < t := (own_ltI (by omega) (by omega)).mp hc
    rw [if_pos hft] at hr
    refine own_by (fun _ kZ => XS.aloadN X0.here hx rfl (hb hby d5_7) rfl rfl kZ) ?_
    show own_R p.tables e below _ (s₁.setTop (mkF m 8 #[.val (.ref a1), .val (.int (Int32.ofNat f)), .val (.int (Int32.ofNat t)), .val (.double (FP.i2d bd)), .second, .unset, .unset] [(.ref a1)]))
    obtain ⟨T66, X66, e66, st66⟩ := getF X0 hx hZ hown (host := "") (Or.inl (hw _ (List.mem_of_getElem? (i := 10) rfl))) Via.refl e0 Fl (g := (mkF m 8 #[.val (.ref a1), .val (.int (Int32.ofNat f)), .val (.int (Int32.ofNat t)), .val (.double (FP.i2d bd)), .second, .unset, .unset] [(.ref a1)])) rfl rfl (hb hby d5_8)
    refine own_by st66 ?_
    show own_R p.tables e below _ (T66.setTop (mkF m 11 #[.val (.ref a1), .val (.int (Int32.ofNat f)), .val (.int (Int32.ofNat t)), .val (.double (FP.i2d bd)), .second, .unset, .unset] [(.int (Int32.ofNat (own_leaves N)))]))
    refine own_by (fun _ kZ => XS.iloadN X66.here hx rfl (hb hby d5_11) rfl kZ) ?_
    show own_R p.tables e below _ (T66.setTop (mkF m 12 #[.val (.ref a1), .val (.int (Int32.ofNat f)), .val (.int (Int32.ofNat t)), .val (.double (FP.i2d bd)), .second, .unset, .unset] [(.int (Int32.ofNat f)), (.int (Int32.ofNat (own_leaves N)))]))
    refine own_by (fun _ kZ => XS.iadd X66.here hx rfl (hb hby d5_12) rfl kZ) ?_
    show own_R p.tables e below _ (T66.setTop (mkF m 13 #[.val (.ref a1), .val (.int (Int32.ofNat f)), .val (.int (Int32.ofNat t)), .val (.double (FP.i2d bd)), .second, .unset, .unset] [(.int ((Int32.ofNat (own_leaves N)) + (Int32.ofNat f)))]))
    rw [show ((Int32.ofNat (own_leaves N)) + (Int32.ofNat f)) = (Int32.ofNat (own_leaves N + f)) from own_addI _ _]
    show own_R p.tables e below _ (T66.setTop (mkF m 13 #[.val (.ref a1), .val (.int (Int32.ofNat f)), .val (.int (Int32.ofNat t)), .val (.double (FP.i2d bd)), .second, .unset, .unset] [(.int (Int32.ofNat (own_leaves N + f)))]))
    refine own_by (fun _ kZ => XS.istore X66.here hx rfl (hb hby d5_13) rfl (l' := #[.val (.ref a1), .val (.int (Int32.ofNat f)), .val (.int (Int32.ofNat t)), .val (.double (FP.i2d bd)), .second, .val (.int (Int32.ofNat (own_leaves N + f))), .unset]) rfl kZ) ?_
    show own_R p.tables e below _ (T66.setTop (mkF m 15 #[.val (.ref a1), .val (.int (Int32.ofNat f)), .val (.int (Int32.ofNat t)), .val (.double (FP.i2d bd)), .second, .val (.int (Int32.ofNat (own_leaves N + f))), .unset] []))
    cases hq : own_climb (fun n => own_le bd (gm n)) 9 (own_leaves N + f) with
    | none => rw [hq] at hr; cases hr
    | some q =>
      rw [hq] at hr
      refine lpC hx hZ hw hby hml hown a1 b f t bd N gm Fl Fm Vb 9 (own_leaves N + f) q hq (by omega) X66 e66 N0 ?_ ?_
      · skip
        intro T8 X8 e8 hq8
        subst hq8
        dsimp only at hr
        cases hr
        show own_R p.tables e below _ (T8.setTop (mkF m 49 #[.val (.ref a1), .val (.int (Int32.ofNat f)), .val (.int (Int32.ofNat t)), .val (.double (FP.i2d bd)), .second, .val (.int (Int32.ofNat 0)), .unset] []))
        refine own_by (fun _ kZ => XS.iconst X8.here hx rfl (hb hby d5_49) kZ) ?_
        show own_R p.tables e below _ (T8.setTop (mkF m 50 #[.val (.ref a1), .val (.int (Int32.ofNat f)), .val (.int (Int32.ofNat t)), .val (.double (FP.i2d bd)), .second, .val (.int (Int32.ofNat 0)), .unset] [(.int (-1 : Int32))]))
        obtain ⟨fs, hr, hrun, hended, hW, hsame⟩ := X8.leave (v := some (.int (-1 : Int32))) (fun h => by rw [Bd.returns] at h; cases h)
        refine own_end ⟨_, _, ?_, hrun, hended, _, _, rfl, ?_, ⟨_, rfl⟩, hW, hsame.mono (by decide) (by decide)⟩
        · exact own_retI X8 hx Bd.returns (hb hby d5_50) hr
        · show Q5 Z a1 (Int32.ofNat f) (Int32.ofNat t) (FP.i2d bd) b N gm f t bd (-1) h0 n0 _ T8.heap _
          rw [e8]
          exact ⟨rfl, N0, rfl⟩
      · skip
        intro T8 X8 e8 n8 hq8 hn8
        subst hq8
        dsimp only at hr
        cases hd : own_desc (fun n => own_le bd (gm n)) (own_leaves N) 5 n8 with
        | none => rw [hd] at hr; cases hr
        | some n9 =>
          rw [hd] at hr
          dsimp only at hr
          refine lpD hx hZ hw hby hml hown a1 b f t bd N gm Fl Fm Vb 5 n8 n9 hd hn8 X8 e8 N0 ?_
          intro T9 X9 e9 hl9 hn9
          show own_R p.tables e below _ (T9.setTop (mkF m 98 #[.val (.ref a1), .val (.int (Int32.ofNat f)), .val (.int (Int32.ofNat t)), .val (.double (FP.i2d bd)), .second, .val (.int (Int32.ofNat n9)), .unset] []))
          refine own_by (fun _ kZ => XS.iload X9.here hx rfl (hb hby d5_98) rfl kZ) ?_
          show own_R p.tables e below _ (T9.setTop (mkF m 100 #[.val (.ref a1), .val (.int (Int32.ofNat f)), .val (.int (Int32.ofNat t)), .val (.double (FP.i2d bd)), .second, .val (.int (Int32.ofNat n9)), .unset] [(.int (Int32.ofNat n9))]))
          refine own_by (fun _ kZ => XS.aloadN X9.here hx rfl (hb hby d5_100) rfl rfl kZ) ?_
          show own_R p.tables e below _ (T9.setTop (mkF m 101 #[.val (.ref a1), .val (.int (Int32.ofNat f)), .val (.int (Int32.ofNat t)), .val (.double (FP.i2d bd)), .second, .val (.int (Int32.ofNat n9)), .unset] [(.ref a1), (.int (Int32.ofNat n9))]))
          obtain ⟨T67, X67, e67, st67⟩ := getF X9 hx hZ hown (host := "") (Or.inl (hw _ (List.mem_of_getElem? (i := 10) rfl))) Via.refl e9 Fl (g := (mkF m 101 #[.val (.ref a1), .val (.int (Int32.ofNat f)), .val (.int (Int32.ofNat t)), .val (.double (FP.i2d bd)), .second, .val (.int (Int32.ofNat n9)), .unset] [(.ref a1), (.int (Int32.ofNat n9))])) rfl rfl (hb hby d5_101)
          refine own_by st67 ?_
          show own_R p.tables e below _ (T67.setTop (mkF m 104 #[.val (.ref a1), .val (.int (Int32.ofNat f)), .val (.int (Int32.ofNat t)), .val (.double (FP.i2d bd)), .second, .val (.int (Int32.ofNat n9)), .unset] [(.int (Int32.ofNat (own_leaves N))), (.int (Int32.ofNat n9))]))
          refine own_by (fun _ kZ => XS.isub X67.here hx rfl (hb hby d5_104) rfl kZ) ?_
          show own_R p.tables e below _ (T67.setTop (mkF m 105 #[.val (.ref a1), .val (.int (Int32.ofNat f)), .val (.int (Int32.ofNat t)), .val (.double (FP.i2d bd)), .second, .val (.int (Int32.ofNat n9)), .unset] [(.int ((Int32.ofNat n9) - (Int32.ofNat (own_leaves N))))]))
          rw [show ((Int32.ofNat n9) - (Int32.ofNat (own_leaves N))) = (Int32.ofNat (n9 - own_leaves N)) from own_subI _ _ hl9]
          show own_R p.tables e below _ (T67.setTop (mkF m 105 #[.val (.ref a1), .val (.int (Int32.ofNat f)), .val (.int (Int32.ofNat t)), .val (.double (FP.i2d bd)), .second, .val (.int (Int32.ofNat n9)), .unset] [(.int (Int32.ofNat (n9 - own_leaves N)))]))
          refine own_by (fun _ kZ => XS.istore X67.here hx rfl (hb hby d5_105) rfl (l' := #[.val (.ref a1), .val (.int (Int32.ofNat f)), .val (.int (Int32.ofNat t)), .val (.double (FP.i2d bd)), .second, .val (.int (Int32.ofNat n9)), .val (.int (Int32.ofNat (n9 - own_leaves N)))]) rfl kZ) ?_
          show own_R p.tables e below _ (T67.setTop (mkF m 107 #[.val (.ref a1), .val (.int (Int32.ofNat f)), .val (.int (Int32.ofNat t)), .val (.double (FP.i2d bd)), .second, .val (.int (Int32.ofNat n9)), .val (.int (Int32.ofNat (n9 - own_leaves N)))] []))
          refine own_by (fun _ kZ => XS.iload X67.here hx rfl (hb hby d5_107) rfl kZ) ?_
          show own_R p.tables e below _ (T67.setTop (mkF m 109 #[.val (.ref a1), .val (.int (Int32.ofNat f)), .val (.int (Int32.ofNat t)), .val (.double (FP.i2d bd)), .second, .val (.int (Int32.ofNat n9)), .val (.int (Int32.ofNat (n9 - own_leaves N)))] [(.int (Int32.ofNat (n9 - own_leaves N)))]))
          refine own_by (fun _ kZ => XS.iloadN X67.here hx rfl (hb hby d5_109) rfl kZ) ?_
          show own_R p.tables e below _ (T67.setTop (mkF m 110 #[.val (.ref a1), .val (.int (Int32.ofNat f)), .val (.int (Int32.ofNat t)), .val (.double (FP.i2d bd)), .second, .val (.int (Int32.ofNat n9)), .val (.int (Int32.ofNat (n9 - own_leaves N)))] [(.int (Int32.ofNat t)), (.int (Int32.ofNat (n9 - own_leaves N)))]))
          by_cases ht9 : (Int32.ofNat (n9 - own_leaves N)) < (Int32.ofNat t)
          · skip
            refine own_by (fun _ kZ => XS.icmpNo X67.here hx rfl (hb hby d5_110) rfl (tlt ht9).2.1 kZ) ?_
            show own_R p.tables e below _ (T67.setTop (mkF m 113 #[.val (.ref a1), .val (.int (Int32.ofNat f)), .val (.int (Int32.ofNat t)), .val (.double (FP.i2d bd)), .second, .val (.int (Int32.ofNat n9)), .val (.int (Int32.ofNat (n9 - own_leaves N)))] []))
            rw [if_pos ((own_ltI (by omega) (by omega)).mp ht9)] at hr
            cases hr
            refine own_by (fun _ kZ => XS.iload X67.here hx rfl (hb hby d5_113) rfl kZ) ?_
            show own_R p.tables e below _ (T67.setTop (mkF m 115 #[.val (.ref a1), .val (.int (Int32.ofNat f)), .val (.int (Int32.ofNat t)), .val (.double (FP.i2d bd)), .second, .val (.int (Int32.ofNat n9)), .val (.int (Int32.ofNat (n9 - own_leaves N)))] [(.int (Int32.ofNat (n9 - own_leaves N)))]))
            refine own_by (fun _ kZ => XS.goto X67.here hx rfl (pc0 := 115) (pc' := 119) rfl (hb hby d5_115) (by decide) (by decide) kZ) ?_
            show own_R p.tables e below _ (T67.setTop (mkF m 119 #[.val (.ref a1), .val (.int (Int32.ofNat f)), .val (.int (Int32.ofNat t)), .val (.double (FP.i2d bd)), .second, .val (.int (Int32.ofNat n9)), .val (.int (Int32.ofNat (n9 - own_leaves N)))] [(.int (Int32.ofNat (n9 - own_leaves N)))]))
            obtain ⟨fs, hr, hrun, hended, hW, hsame⟩ := X67.leave (v := some (.int (Int32.ofNat (n9 - own_leaves N)))) (fun h => by rw [Bd.returns] at h; cases h)
            refine own_end ⟨_, _, ?_, hrun, hended, _, _, rfl, ?_, ⟨_, rfl⟩, hW, hsame.mono (by decide) (by decide)⟩
            · exact own_retI X67 hx Bd.returns (hb hby d5_119) hr
            · show Q5 Z a1 (Int32.ofNat f) (Int32.ofNat t) (FP.i2d bd) b N gm f t bd (Int32.ofNat (n9 - own_leaves N)) h0 n0 _ T67.heap _
              rw [e67]
              exact ⟨rfl, N0, rfl⟩
          · skip
            refine own_by (fun _ kZ => XS.icmpYes X67.here hx rfl (pc0 := 110) (pc' := 118) rfl (hb hby d5_110) rfl (flt ht9).2.1 (by decide) (by decide) kZ) ?_
            show own_R p.tables e below _ (T67.setTop (mkF m 118 #[.val (.ref a1), .val (.int (Int32.ofNat f)), .val (.int (Int32.ofNat t)), .val (.double (FP.i2d bd)), .second, .val (.int (Int32.ofNat n9)), .val (.int (Int32.ofNat (n9 - own_leaves N)))] []))
            rw [if_neg (fun q => ht9 ((own_ltI (by omega) (by omega)).mpr q))] at hr
            cases hr
            refine own_by (fun _ kZ => XS.iconst X67.here hx rfl (hb hby d5_118) kZ) ?_
            show own_R p.tables e below _ (T67.setTop (mkF m 119 #[.val (.ref a1), .val (.int (Int32.ofNat f)), .val (.int (Int32.ofNat t)), .val (.double (FP.i2d bd)), .second, .val (.int (Int32.ofNat n9)), .val (.int (Int32.ofNat (n9 - own_leaves N)))] [(.int (-1 : Int32))]))
            obtain ⟨fs, hr, hrun, hended, hW, hsame⟩ := X67.leave (v := some (.int (-1 : Int32))) (fun h => by rw [Bd.returns] at h; cases h)
            refine own_end ⟨_, _, ?_, hrun, hended, _, _, rfl, ?_, ⟨_, rfl⟩, hW, hsame.mono (by decide) (by decide)⟩
            · exact own_retI X67 hx Bd.returns (hb hby d5_119) hr
            · show Q5 Z a1 (Int32.ofNat f) (Int32.ofNat t) (FP.i2d bd) b N gm f t bd (-1) h0 n0 _ T67.heap _
              rw [e67]
              exact ⟨rfl, N0, rfl⟩
  · skip
    refine own_by (fun _ kZ => XS.icmpNo X0.here hx rfl (hb hby d5_2) rfl (flt hc).1 kZ) ?_
    show own_R p.tables e below _ (s₁.setTop (mkF m 5 #[.val (.ref a1), .val (.int (Int32.ofNat f)), .val (.int (Int32.ofNat t)), .val (.double (FP.i2d bd)), .second, .unset, .unset] []))
    have hft : ¬ f < t := fun q => hc ((own_ltI (by omega) (by omega)).mpr q)
    rw [if_neg hft] at hr
    cases hr
    refine own_by (fun _ kZ => XS.iconst X0.here hx rfl (hb hby d5_5) kZ) ?_
    show own_R p.tables e below _ (s₁.setTop (mkF m 6 #[.val (.ref a1), .val (.int (Int32.ofNat f)), .val (.int (Int32.ofNat t)), .val (.double (FP.i2d bd)), .second, .unset, .unset] [(.int (-1 : Int32))]))
    obtain ⟨fs, hr, hrun, hended, hW, hsame⟩ := X0.leave (v := some (.int (-1 : Int32))) (fun h => by rw [Bd.returns] at h; cases h)
    refine own_end ⟨_, _, ?_, hrun, hended, _, _, rfl, ?_, ⟨_, rfl⟩, hW, hsame.mono (by decide) (by decide)⟩
    · exact own_retI X0 hx Bd.returns (hb hby d5_6) hr
    · show Q5 Z a1 (Int32.ofNat f) (Int32.ofNat t) (FP.i2d bd) b N gm f t bd (-1) h0 n0 _ s₁.heap _
      rw [e0]
      exact ⟨rfl, N0, rfl⟩
theorem ef_6 (m : MethodId) (p1 : Int32) (p2 : Int32) (p3 : Int32) (p4 : Int32) (x5 : UInt64) : entryFrame m #[(.int p1), (.int p2), (.int p3), (.int p4), (.double x5)] 6 = mkF m 0 #[.val (.int p1), .val (.int p2), .val (.int p3), .val (.int p4), .val (.double x5), .second] [] := by first | (simp [entryFrame, mkF, argsToLocals, Value.category]; done) | rfl
def Q6 (Z : State) (p1 : Int32) (p2 : Int32) (p3 : Int32) (p4 : Int32) (x5 : UInt64) (bd : Int32) (h0 : Heap) (n0 : Nat) (v : Option Value) (h : Heap) (L : List Loc) : Prop := v = some (.int (own_hit p1 p2 p3 p4 bd)) ∧ Fr n0 L ∧ h = h0
set_option maxRecDepth 65536 in
set_option maxHeartbeats 40000000 in
theorem rm6 (l : Launch) (Z : State) (a0 : Array Value) (hw : ∀ d ∈ tables_1, d.before a0 Z = true) (ws : List Jvm.Cond) (p1 : Int32) (p2 : Int32) (p3 : Int32) (p4 : Int32) (x5 : UInt64) (bd : Int32) (h0 : Heap) (n0 : Nat) (Z0 : n0 ≤ h0.size) (hx5 : x5 = FP.i2d bd) :
    MetFree l (⟨"com/example/frugal_scheduler/frugalscheduler/planners/MinTreeFirstAtMostPinLaw", "hit", "(IIIID)Z"⟩ : MethodName) (head1 (Jvm.Cond.code (⟨"com/example/frugal_scheduler/frugalscheduler/planners/MinTreeFirstAtMostPinLaw", "hit", "(IIIID)Z"⟩ : MethodName) method_3_code 6 (some .boolean) :: ws) ({ frames := 0, cells := 0, slots := 0, locals := 0 } : Room)) (fun a U => a = #[(.int p1), (.int p2), (.int p3), (.int p4), (.double x5)] ∧ Z.Warmed39 U.vm ∧ U.heap = h0) (fun _ _ _ _ _ => True) (fun _ U o U' => ∃ v L, o = .returned v ∧ Q6 Z p1 p2 p3 p4 x5 bd h0 n0 v U'.heap L ∧ FrameEnd U o U' L ({ frames := 0, cells := 0, slots := 0, locals := 0 } : Room).cells ({ frames := 0, cells := 0, slots := 0, locals := 0 } : Room).slots) := by
  refine MetFree.of_bodySF (plainFor_of_name pn_6) hisR ?_
  intro p e s m args below meth cd s₁ Bd hml0 hP hK
  obtain ⟨rfl, hZ, hh⟩ := hP
  have hx := Bd.exec
  have hby := Bd.bytes
  have hml : cd.maxLocals = 6 := hml0
  have hown : s.vm.findClass "com/example/frugal_scheduler/frugalscheduler/planners/MinTreeFirstAtMostPinLaw" = some m.cls := findClass_of_methodNamed Bd.named
  have hnm := (name_of_methodNamed Bd.named Bd.method).1
  have X0 : Stand p l e ({ frames := 0, cells := 0, slots := 0, locals := 0 } : Room) s m #[(.int p1), (.int p2), (.int p3), (.int p4), (.double x5)] below meth cd s₁ [] 0 0 := Stand.of_body Bd
  have e0 : s₁.heap = h0 := by rw [← hh, Bd.state]; rfl
  have N0 := Fr.nil n0
  show own_R p.tables e below _ (s₁.setTop (entryFrame m #[(.int p1), (.int p2), (.int p3), (.int p4), (.double x5)] 6))
  refine own_by (fun t kZ => castTop (ef_6 m p1 p2 p3 p4 x5) kZ) ?_
  show own_R p.tables e below _ (s₁.setTop (mkF m 0 #[.val (.int p1), .val (.int p2), .val (.int p3), .val (.int p4), .val (.double x5), .second] []))
  subst hx5
  show own_R p.tables e below _ (s₁.setTop (mkF m 0 #[.val (.int p1), .val (.int p2), .val (.int p3), .val (.int p4), .val (.double (FP.i2d bd)), .second] []))
  refine own_by (fun _ kZ => XS.iloadN X0.here hx rfl (hb hby d6_0) rfl kZ) ?_
  show own_R p.tables e below _ (s₁.setTop (mkF m 1 #[.val (.int p1), .val (.int p2), .val (.int p3), .val (.int p4), .val (.double (FP.i2d bd)), .second] [(.int p3)]))
  refine own_by (fun _ kZ => XS.iloadN X0.here hx rfl (hb hby d6_1) rfl kZ) ?_
  show own_R p.tables e below _ (s₁.setTop (mkF m 2 #[.val (.int p1), .val (.int p2), .val (.int p3), .val (.int p4), .val (.double (FP.i2d bd)), .second] [(.int p1), (.int p3)]))
  obtain ⟨r, h_r⟩ : ∃ z : Int32, z = (if p1 < p3 then (0 : Int32) else (if p1 < p4 then (if (0 : Int32) < (cmpValue (FP.dcmp (FP.i2d p2) (FP.i2d bd)) .g) then (0 : Int32) else (1 : Int32)) else (0 : Int32))) := ⟨_, rfl⟩
  refine own_by (S' := s₁.setTop (mkF m 23 #[.val (.int p1), .val (.int p2), .val (.int p3), .val (.int p4), .val (.double (FP.i2d bd)), .second] [(.int r)])) (fun _ kZ => ?_) ?_
  · skip
    show Steps p.tables e below (s₁.setTop (mkF m 2 #[.val (.int p1), .val (.int p2), .val (.int p3), .val (.int p4), .val (.double (FP.i2d bd)), .second] [(.int p1), (.int p3)])) _
    by_cases hd2 : p1 < p3
    · skip
      refine XS.icmpYes X0.here hx rfl (pc0 := 2) (pc' := 22) rfl (hb hby d6_2) rfl (tlt hd2).2.2.1 (by decide) (by decide) ?_
      show Steps p.tables e below (s₁.setTop (mkF m 22 #[.val (.int p1), .val (.int p2), .val (.int p3), .val (.int p4), .val (.double (FP.i2d bd)), .second] [])) _
      refine XS.iconst X0.here hx rfl (hb hby d6_22) ?_
      show Steps p.tables e below (s₁.setTop (mkF m 23 #[.val (.int p1), .val (.int p2), .val (.int p3), .val (.int p4), .val (.double (FP.i2d bd)), .second] [(.int (0 : Int32))])) _
      rw [if_pos hd2] at h_r
      subst h_r
      exact kZ
    · skip
      refine XS.icmpNo X0.here hx rfl (hb hby d6_2) rfl (flt hd2).2.2.1 ?_
      show Steps p.tables e below (s₁.setTop (mkF m 5 #[.val (.int p1), .val (.int p2), .val (.int p3), .val (.int p4), .val (.double (FP.i2d bd)), .second] [])) _
      refine XS.iloadN X0.here hx rfl (hb hby d6_5) rfl ?_
      show Steps p.tables e below (s₁.setTop (mkF m 6 #[.val (.int p1), .val (.int p2), .val (.int p3), .val (.int p4), .val (.double (FP.i2d bd)), .second] [(.int p1)])) _
      refine XS.iloadN X0.here hx rfl (hb hby d6_6) rfl ?_
      show Steps p.tables e below (s₁.setTop (mkF m 7 #[.val (.int p1), .val (.int p2), .val (.int p3), .val (.int p4), .val (.double (FP.i2d bd)), .second] [(.int p4), (.int p1)])) _
      by_cases hd7 : p1 < p4
      · skip
        refine XS.icmpNo X0.here hx rfl (hb hby d6_7) rfl (tlt hd7).2.1 ?_
        show Steps p.tables e below (s₁.setTop (mkF m 10 #[.val (.int p1), .val (.int p2), .val (.int p3), .val (.int p4), .val (.double (FP.i2d bd)), .second] [])) _
        refine XS.iloadN X0.here hx rfl (hb hby d6_10) rfl ?_
        show Steps p.tables e below (s₁.setTop (mkF m 11 #[.val (.int p1), .val (.int p2), .val (.int p3), .val (.int p4), .val (.double (FP.i2d bd)), .second] [(.int p2)])) _
        refine own_i2d X0.here hx rfl (hb hby d6_11) rfl ?_
        show Steps p.tables e below (s₁.setTop (mkF m 12 #[.val (.int p1), .val (.int p2), .val (.int p3), .val (.int p4), .val (.double (FP.i2d bd)), .second] [(.double (FP.i2d p2))])) _
        refine own_dload X0.here hx rfl (hb hby d6_12) rfl ?_
        show Steps p.tables e below (s₁.setTop (mkF m 14 #[.val (.int p1), .val (.int p2), .val (.int p3), .val (.int p4), .val (.double (FP.i2d bd)), .second] [(.double (FP.i2d bd)), (.double (FP.i2d p2))])) _
        refine own_dcmp X0.here hx rfl (hb hby d6_14) rfl ?_
        show Steps p.tables e below (s₁.setTop (mkF m 15 #[.val (.int p1), .val (.int p2), .val (.int p3), .val (.int p4), .val (.double (FP.i2d bd)), .second] [(.int (cmpValue (FP.dcmp (FP.i2d p2) (FP.i2d bd)) .g))])) _
        by_cases hd15 : (0 : Int32) < (cmpValue (FP.dcmp (FP.i2d p2) (FP.i2d bd)) .g)
        · skip
          refine XS.ifYes X0.here hx rfl (pc0 := 15) (pc' := 22) rfl (hb hby d6_15) rfl ((if0 _ _).trans (tlt hd15).2.2.1) (by decide) (by decide) ?_
          show Steps p.tables e below (s₁.setTop (mkF m 22 #[.val (.int p1), .val (.int p2), .val (.int p3), .val (.int p4), .val (.double (FP.i2d bd)), .second] [])) _
          refine XS.iconst X0.here hx rfl (hb hby d6_22) ?_
          show Steps p.tables e below (s₁.setTop (mkF m 23 #[.val (.int p1), .val (.int p2), .val (.int p3), .val (.int p4), .val (.double (FP.i2d bd)), .second] [(.int (0 : Int32))])) _
          rw [if_neg hd2, if_pos hd7, if_pos hd15] at h_r
          subst h_r
          exact kZ
        · skip
          refine XS.ifNo X0.here hx rfl (hb hby d6_15) rfl ((if0 _ _).trans (flt hd15).2.2.1) ?_
          show Steps p.tables e below (s₁.setTop (mkF m 18 #[.val (.int p1), .val (.int p2), .val (.int p3), .val (.int p4), .val (.double (FP.i2d bd)), .second] [])) _
          refine XS.iconst X0.here hx rfl (hb hby d6_18) ?_
          show Steps p.tables e below (s₁.setTop (mkF m 19 #[.val (.int p1), .val (.int p2), .val (.int p3), .val (.int p4), .val (.double (FP.i2d bd)), .second] [(.int (1 : Int32))])) _
          refine XS.goto X0.here hx rfl (pc0 := 19) (pc' := 23) rfl (hb hby d6_19) (by decide) (by decide) ?_
          show Steps p.tables e below (s₁.setTop (mkF m 23 #[.val (.int p1), .val (.int p2), .val (.int p3), .val (.int p4), .val (.double (FP.i2d bd)), .second] [(.int (1 : Int32))])) _
          rw [if_neg hd2, if_pos hd7, if_neg hd15] at h_r
          subst h_r
          exact kZ
      · skip
        refine XS.icmpYes X0.here hx rfl (pc0 := 7) (pc' := 22) rfl (hb hby d6_7) rfl (flt hd7).2.1 (by decide) (by decide) ?_
        show Steps p.tables e below (s₁.setTop (mkF m 22 #[.val (.int p1), .val (.int p2), .val (.int p3), .val (.int p4), .val (.double (FP.i2d bd)), .second] [])) _
        refine XS.iconst X0.here hx rfl (hb hby d6_22) ?_
        show Steps p.tables e below (s₁.setTop (mkF m 23 #[.val (.int p1), .val (.int p2), .val (.int p3), .val (.int p4), .val (.double (FP.i2d bd)), .second] [(.int (0 : Int32))])) _
        rw [if_neg hd2, if_neg hd7] at h_r
        subst h_r
        exact kZ
  show own_R p.tables e below _ (s₁.setTop (mkF m 23 #[.val (.int p1), .val (.int p2), .val (.int p3), .val (.int p4), .val (.double (FP.i2d bd)), .second] [(.int r)]))
  have hr01 : r = own_hit p1 p2 p3 p4 bd := by rw [h_r, own_cmp]; rfl
  have hrn : nar .boolean r = r := by
    rw [hr01]
    unfold own_hit
    split
    · rfl
    · split
      · split <;> rfl
      · rfl
  obtain ⟨fs, hr, hrun, hended, hW, hsame⟩ := X0.leave (v := some (.int (nar .boolean r))) (fun h => by rw [Bd.returns] at h; cases h)
  refine own_end ⟨_, _, ?_, hrun, hended, _, _, rfl, ?_, ⟨_, rfl⟩, hW, hsame.mono (by decide) (by decide)⟩
  · exact retN X0 hx (t := .boolean) Bd.returns (by simp) (hb hby d6_23) hr
  · show Q6 Z p1 p2 p3 p4 (FP.i2d bd) bd h0 n0 _ s₁.heap _
    rw [e0, hrn, hr01]
    exact ⟨rfl, N0, rfl⟩
theorem ef_0 (m : MethodId) (p1 : Int32) (p2 : Int32) (p3 : Int32) (p4 : Int32) (p5 : Int32) : entryFrame m #[(.int p1), (.int p2), (.int p3), (.int p4), (.int p5)] maxLocals = mkF m 0 #[.val (.int p1), .val (.int p2), .val (.int p3), .val (.int p4), .val (.int p5), .unset, .unset, .unset, .unset, .unset, .unset, .unset, .unset, .unset, .unset, .unset, .unset, .unset, .unset] [] := by first | (simp [entryFrame, mkF, argsToLocals, Value.category, maxLocals]; done) | rfl
def Q0 (Z : State) (p1 : Int32) (p2 : Int32) (p3 : Int32) (p4 : Int32) (p5 : Int32)  (h0 : Heap) (n0 : Nat) (v : Option Value) (h : Heap) (L : List Loc) : Prop := v = some (.int 1) ∧ Fr n0 L
set_option maxRecDepth 65536 in
set_option maxHeartbeats 40000000 in
theorem rm0 (l : Launch) (Z : State) (a0 : Array Value) (hw : ∀ d ∈ tables_1, d.before a0 Z = true) (ws : List Jvm.Cond) (p1 : Int32) (p2 : Int32) (p3 : Int32) (p4 : Int32) (p5 : Int32)  (h0 : Heap) (n0 : Nat) (Z0 : n0 ≤ h0.size)  :
    MetFree l x (head1 (Jvm.Cond.code x code maxLocals ret :: ws) room_1) (fun a U => a = #[(.int p1), (.int p2), (.int p3), (.int p4), (.int p5)] ∧ Z.Warmed39 U.vm ∧ U.heap = h0) (fun _ _ _ _ _ => True) (fun _ U o U' => ∃ v L, o = .returned v ∧ Q0 Z p1 p2 p3 p4 p5 h0 n0 v U'.heap L ∧ FrameEnd U o U' L room_1.cells room_1.slots) := by
  refine MetFree.of_bodySF (plainFor_of_name pn_0) hisR ?_
  intro p e s m args below meth cd s₁ Bd hml0 hP hK
  obtain ⟨rfl, hZ, hh⟩ := hP
  have hx := Bd.exec
  have hby := Bd.bytes
  have hml : cd.maxLocals = 19 := hml0
  have hown : s.vm.findClass "com/example/frugal_scheduler/frugalscheduler/planners/MinTreeFirstAtMostPinLaw" = some m.cls := findClass_of_methodNamed Bd.named
  have hnm := (name_of_methodNamed Bd.named Bd.method).1
  have X0 : Stand p l e room_1 s m #[(.int p1), (.int p2), (.int p3), (.int p4), (.int p5)] below meth cd s₁ [] 0 0 := Stand.of_body Bd
  have e0 : s₁.heap = h0 := by rw [← hh, Bd.state]; rfl
  have N0 := Fr.nil n0
  show own_R p.tables e below _ (s₁.setTop (entryFrame m #[(.int p1), (.int p2), (.int p3), (.int p4), (.int p5)] maxLocals))
  refine own_by (fun t kZ => castTop (ef_0 m p1 p2 p3 p4 p5) kZ) ?_
  show own_R p.tables e below _ (s₁.setTop (mkF m 0 #[.val (.int p1), .val (.int p2), .val (.int p3), .val (.int p4), .val (.int p5), .unset, .unset, .unset, .unset, .unset, .unset, .unset, .unset, .unset, .unset, .unset, .unset, .unset, .unset] []))
  refine own_by (fun _ kZ => XS.iloadN X0.here hx rfl (hb hby at_0) rfl kZ) ?_
  show own_R p.tables e below _ (s₁.setTop (mkF m 1 #[.val (.int p1), .val (.int p2), .val (.int p3), .val (.int p4), .val (.int p5), .unset, .unset, .unset, .unset, .unset, .unset, .unset, .unset, .unset, .unset, .unset, .unset, .unset, .unset] [(.int p1)]))
  refine own_by (fun _ kZ => XS.bipush X0.here hx rfl (hb hby at_1) kZ) ?_
  show own_R p.tables e below _ (s₁.setTop (mkF m 3 #[.val (.int p1), .val (.int p2), .val (.int p3), .val (.int p4), .val (.int p5), .unset, .unset, .unset, .unset, .unset, .unset, .unset, .unset, .unset, .unset, .unset, .unset, .unset, .unset] [(.int (7 : Int32)), (.int p1)]))
  refine own_by (fun _ kZ => XS.iand X0.here hx rfl (hb hby at_3) rfl kZ) ?_
  show own_R p.tables e below _ (s₁.setTop (mkF m 4 #[.val (.int p1), .val (.int p2), .val (.int p3), .val (.int p4), .val (.int p5), .unset, .unset, .unset, .unset, .unset, .unset, .unset, .unset, .unset, .unset, .unset, .unset, .unset, .unset] [(.int (p1 &&& (7 : Int32)))]))
  refine own_by (fun _ kZ => XS.iconst X0.here hx rfl (hb hby at_4) kZ) ?_
  show own_R p.tables e below _ (s₁.setTop (mkF m 5 #[.val (.int p1), .val (.int p2), .val (.int p3), .val (.int p4), .val (.int p5), .unset, .unset, .unset, .unset, .unset, .unset, .unset, .unset, .unset, .unset, .unset, .unset, .unset, .unset] [(.int (5 : Int32)), (.int (p1 &&& (7 : Int32)))]))
  refine own_by (fun _ kZ => iremM X0 hx rfl (hb hby at_5) rfl (by decide) kZ) ?_
  show own_R p.tables e below _ (s₁.setTop (mkF m 6 #[.val (.int p1), .val (.int p2), .val (.int p3), .val (.int p4), .val (.int p5), .unset, .unset, .unset, .unset, .unset, .unset, .unset, .unset, .unset, .unset, .unset, .unset, .unset, .unset] [(.int ((p1 &&& (7 : Int32)) % (5 : Int32)))]))
  refine own_by (fun _ kZ => XS.iconst X0.here hx rfl (hb hby at_6) kZ) ?_
  show own_R p.tables e below _ (s₁.setTop (mkF m 7 #[.val (.int p1), .val (.int p2), .val (.int p3), .val (.int p4), .val (.int p5), .unset, .unset, .unset, .unset, .unset, .unset, .unset, .unset, .unset, .unset, .unset, .unset, .unset, .unset] [(.int (1 : Int32)), (.int ((p1 &&& (7 : Int32)) % (5 : Int32)))]))
  refine own_by (fun _ kZ => XS.iadd X0.here hx rfl (hb hby at_7) rfl kZ) ?_
  show own_R p.tables e below _ (s₁.setTop (mkF m 8 #[.val (.int p1), .val (.int p2), .val (.int p3), .val (.int p4), .val (.int p5), .unset, .unset, .unset, .unset, .unset, .unset, .unset, .unset, .unset, .unset, .unset, .unset, .unset, .unset] [(.int (((p1 &&& (7 : Int32)) % (5 : Int32)) + (1 : Int32)))]))
  obtain ⟨N, hN, hN1, hN5⟩ := own_n5 p1
  have hnz := own_nz1 N hN5
  rw [show (((p1 &&& (7 : Int32)) % (5 : Int32)) + (1 : Int32)) = (Int32.ofNat N) from hN]
  show own_R p.tables e below _ (s₁.setTop (mkF m 8 #[.val (.int p1), .val (.int p2), .val (.int p3), .val (.int p4), .val (.int p5), .unset, .unset, .unset, .unset, .unset, .unset, .unset, .unset, .unset, .unset, .unset, .unset, .unset, .unset] [(.int (Int32.ofNat N))]))
  refine own_by (fun _ kZ => XS.istore X0.here hx rfl (hb hby at_8) rfl (l' := #[.val (.int p1), .val (.int p2), .val (.int p3), .val (.int p4), .val (.int p5), .val (.int (Int32.ofNat N)), .unset, .unset, .unset, .unset, .unset, .unset, .unset, .unset, .unset, .unset, .unset, .unset, .unset]) rfl kZ) ?_
  show own_R p.tables e below _ (s₁.setTop (mkF m 10 #[.val (.int p1), .val (.int p2), .val (.int p3), .val (.int p4), .val (.int p5), .val (.int (Int32.ofNat N)), .unset, .unset, .unset, .unset, .unset, .unset, .unset, .unset, .unset, .unset, .unset, .unset, .unset] []))
  refine own_by (fun _ kZ => XS.iloadN X0.here hx rfl (hb hby at_10) rfl kZ) ?_
  show own_R p.tables e below _ (s₁.setTop (mkF m 11 #[.val (.int p1), .val (.int p2), .val (.int p3), .val (.int p4), .val (.int p5), .val (.int (Int32.ofNat N)), .unset, .unset, .unset, .unset, .unset, .unset, .unset, .unset, .unset, .unset, .unset, .unset, .unset] [(.int p1)]))
  refine own_by (fun _ kZ => XS.iconst X0.here hx rfl (hb hby at_11) kZ) ?_
  show own_R p.tables e below _ (s₁.setTop (mkF m 12 #[.val (.int p1), .val (.int p2), .val (.int p3), .val (.int p4), .val (.int p5), .val (.int (Int32.ofNat N)), .unset, .unset, .unset, .unset, .unset, .unset, .unset, .unset, .unset, .unset, .unset, .unset, .unset] [(.int (3 : Int32)), (.int p1)]))
  refine own_by (fun _ kZ => XS.iushr X0.here hx rfl (hb hby at_12) rfl kZ) ?_
  show own_R p.tables e below _ (s₁.setTop (mkF m 13 #[.val (.int p1), .val (.int p2), .val (.int p3), .val (.int p4), .val (.int p5), .val (.int (Int32.ofNat N)), .unset, .unset, .unset, .unset, .unset, .unset, .unset, .unset, .unset, .unset, .unset, .unset, .unset] [(.int ((p1.toUInt32 >>> ((3 : Int32) &&& 31).toUInt32).toInt32))]))
  refine own_by (fun _ kZ => XS.bipush X0.here hx rfl (hb hby at_13) kZ) ?_
  show own_R p.tables e below _ (s₁.setTop (mkF m 15 #[.val (.int p1), .val (.int p2), .val (.int p3), .val (.int p4), .val (.int p5), .val (.int (Int32.ofNat N)), .unset, .unset, .unset, .unset, .unset, .unset, .unset, .unset, .unset, .unset, .unset, .unset, .unset] [(.int (7 : Int32)), (.int ((p1.toUInt32 >>> ((3 : Int32) &&& 31).toUInt32).toInt32))]))
  refine own_by (fun _ kZ => XS.iand X0.here hx rfl (hb hby at_15) rfl kZ) ?_
  show own_R p.tables e below _ (s₁.setTop (mkF m 16 #[.val (.int p1), .val (.int p2), .val (.int p3), .val (.int p4), .val (.int p5), .val (.int (Int32.ofNat N)), .unset, .unset, .unset, .unset, .unset, .unset, .unset, .unset, .unset, .unset, .unset, .unset, .unset] [(.int (((p1.toUInt32 >>> ((3 : Int32) &&& 31).toUInt32).toInt32) &&& (7 : Int32)))]))
  obtain ⟨vi, h_vi⟩ : ∃ z : Int32, z = (((p1.toUInt32 >>> ((3 : Int32) &&& 31).toUInt32).toInt32) &&& (7 : Int32)) := ⟨_, rfl⟩
  rw [← h_vi]
  show own_R p.tables e below _ (s₁.setTop (mkF m 16 #[.val (.int p1), .val (.int p2), .val (.int p3), .val (.int p4), .val (.int p5), .val (.int (Int32.ofNat N)), .unset, .unset, .unset, .unset, .unset, .unset, .unset, .unset, .unset, .unset, .unset, .unset, .unset] [(.int vi)]))
  refine own_by (fun _ kZ => XS.istore X0.here hx rfl (hb hby at_16) rfl (l' := #[.val (.int p1), .val (.int p2), .val (.int p3), .val (.int p4), .val (.int p5), .val (.int (Int32.ofNat N)), .val (.int vi), .unset, .unset, .unset, .unset, .unset, .unset, .unset, .unset, .unset, .unset, .unset, .unset]) rfl kZ) ?_
  show own_R p.tables e below _ (s₁.setTop (mkF m 18 #[.val (.int p1), .val (.int p2), .val (.int p3), .val (.int p4), .val (.int p5), .val (.int (Int32.ofNat N)), .val (.int vi), .unset, .unset, .unset, .unset, .unset, .unset, .unset, .unset, .unset, .unset, .unset, .unset] []))
  refine own_by (fun _ kZ => XS.iloadN X0.here hx rfl (hb hby at_18) rfl kZ) ?_
  show own_R p.tables e below _ (s₁.setTop (mkF m 19 #[.val (.int p1), .val (.int p2), .val (.int p3), .val (.int p4), .val (.int p5), .val (.int (Int32.ofNat N)), .val (.int vi), .unset, .unset, .unset, .unset, .unset, .unset, .unset, .unset, .unset, .unset, .unset, .unset] [(.int p2)]))
  refine own_by (fun _ kZ => XS.bipush X0.here hx rfl (hb hby at_19) kZ) ?_
  show own_R p.tables e below _ (s₁.setTop (mkF m 21 #[.val (.int p1), .val (.int p2), .val (.int p3), .val (.int p4), .val (.int p5), .val (.int (Int32.ofNat N)), .val (.int vi), .unset, .unset, .unset, .unset, .unset, .unset, .unset, .unset, .unset, .unset, .unset, .unset] [(.int (7 : Int32)), (.int p2)]))
  refine own_by (fun _ kZ => XS.iand X0.here hx rfl (hb hby at_21) rfl kZ) ?_
  show own_R p.tables e below _ (s₁.setTop (mkF m 22 #[.val (.int p1), .val (.int p2), .val (.int p3), .val (.int p4), .val (.int p5), .val (.int (Int32.ofNat N)), .val (.int vi), .unset, .unset, .unset, .unset, .unset, .unset, .unset, .unset, .unset, .unset, .unset, .unset] [(.int (p2 &&& (7 : Int32)))]))
  obtain ⟨v0, h_v0⟩ : ∃ z : Int32, z = (p2 &&& (7 : Int32)) := ⟨_, rfl⟩
  rw [← h_v0]
  show own_R p.tables e below _ (s₁.setTop (mkF m 22 #[.val (.int p1), .val (.int p2), .val (.int p3), .val (.int p4), .val (.int p5), .val (.int (Int32.ofNat N)), .val (.int vi), .unset, .unset, .unset, .unset, .unset, .unset, .unset, .unset, .unset, .unset, .unset, .unset] [(.int v0)]))
  refine own_by (fun _ kZ => XS.istore X0.here hx rfl (hb hby at_22) rfl (l' := #[.val (.int p1), .val (.int p2), .val (.int p3), .val (.int p4), .val (.int p5), .val (.int (Int32.ofNat N)), .val (.int vi), .val (.int v0), .unset, .unset, .unset, .unset, .unset, .unset, .unset, .unset, .unset, .unset, .unset]) rfl kZ) ?_
  show own_R p.tables e below _ (s₁.setTop (mkF m 24 #[.val (.int p1), .val (.int p2), .val (.int p3), .val (.int p4), .val (.int p5), .val (.int (Int32.ofNat N)), .val (.int vi), .val (.int v0), .unset, .unset, .unset, .unset, .unset, .unset, .unset, .unset, .unset, .unset, .unset] []))
  refine own_by (fun _ kZ => XS.iloadN X0.here hx rfl (hb hby at_24) rfl kZ) ?_
  show own_R p.tables e below _ (s₁.setTop (mkF m 25 #[.val (.int p1), .val (.int p2), .val (.int p3), .val (.int p4), .val (.int p5), .val (.int (Int32.ofNat N)), .val (.int vi), .val (.int v0), .unset, .unset, .unset, .unset, .unset, .unset, .unset, .unset, .unset, .unset, .unset] [(.int p2)]))
  refine own_by (fun _ kZ => XS.iconst X0.here hx rfl (hb hby at_25) kZ) ?_
  show own_R p.tables e below _ (s₁.setTop (mkF m 26 #[.val (.int p1), .val (.int p2), .val (.int p3), .val (.int p4), .val (.int p5), .val (.int (Int32.ofNat N)), .val (.int vi), .val (.int v0), .unset, .unset, .unset, .unset, .unset, .unset, .unset, .unset, .unset, .unset, .unset] [(.int (3 : Int32)), (.int p2)]))
  refine own_by (fun _ kZ => XS.iushr X0.here hx rfl (hb hby at_26) rfl kZ) ?_
  show own_R p.tables e below _ (s₁.setTop (mkF m 27 #[.val (.int p1), .val (.int p2), .val (.int p3), .val (.int p4), .val (.int p5), .val (.int (Int32.ofNat N)), .val (.int vi), .val (.int v0), .unset, .unset, .unset, .unset, .unset, .unset, .unset, .unset, .unset, .unset, .unset] [(.int ((p2.toUInt32 >>> ((3 : Int32) &&& 31).toUInt32).toInt32))]))
  refine own_by (fun _ kZ => XS.bipush X0.here hx rfl (hb hby at_27) kZ) ?_
  show own_R p.tables e below _ (s₁.setTop (mkF m 29 #[.val (.int p1), .val (.int p2), .val (.int p3), .val (.int p4), .val (.int p5), .val (.int (Int32.ofNat N)), .val (.int vi), .val (.int v0), .unset, .unset, .unset, .unset, .unset, .unset, .unset, .unset, .unset, .unset, .unset] [(.int (7 : Int32)), (.int ((p2.toUInt32 >>> ((3 : Int32) &&& 31).toUInt32).toInt32))]))
  refine own_by (fun _ kZ => XS.iand X0.here hx rfl (hb hby at_29) rfl kZ) ?_
  show own_R p.tables e below _ (s₁.setTop (mkF m 30 #[.val (.int p1), .val (.int p2), .val (.int p3), .val (.int p4), .val (.int p5), .val (.int (Int32.ofNat N)), .val (.int vi), .val (.int v0), .unset, .unset, .unset, .unset, .unset, .unset, .unset, .unset, .unset, .unset, .unset] [(.int (((p2.toUInt32 >>> ((3 : Int32) &&& 31).toUInt32).toInt32) &&& (7 : Int32)))]))
  obtain ⟨v1, h_v1⟩ : ∃ z : Int32, z = (((p2.toUInt32 >>> ((3 : Int32) &&& 31).toUInt32).toInt32) &&& (7 : Int32)) := ⟨_, rfl⟩
  rw [← h_v1]
  show own_R p.tables e below _ (s₁.setTop (mkF m 30 #[.val (.int p1), .val (.int p2), .val (.int p3), .val (.int p4), .val (.int p5), .val (.int (Int32.ofNat N)), .val (.int vi), .val (.int v0), .unset, .unset, .unset, .unset, .unset, .unset, .unset, .unset, .unset, .unset, .unset] [(.int v1)]))
  refine own_by (fun _ kZ => XS.istore X0.here hx rfl (hb hby at_30) rfl (l' := #[.val (.int p1), .val (.int p2), .val (.int p3), .val (.int p4), .val (.int p5), .val (.int (Int32.ofNat N)), .val (.int vi), .val (.int v0), .val (.int v1), .unset, .unset, .unset, .unset, .unset, .unset, .unset, .unset, .unset, .unset]) rfl kZ) ?_
  show own_R p.tables e below _ (s₁.setTop (mkF m 32 #[.val (.int p1), .val (.int p2), .val (.int p3), .val (.int p4), .val (.int p5), .val (.int (Int32.ofNat N)), .val (.int vi), .val (.int v0), .val (.int v1), .unset, .unset, .unset, .unset, .unset, .unset, .unset, .unset, .unset, .unset] []))
  refine own_by (fun _ kZ => XS.iloadN X0.here hx rfl (hb hby at_32) rfl kZ) ?_
  show own_R p.tables e below _ (s₁.setTop (mkF m 33 #[.val (.int p1), .val (.int p2), .val (.int p3), .val (.int p4), .val (.int p5), .val (.int (Int32.ofNat N)), .val (.int vi), .val (.int v0), .val (.int v1), .unset, .unset, .unset, .unset, .unset, .unset, .unset, .unset, .unset, .unset] [(.int p2)]))
  refine own_by (fun _ kZ => XS.bipush X0.here hx rfl (hb hby at_33) kZ) ?_
  show own_R p.tables e below _ (s₁.setTop (mkF m 35 #[.val (.int p1), .val (.int p2), .val (.int p3), .val (.int p4), .val (.int p5), .val (.int (Int32.ofNat N)), .val (.int vi), .val (.int v0), .val (.int v1), .unset, .unset, .unset, .unset, .unset, .unset, .unset, .unset, .unset, .unset] [(.int (6 : Int32)), (.int p2)]))
  refine own_by (fun _ kZ => XS.iushr X0.here hx rfl (hb hby at_35) rfl kZ) ?_
  show own_R p.tables e below _ (s₁.setTop (mkF m 36 #[.val (.int p1), .val (.int p2), .val (.int p3), .val (.int p4), .val (.int p5), .val (.int (Int32.ofNat N)), .val (.int vi), .val (.int v0), .val (.int v1), .unset, .unset, .unset, .unset, .unset, .unset, .unset, .unset, .unset, .unset] [(.int ((p2.toUInt32 >>> ((6 : Int32) &&& 31).toUInt32).toInt32))]))
  refine own_by (fun _ kZ => XS.bipush X0.here hx rfl (hb hby at_36) kZ) ?_
  show own_R p.tables e below _ (s₁.setTop (mkF m 38 #[.val (.int p1), .val (.int p2), .val (.int p3), .val (.int p4), .val (.int p5), .val (.int (Int32.ofNat N)), .val (.int vi), .val (.int v0), .val (.int v1), .unset, .unset, .unset, .unset, .unset, .unset, .unset, .unset, .unset, .unset] [(.int (7 : Int32)), (.int ((p2.toUInt32 >>> ((6 : Int32) &&& 31).toUInt32).toInt32))]))
  refine own_by (fun _ kZ => XS.iand X0.here hx rfl (hb hby at_38) rfl kZ) ?_
  show own_R p.tables e below _ (s₁.setTop (mkF m 39 #[.val (.int p1), .val (.int p2), .val (.int p3), .val (.int p4), .val (.int p5), .val (.int (Int32.ofNat N)), .val (.int vi), .val (.int v0), .val (.int v1), .unset, .unset, .unset, .unset, .unset, .unset, .unset, .unset, .unset, .unset] [(.int (((p2.toUInt32 >>> ((6 : Int32) &&& 31).toUInt32).toInt32) &&& (7 : Int32)))]))
  obtain ⟨v2, h_v2⟩ : ∃ z : Int32, z = (((p2.toUInt32 >>> ((6 : Int32) &&& 31).toUInt32).toInt32) &&& (7 : Int32)) := ⟨_, rfl⟩
  rw [← h_v2]
  show own_R p.tables e below _ (s₁.setTop (mkF m 39 #[.val (.int p1), .val (.int p2), .val (.int p3), .val (.int p4), .val (.int p5), .val (.int (Int32.ofNat N)), .val (.int vi), .val (.int v0), .val (.int v1), .unset, .unset, .unset, .unset, .unset, .unset, .unset, .unset, .unset, .unset] [(.int v2)]))
  refine own_by (fun _ kZ => XS.istore X0.here hx rfl (hb hby at_39) rfl (l' := #[.val (.int p1), .val (.int p2), .val (.int p3), .val (.int p4), .val (.int p5), .val (.int (Int32.ofNat N)), .val (.int vi), .val (.int v0), .val (.int v1), .val (.int v2), .unset, .unset, .unset, .unset, .unset, .unset, .unset, .unset, .unset]) rfl kZ) ?_
  show own_R p.tables e below _ (s₁.setTop (mkF m 41 #[.val (.int p1), .val (.int p2), .val (.int p3), .val (.int p4), .val (.int p5), .val (.int (Int32.ofNat N)), .val (.int vi), .val (.int v0), .val (.int v1), .val (.int v2), .unset, .unset, .unset, .unset, .unset, .unset, .unset, .unset, .unset] []))
  refine own_by (fun _ kZ => XS.iloadN X0.here hx rfl (hb hby at_41) rfl kZ) ?_
  show own_R p.tables e below _ (s₁.setTop (mkF m 42 #[.val (.int p1), .val (.int p2), .val (.int p3), .val (.int p4), .val (.int p5), .val (.int (Int32.ofNat N)), .val (.int vi), .val (.int v0), .val (.int v1), .val (.int v2), .unset, .unset, .unset, .unset, .unset, .unset, .unset, .unset, .unset] [(.int p2)]))
  refine own_by (fun _ kZ => XS.bipush X0.here hx rfl (hb hby at_42) kZ) ?_
  show own_R p.tables e below _ (s₁.setTop (mkF m 44 #[.val (.int p1), .val (.int p2), .val (.int p3), .val (.int p4), .val (.int p5), .val (.int (Int32.ofNat N)), .val (.int vi), .val (.int v0), .val (.int v1), .val (.int v2), .unset, .unset, .unset, .unset, .unset, .unset, .unset, .unset, .unset] [(.int (9 : Int32)), (.int p2)]))
  refine own_by (fun _ kZ => XS.iushr X0.here hx rfl (hb hby at_44) rfl kZ) ?_
  show own_R p.tables e below _ (s₁.setTop (mkF m 45 #[.val (.int p1), .val (.int p2), .val (.int p3), .val (.int p4), .val (.int p5), .val (.int (Int32.ofNat N)), .val (.int vi), .val (.int v0), .val (.int v1), .val (.int v2), .unset, .unset, .unset, .unset, .unset, .unset, .unset, .unset, .unset] [(.int ((p2.toUInt32 >>> ((9 : Int32) &&& 31).toUInt32).toInt32))]))
  refine own_by (fun _ kZ => XS.bipush X0.here hx rfl (hb hby at_45) kZ) ?_
  show own_R p.tables e below _ (s₁.setTop (mkF m 47 #[.val (.int p1), .val (.int p2), .val (.int p3), .val (.int p4), .val (.int p5), .val (.int (Int32.ofNat N)), .val (.int vi), .val (.int v0), .val (.int v1), .val (.int v2), .unset, .unset, .unset, .unset, .unset, .unset, .unset, .unset, .unset] [(.int (7 : Int32)), (.int ((p2.toUInt32 >>> ((9 : Int32) &&& 31).toUInt32).toInt32))]))
  refine own_by (fun _ kZ => XS.iand X0.here hx rfl (hb hby at_47) rfl kZ) ?_
  show own_R p.tables e below _ (s₁.setTop (mkF m 48 #[.val (.int p1), .val (.int p2), .val (.int p3), .val (.int p4), .val (.int p5), .val (.int (Int32.ofNat N)), .val (.int vi), .val (.int v0), .val (.int v1), .val (.int v2), .unset, .unset, .unset, .unset, .unset, .unset, .unset, .unset, .unset] [(.int (((p2.toUInt32 >>> ((9 : Int32) &&& 31).toUInt32).toInt32) &&& (7 : Int32)))]))
  obtain ⟨v3, h_v3⟩ : ∃ z : Int32, z = (((p2.toUInt32 >>> ((9 : Int32) &&& 31).toUInt32).toInt32) &&& (7 : Int32)) := ⟨_, rfl⟩
  rw [← h_v3]
  show own_R p.tables e below _ (s₁.setTop (mkF m 48 #[.val (.int p1), .val (.int p2), .val (.int p3), .val (.int p4), .val (.int p5), .val (.int (Int32.ofNat N)), .val (.int vi), .val (.int v0), .val (.int v1), .val (.int v2), .unset, .unset, .unset, .unset, .unset, .unset, .unset, .unset, .unset] [(.int v3)]))
  refine own_by (fun _ kZ => XS.istore X0.here hx rfl (hb hby at_48) rfl (l' := #[.val (.int p1), .val (.int p2), .val (.int p3), .val (.int p4), .val (.int p5), .val (.int (Int32.ofNat N)), .val (.int vi), .val (.int v0), .val (.int v1), .val (.int v2), .val (.int v3), .unset, .unset, .unset, .unset, .unset, .unset, .unset, .unset]) rfl kZ) ?_
  show own_R p.tables e below _ (s₁.setTop (mkF m 50 #[.val (.int p1), .val (.int p2), .val (.int p3), .val (.int p4), .val (.int p5), .val (.int (Int32.ofNat N)), .val (.int vi), .val (.int v0), .val (.int v1), .val (.int v2), .val (.int v3), .unset, .unset, .unset, .unset, .unset, .unset, .unset, .unset] []))
  refine own_by (fun _ kZ => XS.iloadN X0.here hx rfl (hb hby at_50) rfl kZ) ?_
  show own_R p.tables e below _ (s₁.setTop (mkF m 51 #[.val (.int p1), .val (.int p2), .val (.int p3), .val (.int p4), .val (.int p5), .val (.int (Int32.ofNat N)), .val (.int vi), .val (.int v0), .val (.int v1), .val (.int v2), .val (.int v3), .unset, .unset, .unset, .unset, .unset, .unset, .unset, .unset] [(.int p2)]))
  refine own_by (fun _ kZ => XS.bipush X0.here hx rfl (hb hby at_51) kZ) ?_
  show own_R p.tables e below _ (s₁.setTop (mkF m 53 #[.val (.int p1), .val (.int p2), .val (.int p3), .val (.int p4), .val (.int p5), .val (.int (Int32.ofNat N)), .val (.int vi), .val (.int v0), .val (.int v1), .val (.int v2), .val (.int v3), .unset, .unset, .unset, .unset, .unset, .unset, .unset, .unset] [(.int (12 : Int32)), (.int p2)]))
  refine own_by (fun _ kZ => XS.iushr X0.here hx rfl (hb hby at_53) rfl kZ) ?_
  show own_R p.tables e below _ (s₁.setTop (mkF m 54 #[.val (.int p1), .val (.int p2), .val (.int p3), .val (.int p4), .val (.int p5), .val (.int (Int32.ofNat N)), .val (.int vi), .val (.int v0), .val (.int v1), .val (.int v2), .val (.int v3), .unset, .unset, .unset, .unset, .unset, .unset, .unset, .unset] [(.int ((p2.toUInt32 >>> ((12 : Int32) &&& 31).toUInt32).toInt32))]))
  refine own_by (fun _ kZ => XS.bipush X0.here hx rfl (hb hby at_54) kZ) ?_
  show own_R p.tables e below _ (s₁.setTop (mkF m 56 #[.val (.int p1), .val (.int p2), .val (.int p3), .val (.int p4), .val (.int p5), .val (.int (Int32.ofNat N)), .val (.int vi), .val (.int v0), .val (.int v1), .val (.int v2), .val (.int v3), .unset, .unset, .unset, .unset, .unset, .unset, .unset, .unset] [(.int (7 : Int32)), (.int ((p2.toUInt32 >>> ((12 : Int32) &&& 31).toUInt32).toInt32))]))
  refine own_by (fun _ kZ => XS.iand X0.here hx rfl (hb hby at_56) rfl kZ) ?_
  show own_R p.tables e below _ (s₁.setTop (mkF m 57 #[.val (.int p1), .val (.int p2), .val (.int p3), .val (.int p4), .val (.int p5), .val (.int (Int32.ofNat N)), .val (.int vi), .val (.int v0), .val (.int v1), .val (.int v2), .val (.int v3), .unset, .unset, .unset, .unset, .unset, .unset, .unset, .unset] [(.int (((p2.toUInt32 >>> ((12 : Int32) &&& 31).toUInt32).toInt32) &&& (7 : Int32)))]))
  obtain ⟨v4, h_v4⟩ : ∃ z : Int32, z = (((p2.toUInt32 >>> ((12 : Int32) &&& 31).toUInt32).toInt32) &&& (7 : Int32)) := ⟨_, rfl⟩
  rw [← h_v4]
  show own_R p.tables e below _ (s₁.setTop (mkF m 57 #[.val (.int p1), .val (.int p2), .val (.int p3), .val (.int p4), .val (.int p5), .val (.int (Int32.ofNat N)), .val (.int vi), .val (.int v0), .val (.int v1), .val (.int v2), .val (.int v3), .unset, .unset, .unset, .unset, .unset, .unset, .unset, .unset] [(.int v4)]))
  refine own_by (fun _ kZ => XS.istore X0.here hx rfl (hb hby at_57) rfl (l' := #[.val (.int p1), .val (.int p2), .val (.int p3), .val (.int p4), .val (.int p5), .val (.int (Int32.ofNat N)), .val (.int vi), .val (.int v0), .val (.int v1), .val (.int v2), .val (.int v3), .val (.int v4), .unset, .unset, .unset, .unset, .unset, .unset, .unset]) rfl kZ) ?_
  show own_R p.tables e below _ (s₁.setTop (mkF m 59 #[.val (.int p1), .val (.int p2), .val (.int p3), .val (.int p4), .val (.int p5), .val (.int (Int32.ofNat N)), .val (.int vi), .val (.int v0), .val (.int v1), .val (.int v2), .val (.int v3), .val (.int v4), .unset, .unset, .unset, .unset, .unset, .unset, .unset] []))
  refine own_by (fun _ kZ => XS.iload X0.here hx rfl (hb hby at_59) rfl kZ) ?_
  show own_R p.tables e below _ (s₁.setTop (mkF m 61 #[.val (.int p1), .val (.int p2), .val (.int p3), .val (.int p4), .val (.int p5), .val (.int (Int32.ofNat N)), .val (.int vi), .val (.int v0), .val (.int v1), .val (.int v2), .val (.int v3), .val (.int v4), .unset, .unset, .unset, .unset, .unset, .unset, .unset] [(.int p5)]))
  refine own_by (fun _ kZ => XS.bipush X0.here hx rfl (hb hby at_61) kZ) ?_
  show own_R p.tables e below _ (s₁.setTop (mkF m 63 #[.val (.int p1), .val (.int p2), .val (.int p3), .val (.int p4), .val (.int p5), .val (.int (Int32.ofNat N)), .val (.int vi), .val (.int v0), .val (.int v1), .val (.int v2), .val (.int v3), .val (.int v4), .unset, .unset, .unset, .unset, .unset, .unset, .unset] [(.int (15 : Int32)), (.int p5)]))
  refine own_by (fun _ kZ => XS.iand X0.here hx rfl (hb hby at_63) rfl kZ) ?_
  show own_R p.tables e below _ (s₁.setTop (mkF m 64 #[.val (.int p1), .val (.int p2), .val (.int p3), .val (.int p4), .val (.int p5), .val (.int (Int32.ofNat N)), .val (.int vi), .val (.int v0), .val (.int v1), .val (.int v2), .val (.int v3), .val (.int v4), .unset, .unset, .unset, .unset, .unset, .unset, .unset] [(.int (p5 &&& (15 : Int32)))]))
  refine own_by (fun _ kZ => XS.iconst X0.here hx rfl (hb hby at_64) kZ) ?_
  show own_R p.tables e below _ (s₁.setTop (mkF m 65 #[.val (.int p1), .val (.int p2), .val (.int p3), .val (.int p4), .val (.int p5), .val (.int (Int32.ofNat N)), .val (.int vi), .val (.int v0), .val (.int v1), .val (.int v2), .val (.int v3), .val (.int v4), .unset, .unset, .unset, .unset, .unset, .unset, .unset] [(.int (4 : Int32)), (.int (p5 &&& (15 : Int32)))]))
  refine own_by (fun _ kZ => XS.isub X0.here hx rfl (hb hby at_65) rfl kZ) ?_
  show own_R p.tables e below _ (s₁.setTop (mkF m 66 #[.val (.int p1), .val (.int p2), .val (.int p3), .val (.int p4), .val (.int p5), .val (.int (Int32.ofNat N)), .val (.int vi), .val (.int v0), .val (.int v1), .val (.int v2), .val (.int v3), .val (.int v4), .unset, .unset, .unset, .unset, .unset, .unset, .unset] [(.int ((p5 &&& (15 : Int32)) - (4 : Int32)))]))
  obtain ⟨bd, h_bd⟩ : ∃ z : Int32, z = ((p5 &&& (15 : Int32)) - (4 : Int32)) := ⟨_, rfl⟩
  rw [← h_bd]
  show own_R p.tables e below _ (s₁.setTop (mkF m 66 #[.val (.int p1), .val (.int p2), .val (.int p3), .val (.int p4), .val (.int p5), .val (.int (Int32.ofNat N)), .val (.int vi), .val (.int v0), .val (.int v1), .val (.int v2), .val (.int v3), .val (.int v4), .unset, .unset, .unset, .unset, .unset, .unset, .unset] [(.int bd)]))
  refine own_by (fun _ kZ => own_i2d X0.here hx rfl (hb hby at_66) rfl kZ) ?_
  show own_R p.tables e below _ (s₁.setTop (mkF m 67 #[.val (.int p1), .val (.int p2), .val (.int p3), .val (.int p4), .val (.int p5), .val (.int (Int32.ofNat N)), .val (.int vi), .val (.int v0), .val (.int v1), .val (.int v2), .val (.int v3), .val (.int v4), .unset, .unset, .unset, .unset, .unset, .unset, .unset] [(.double (FP.i2d bd))]))
  refine own_by (fun _ kZ => own_dstore X0.here hx rfl (hb hby at_67) rfl (l' := #[.val (.int p1), .val (.int p2), .val (.int p3), .val (.int p4), .val (.int p5), .val (.int (Int32.ofNat N)), .val (.int vi), .val (.int v0), .val (.int v1), .val (.int v2), .val (.int v3), .val (.int v4), .val (.double (FP.i2d bd)), .second, .unset, .unset, .unset, .unset, .unset]) rfl kZ) ?_
  show own_R p.tables e below _ (s₁.setTop (mkF m 69 #[.val (.int p1), .val (.int p2), .val (.int p3), .val (.int p4), .val (.int p5), .val (.int (Int32.ofNat N)), .val (.int vi), .val (.int v0), .val (.int v1), .val (.int v2), .val (.int v3), .val (.int v4), .val (.double (FP.i2d bd)), .second, .unset, .unset, .unset, .unset, .unset] []))
  refine own_by (fun _ kZ => XS.iloadN X0.here hx rfl (hb hby at_69) rfl kZ) ?_
  show own_R p.tables e below _ (s₁.setTop (mkF m 70 #[.val (.int p1), .val (.int p2), .val (.int p3), .val (.int p4), .val (.int p5), .val (.int (Int32.ofNat N)), .val (.int vi), .val (.int v0), .val (.int v1), .val (.int v2), .val (.int v3), .val (.int v4), .val (.double (FP.i2d bd)), .second, .unset, .unset, .unset, .unset, .unset] [(.int p3)]))
  refine own_by (fun _ kZ => X0.ldcInt hx hown (mvT hZ (hw _ (List.mem_of_getElem? (i := 0) rfl))) (g := (mkF m 70 #[.val (.int p1), .val (.int p2), .val (.int p3), .val (.int p4), .val (.int p5), .val (.int (Int32.ofNat N)), .val (.int vi), .val (.int v0), .val (.int v1), .val (.int v2), .val (.int v3), .val (.int v4), .val (.double (FP.i2d bd)), .second, .unset, .unset, .unset, .unset, .unset] [(.int p3)])) rfl (hb hby at_70) _ kZ) ?_
  show own_R p.tables e below _ (s₁.setTop (mkF m 72 #[.val (.int p1), .val (.int p2), .val (.int p3), .val (.int p4), .val (.int p5), .val (.int (Int32.ofNat N)), .val (.int vi), .val (.int v0), .val (.int v1), .val (.int v2), .val (.int v3), .val (.int v4), .val (.double (FP.i2d bd)), .second, .unset, .unset, .unset, .unset, .unset] [(.int (2147483647 : Int32)), (.int p3)]))
  refine own_by (fun _ kZ => XS.iand X0.here hx rfl (hb hby at_72) rfl kZ) ?_
  show own_R p.tables e below _ (s₁.setTop (mkF m 73 #[.val (.int p1), .val (.int p2), .val (.int p3), .val (.int p4), .val (.int p5), .val (.int (Int32.ofNat N)), .val (.int vi), .val (.int v0), .val (.int v1), .val (.int v2), .val (.int v3), .val (.int v4), .val (.double (FP.i2d bd)), .second, .unset, .unset, .unset, .unset, .unset] [(.int (p3 &&& (2147483647 : Int32)))]))
  refine own_by (fun _ kZ => XS.iload X0.here hx rfl (hb hby at_73) rfl kZ) ?_
  show own_R p.tables e below _ (s₁.setTop (mkF m 75 #[.val (.int p1), .val (.int p2), .val (.int p3), .val (.int p4), .val (.int p5), .val (.int (Int32.ofNat N)), .val (.int vi), .val (.int v0), .val (.int v1), .val (.int v2), .val (.int v3), .val (.int v4), .val (.double (FP.i2d bd)), .second, .unset, .unset, .unset, .unset, .unset] [(.int (Int32.ofNat N)), (.int (p3 &&& (2147483647 : Int32)))]))
  refine own_by (fun _ kZ => XS.iconst X0.here hx rfl (hb hby at_75) kZ) ?_
  show own_R p.tables e below _ (s₁.setTop (mkF m 76 #[.val (.int p1), .val (.int p2), .val (.int p3), .val (.int p4), .val (.int p5), .val (.int (Int32.ofNat N)), .val (.int vi), .val (.int v0), .val (.int v1), .val (.int v2), .val (.int v3), .val (.int v4), .val (.double (FP.i2d bd)), .second, .unset, .unset, .unset, .unset, .unset] [(.int (1 : Int32)), (.int (Int32.ofNat N)), (.int (p3 &&& (2147483647 : Int32)))]))
  refine own_by (fun _ kZ => XS.iadd X0.here hx rfl (hb hby at_76) rfl kZ) ?_
  show own_R p.tables e below _ (s₁.setTop (mkF m 77 #[.val (.int p1), .val (.int p2), .val (.int p3), .val (.int p4), .val (.int p5), .val (.int (Int32.ofNat N)), .val (.int vi), .val (.int v0), .val (.int v1), .val (.int v2), .val (.int v3), .val (.int v4), .val (.double (FP.i2d bd)), .second, .unset, .unset, .unset, .unset, .unset] [(.int ((Int32.ofNat N) + (1 : Int32))), (.int (p3 &&& (2147483647 : Int32)))]))
  refine own_by (fun _ kZ => iremM X0 hx rfl (hb hby at_77) rfl hnz kZ) ?_
  show own_R p.tables e below _ (s₁.setTop (mkF m 78 #[.val (.int p1), .val (.int p2), .val (.int p3), .val (.int p4), .val (.int p5), .val (.int (Int32.ofNat N)), .val (.int vi), .val (.int v0), .val (.int v1), .val (.int v2), .val (.int v3), .val (.int v4), .val (.double (FP.i2d bd)), .second, .unset, .unset, .unset, .unset, .unset] [(.int ((p3 &&& (2147483647 : Int32)) % ((Int32.ofNat N) + (1 : Int32))))]))
  obtain ⟨f, hf, lf⟩ := own_modN1 p3 N hN5
  rw [show ((p3 &&& (2147483647 : Int32)) % ((Int32.ofNat N) + (1 : Int32))) = (Int32.ofNat f) from hf]
  show own_R p.tables e below _ (s₁.setTop (mkF m 78 #[.val (.int p1), .val (.int p2), .val (.int p3), .val (.int p4), .val (.int p5), .val (.int (Int32.ofNat N)), .val (.int vi), .val (.int v0), .val (.int v1), .val (.int v2), .val (.int v3), .val (.int v4), .val (.double (FP.i2d bd)), .second, .unset, .unset, .unset, .unset, .unset] [(.int (Int32.ofNat f))]))
  refine own_by (fun _ kZ => XS.istore X0.here hx rfl (hb hby at_78) rfl (l' := #[.val (.int p1), .val (.int p2), .val (.int p3), .val (.int p4), .val (.int p5), .val (.int (Int32.ofNat N)), .val (.int vi), .val (.int v0), .val (.int v1), .val (.int v2), .val (.int v3), .val (.int v4), .val (.double (FP.i2d bd)), .second, .val (.int (Int32.ofNat f)), .unset, .unset, .unset, .unset]) rfl kZ) ?_
  show own_R p.tables e below _ (s₁.setTop (mkF m 80 #[.val (.int p1), .val (.int p2), .val (.int p3), .val (.int p4), .val (.int p5), .val (.int (Int32.ofNat N)), .val (.int vi), .val (.int v0), .val (.int v1), .val (.int v2), .val (.int v3), .val (.int v4), .val (.double (FP.i2d bd)), .second, .val (.int (Int32.ofNat f)), .unset, .unset, .unset, .unset] []))
  refine own_by (fun _ kZ => XS.iloadN X0.here hx rfl (hb hby at_80) rfl kZ) ?_
  show own_R p.tables e below _ (s₁.setTop (mkF m 81 #[.val (.int p1), .val (.int p2), .val (.int p3), .val (.int p4), .val (.int p5), .val (.int (Int32.ofNat N)), .val (.int vi), .val (.int v0), .val (.int v1), .val (.int v2), .val (.int v3), .val (.int v4), .val (.double (FP.i2d bd)), .second, .val (.int (Int32.ofNat f)), .unset, .unset, .unset, .unset] [(.int p4)]))
  refine own_by (fun _ kZ => X0.ldcInt hx hown (mvT hZ (hw _ (List.mem_of_getElem? (i := 0) rfl))) (g := (mkF m 81 #[.val (.int p1), .val (.int p2), .val (.int p3), .val (.int p4), .val (.int p5), .val (.int (Int32.ofNat N)), .val (.int vi), .val (.int v0), .val (.int v1), .val (.int v2), .val (.int v3), .val (.int v4), .val (.double (FP.i2d bd)), .second, .val (.int (Int32.ofNat f)), .unset, .unset, .unset, .unset] [(.int p4)])) rfl (hb hby at_81) _ kZ) ?_
  show own_R p.tables e below _ (s₁.setTop (mkF m 83 #[.val (.int p1), .val (.int p2), .val (.int p3), .val (.int p4), .val (.int p5), .val (.int (Int32.ofNat N)), .val (.int vi), .val (.int v0), .val (.int v1), .val (.int v2), .val (.int v3), .val (.int v4), .val (.double (FP.i2d bd)), .second, .val (.int (Int32.ofNat f)), .unset, .unset, .unset, .unset] [(.int (2147483647 : Int32)), (.int p4)]))
  refine own_by (fun _ kZ => XS.iand X0.here hx rfl (hb hby at_83) rfl kZ) ?_
  show own_R p.tables e below _ (s₁.setTop (mkF m 84 #[.val (.int p1), .val (.int p2), .val (.int p3), .val (.int p4), .val (.int p5), .val (.int (Int32.ofNat N)), .val (.int vi), .val (.int v0), .val (.int v1), .val (.int v2), .val (.int v3), .val (.int v4), .val (.double (FP.i2d bd)), .second, .val (.int (Int32.ofNat f)), .unset, .unset, .unset, .unset] [(.int (p4 &&& (2147483647 : Int32)))]))
  refine own_by (fun _ kZ => XS.iload X0.here hx rfl (hb hby at_84) rfl kZ) ?_
  show own_R p.tables e below _ (s₁.setTop (mkF m 86 #[.val (.int p1), .val (.int p2), .val (.int p3), .val (.int p4), .val (.int p5), .val (.int (Int32.ofNat N)), .val (.int vi), .val (.int v0), .val (.int v1), .val (.int v2), .val (.int v3), .val (.int v4), .val (.double (FP.i2d bd)), .second, .val (.int (Int32.ofNat f)), .unset, .unset, .unset, .unset] [(.int (Int32.ofNat N)), (.int (p4 &&& (2147483647 : Int32)))]))
  refine own_by (fun _ kZ => XS.iconst X0.here hx rfl (hb hby at_86) kZ) ?_
  show own_R p.tables e below _ (s₁.setTop (mkF m 87 #[.val (.int p1), .val (.int p2), .val (.int p3), .val (.int p4), .val (.int p5), .val (.int (Int32.ofNat N)), .val (.int vi), .val (.int v0), .val (.int v1), .val (.int v2), .val (.int v3), .val (.int v4), .val (.double (FP.i2d bd)), .second, .val (.int (Int32.ofNat f)), .unset, .unset, .unset, .unset] [(.int (1 : Int32)), (.int (Int32.ofNat N)), (.int (p4 &&& (2147483647 : Int32)))]))
  refine own_by (fun _ kZ => XS.iadd X0.here hx rfl (hb hby at_87) rfl kZ) ?_
  show own_R p.tables e below _ (s₁.setTop (mkF m 88 #[.val (.int p1), .val (.int p2), .val (.int p3), .val (.int p4), .val (.int p5), .val (.int (Int32.ofNat N)), .val (.int vi), .val (.int v0), .val (.int v1), .val (.int v2), .val (.int v3), .val (.int v4), .val (.double (FP.i2d bd)), .second, .val (.int (Int32.ofNat f)), .unset, .unset, .unset, .unset] [(.int ((Int32.ofNat N) + (1 : Int32))), (.int (p4 &&& (2147483647 : Int32)))]))
  refine own_by (fun _ kZ => iremM X0 hx rfl (hb hby at_88) rfl hnz kZ) ?_
  show own_R p.tables e below _ (s₁.setTop (mkF m 89 #[.val (.int p1), .val (.int p2), .val (.int p3), .val (.int p4), .val (.int p5), .val (.int (Int32.ofNat N)), .val (.int vi), .val (.int v0), .val (.int v1), .val (.int v2), .val (.int v3), .val (.int v4), .val (.double (FP.i2d bd)), .second, .val (.int (Int32.ofNat f)), .unset, .unset, .unset, .unset] [(.int ((p4 &&& (2147483647 : Int32)) % ((Int32.ofNat N) + (1 : Int32))))]))
  obtain ⟨t, ht, lt⟩ := own_modN1 p4 N hN5
  rw [show ((p4 &&& (2147483647 : Int32)) % ((Int32.ofNat N) + (1 : Int32))) = (Int32.ofNat t) from ht]
  show own_R p.tables e below _ (s₁.setTop (mkF m 89 #[.val (.int p1), .val (.int p2), .val (.int p3), .val (.int p4), .val (.int p5), .val (.int (Int32.ofNat N)), .val (.int vi), .val (.int v0), .val (.int v1), .val (.int v2), .val (.int v3), .val (.int v4), .val (.double (FP.i2d bd)), .second, .val (.int (Int32.ofNat f)), .unset, .unset, .unset, .unset] [(.int (Int32.ofNat t))]))
  refine own_by (fun _ kZ => XS.istore X0.here hx rfl (hb hby at_89) rfl (l' := #[.val (.int p1), .val (.int p2), .val (.int p3), .val (.int p4), .val (.int p5), .val (.int (Int32.ofNat N)), .val (.int vi), .val (.int v0), .val (.int v1), .val (.int v2), .val (.int v3), .val (.int v4), .val (.double (FP.i2d bd)), .second, .val (.int (Int32.ofNat f)), .val (.int (Int32.ofNat t)), .unset, .unset, .unset]) rfl kZ) ?_
  show own_R p.tables e below _ (s₁.setTop (mkF m 91 #[.val (.int p1), .val (.int p2), .val (.int p3), .val (.int p4), .val (.int p5), .val (.int (Int32.ofNat N)), .val (.int vi), .val (.int v0), .val (.int v1), .val (.int v2), .val (.int v3), .val (.int v4), .val (.double (FP.i2d bd)), .second, .val (.int (Int32.ofNat f)), .val (.int (Int32.ofNat t)), .unset, .unset, .unset] []))
  obtain ⟨T68, h68, X68, e68, E68, A68, D68, -, st68⟩ := newO X0 hx hZ hown (hw _ (List.mem_of_getElem? (i := 1) rfl)) (hw _ (List.mem_of_getElem? (i := 2) rfl)) (hw _ (List.mem_of_getElem? (i := 3) rfl)) e0 (g := (mkF m 91 #[.val (.int p1), .val (.int p2), .val (.int p3), .val (.int p4), .val (.int p5), .val (.int (Int32.ofNat N)), .val (.int vi), .val (.int v0), .val (.int v1), .val (.int v2), .val (.int v3), .val (.int v4), .val (.double (FP.i2d bd)), .second, .val (.int (Int32.ofNat f)), .val (.int (Int32.ofNat t)), .unset, .unset, .unset] [])) rfl (hb hby at_91) (by decide) (by decide)
  obtain ⟨bm, g68⟩ : ∃ z, z = h0.size := ⟨_, rfl⟩
  have ge_bm : n0 ≤ bm := Nat.le_trans Z0 (Nat.le_of_eq g68.symm)
  rw [← g68] at A68 D68 st68
  have Z69 : n0 ≤ h68.size := Nat.le_trans Z0 E68.1
  have F68_leaves : Fld Z h68 bm "com/example/frugal_scheduler/frugalscheduler/planners/MinTree" "leaves" "I" (.int (0 : Int32)) := D68 (Or.inl (hw _ (List.mem_of_getElem? (i := 11) rfl))) (ty := .int) (by decide)
  have F68_mins : Fld Z h68 bm "com/example/frugal_scheduler/frugalscheduler/planners/MinTree" "mins" "[D" .null := D68 (Or.inl (hw _ (List.mem_of_getElem? (i := 14) rfl))) (ty := (.array .double)) (by decide)
  have F68_size : Fld Z h68 bm "com/example/frugal_scheduler/frugalscheduler/planners/MinTree" "size" "I" (.int (0 : Int32)) := D68 (Or.inl (hw _ (List.mem_of_getElem? (i := 20) rfl))) (ty := .int) (by decide)
  refine own_by st68 ?_
  show own_R p.tables e below _ (T68.setTop (mkF m 94 #[.val (.int p1), .val (.int p2), .val (.int p3), .val (.int p4), .val (.int p5), .val (.int (Int32.ofNat N)), .val (.int vi), .val (.int v0), .val (.int v1), .val (.int v2), .val (.int v3), .val (.int v4), .val (.double (FP.i2d bd)), .second, .val (.int (Int32.ofNat f)), .val (.int (Int32.ofNat t)), .unset, .unset, .unset] [(.ref bm)]))
  refine own_by (fun _ kZ => XS.dup X68.here hx rfl (hb hby at_94) rfl rfl kZ) ?_
  show own_R p.tables e below _ (T68.setTop (mkF m 95 #[.val (.int p1), .val (.int p2), .val (.int p3), .val (.int p4), .val (.int p5), .val (.int (Int32.ofNat N)), .val (.int vi), .val (.int v0), .val (.int v1), .val (.int v2), .val (.int v3), .val (.int v4), .val (.double (FP.i2d bd)), .second, .val (.int (Int32.ofNat f)), .val (.int (Int32.ofNat t)), .unset, .unset, .unset] [(.ref bm), (.ref bm)]))
  refine own_by (fun _ kZ => XS.iload X68.here hx rfl (hb hby at_95) rfl kZ) ?_
  show own_R p.tables e below _ (T68.setTop (mkF m 97 #[.val (.int p1), .val (.int p2), .val (.int p3), .val (.int p4), .val (.int p5), .val (.int (Int32.ofNat N)), .val (.int vi), .val (.int v0), .val (.int v1), .val (.int v2), .val (.int v3), .val (.int v4), .val (.double (FP.i2d bd)), .second, .val (.int (Int32.ofNat f)), .val (.int (Int32.ofNat t)), .unset, .unset, .unset] [(.int (Int32.ofNat N)), (.ref bm), (.ref bm)]))
  refine own_by (fun _ kZ => XS.iload X68.here hx rfl (hb hby at_97) rfl kZ) ?_
  show own_R p.tables e below _ (T68.setTop (mkF m 99 #[.val (.int p1), .val (.int p2), .val (.int p3), .val (.int p4), .val (.int p5), .val (.int (Int32.ofNat N)), .val (.int vi), .val (.int v0), .val (.int v1), .val (.int v2), .val (.int v3), .val (.int v4), .val (.double (FP.i2d bd)), .second, .val (.int (Int32.ofNat f)), .val (.int (Int32.ofNat t)), .unset, .unset, .unset] [(.int vi), (.int (Int32.ofNat N)), (.ref bm), (.ref bm)]))
  refine own_by (fun _ kZ => own_i2d X68.here hx rfl (hb hby at_99) rfl kZ) ?_
  show own_R p.tables e below _ (T68.setTop (mkF m 100 #[.val (.int p1), .val (.int p2), .val (.int p3), .val (.int p4), .val (.int p5), .val (.int (Int32.ofNat N)), .val (.int vi), .val (.int v0), .val (.int v1), .val (.int v2), .val (.int v3), .val (.int v4), .val (.double (FP.i2d bd)), .second, .val (.int (Int32.ofNat f)), .val (.int (Int32.ofNat t)), .unset, .unset, .unset] [(.double (FP.i2d vi)), (.int (Int32.ofNat N)), (.ref bm), (.ref bm)]))
  obtain ⟨_, _, ⟨T70, L70, k70, n70⟩, -, X70, ⟨Lc70, hQ70, l70, y70, z70⟩, st70⟩ := X68.specialBack hx (y := (⟨"com/example/frugal_scheduler/frugalscheduler/planners/MinTree", "<init>", "(ID)V"⟩ : MethodName)) rfl hown (mvT hZ (hw _ (List.mem_of_getElem? (i := 4) rfl))) (mvT hZ (hw _ (List.mem_of_getElem? (i := 5) rfl))) (mvT hZ (hw _ (List.mem_of_getElem? (i := 6) rfl))) (by decide) (backOf (W := 1) (rm1 l Z a0 hw [] bm (Int32.ofNat N) (FP.i2d vi) N vi h68 n0 Z69 rfl rfl hN1 hN5 ge_bm A68 F68_leaves F68_mins F68_size) hZ (hw _ (List.mem_of_getElem? (i := 6) rfl)) (hw _ (List.mem_of_getElem? (i := 3) rfl)) (by decide) (by decide)) (g := (mkF m 100 #[.val (.int p1), .val (.int p2), .val (.int p3), .val (.int p4), .val (.int p5), .val (.int (Int32.ofNat N)), .val (.int vi), .val (.int v0), .val (.int v1), .val (.int v2), .val (.int v3), .val (.int v4), .val (.double (FP.i2d bd)), .second, .val (.int (Int32.ofNat f)), .val (.int (Int32.ofNat t)), .unset, .unset, .unset] [(.double (FP.i2d vi)), (.int (Int32.ofNat N)), (.ref bm), (.ref bm)])) rfl (by rw [hml]; rfl) (Steps.refl _) (a := bm) (argsL := [(.int (Int32.ofNat N)), (.double (FP.i2d vi))]) (rest := [(.ref bm)]) (lenOf own_pd2 rfl) rfl (by show 2 * 0 + _ ≤ _; exact Nat.le_of_eq rfl) (hb hby at_100) (fun _ _ => ⟨rfl, e68, (by decide : 1 + 1 ≤ _), (by decide : 3 + 16 ≤ _)⟩)
  dsimp only [Pt.U, Pt.locs, Pt.cells, Pt.slots] at X70 l70 y70 z70 st70 hQ70
  subst l70 y70 z70
  obtain ⟨rfl, Nq70, K70, b, W70⟩ := hQ70
  have N70 := Fr.app N0 Nq70
  have f71_bm : Exa Z T70.heap bm "com/example/frugal_scheduler/frugalscheduler/planners/MinTree" := A68.keep K70
  have Z72 : n0 ≤ T70.heap.size := Nat.le_trans Z69 K70.1
  refine own_by (fun _ kZ => st70.trans kZ) ?_
  show own_R p.tables e below _ (T70.setTop (mkF m 103 #[.val (.int p1), .val (.int p2), .val (.int p3), .val (.int p4), .val (.int p5), .val (.int (Int32.ofNat N)), .val (.int vi), .val (.int v0), .val (.int v1), .val (.int v2), .val (.int v3), .val (.int v4), .val (.double (FP.i2d bd)), .second, .val (.int (Int32.ofNat f)), .val (.int (Int32.ofNat t)), .unset, .unset, .unset] [(.ref bm)]))
  refine own_by (fun _ kZ => XS.astore X70.here hx rfl (hb hby at_103) rfl rfl (l' := #[.val (.int p1), .val (.int p2), .val (.int p3), .val (.int p4), .val (.int p5), .val (.int (Int32.ofNat N)), .val (.int vi), .val (.int v0), .val (.int v1), .val (.int v2), .val (.int v3), .val (.int v4), .val (.double (FP.i2d bd)), .second, .val (.int (Int32.ofNat f)), .val (.int (Int32.ofNat t)), .val (.ref bm), .unset, .unset]) rfl kZ) ?_
  show own_R p.tables e below _ (T70.setTop (mkF m 105 #[.val (.int p1), .val (.int p2), .val (.int p3), .val (.int p4), .val (.int p5), .val (.int (Int32.ofNat N)), .val (.int vi), .val (.int v0), .val (.int v1), .val (.int v2), .val (.int v3), .val (.int v4), .val (.double (FP.i2d bd)), .second, .val (.int (Int32.ofNat f)), .val (.int (Int32.ofNat t)), .val (.ref bm), .unset, .unset] []))
  refine own_by (fun _ kZ => XS.aload X70.here hx rfl (hb hby at_105) rfl rfl kZ) ?_
  show own_R p.tables e below _ (T70.setTop (mkF m 107 #[.val (.int p1), .val (.int p2), .val (.int p3), .val (.int p4), .val (.int p5), .val (.int (Int32.ofNat N)), .val (.int vi), .val (.int v0), .val (.int v1), .val (.int v2), .val (.int v3), .val (.int v4), .val (.double (FP.i2d bd)), .second, .val (.int (Int32.ofNat f)), .val (.int (Int32.ofNat t)), .val (.ref bm), .unset, .unset] [(.ref bm)]))
  refine own_by (fun _ kZ => XS.iconst X70.here hx rfl (hb hby at_107) kZ) ?_
  show own_R p.tables e below _ (T70.setTop (mkF m 108 #[.val (.int p1), .val (.int p2), .val (.int p3), .val (.int p4), .val (.int p5), .val (.int (Int32.ofNat N)), .val (.int vi), .val (.int v0), .val (.int v1), .val (.int v2), .val (.int v3), .val (.int v4), .val (.double (FP.i2d bd)), .second, .val (.int (Int32.ofNat f)), .val (.int (Int32.ofNat t)), .val (.ref bm), .unset, .unset] [(.int (0 : Int32)), (.ref bm)]))
  refine own_by (fun _ kZ => XS.iload X70.here hx rfl (hb hby at_108) rfl kZ) ?_
  show own_R p.tables e below _ (T70.setTop (mkF m 110 #[.val (.int p1), .val (.int p2), .val (.int p3), .val (.int p4), .val (.int p5), .val (.int (Int32.ofNat N)), .val (.int vi), .val (.int v0), .val (.int v1), .val (.int v2), .val (.int v3), .val (.int v4), .val (.double (FP.i2d bd)), .second, .val (.int (Int32.ofNat f)), .val (.int (Int32.ofNat t)), .val (.ref bm), .unset, .unset] [(.int v0), (.int (0 : Int32)), (.ref bm)]))
  refine own_by (fun _ kZ => own_i2d X70.here hx rfl (hb hby at_110) rfl kZ) ?_
  show own_R p.tables e below _ (T70.setTop (mkF m 111 #[.val (.int p1), .val (.int p2), .val (.int p3), .val (.int p4), .val (.int p5), .val (.int (Int32.ofNat N)), .val (.int vi), .val (.int v0), .val (.int v1), .val (.int v2), .val (.int v3), .val (.int v4), .val (.double (FP.i2d bd)), .second, .val (.int (Int32.ofNat f)), .val (.int (Int32.ofNat t)), .val (.ref bm), .unset, .unset] [(.double (FP.i2d v0)), (.int (0 : Int32)), (.ref bm)]))
  have hN' : N = 1 ∨ N = 2 ∨ N = 3 ∨ N = 4 ∨ N = 5 := by omega
  rcases hN' with rfl | rfl | rfl | rfl | rfl
  · skip
    show own_R p.tables e below _ (T70.setTop (mkF m 111 #[.val (.int p1), .val (.int p2), .val (.int p3), .val (.int p4), .val (.int p5), .val (.int (Int32.ofNat 1)), .val (.int vi), .val (.int v0), .val (.int v1), .val (.int v2), .val (.int v3), .val (.int v4), .val (.double (FP.i2d bd)), .second, .val (.int (Int32.ofNat f)), .val (.int (Int32.ofNat t)), .val (.ref bm), .unset, .unset] [(.double (FP.i2d v0)), (.int (0 : Int32)), (.ref bm)]))
    obtain ⟨cq73, kq73, q73a, q73b, q73c⟩ := isOf hZ rfl f71_bm
    obtain ⟨_, _, ⟨T73, L73, k73, n73⟩, -, X73, ⟨Lc73, hQ73, l73, y73, z73⟩, st73⟩ := X70.virtualBack hx (y := (⟨"com/example/frugal_scheduler/frugalscheduler/planners/MinTree", "set", "(ID)V"⟩ : MethodName)) (z := (⟨"com/example/frugal_scheduler/frugalscheduler/planners/MinTree", "set", "(ID)V"⟩ : MethodName)) hown (mvT hZ (hw _ (List.mem_of_getElem? (i := 21) rfl))) (mvT hZ (hw _ (List.mem_of_getElem? (i := 22) rfl))) (notFace_of_selects (args := #[]) (mvT hZ (hw _ (List.mem_of_getElem? (i := 24) rfl)))) (mvT hZ (hw _ (List.mem_of_getElem? (i := 24) rfl))) (mvT hZ (hw _ (List.mem_of_getElem? (i := 23) rfl))) (by decide) (backOf (W := 0) (rm4 l Z a0 hw [] bm (0 : Int32) (FP.i2d v0) b 1 (fun _ => vi) 0 v0 T70.heap n0 Z72 W70 rfl (by decide) rfl) hZ (hw _ (List.mem_of_getElem? (i := 25) rfl)) (hw _ (List.mem_of_getElem? (i := 3) rfl)) (by decide) (by decide)) q73a q73c (g := (mkF m 111 #[.val (.int p1), .val (.int p2), .val (.int p3), .val (.int p4), .val (.int p5), .val (.int (Int32.ofNat 1)), .val (.int vi), .val (.int v0), .val (.int v1), .val (.int v2), .val (.int v3), .val (.int v4), .val (.double (FP.i2d bd)), .second, .val (.int (Int32.ofNat f)), .val (.int (Int32.ofNat t)), .val (.ref bm), .unset, .unset] [(.double (FP.i2d v0)), (.int (0 : Int32)), (.ref bm)])) rfl (by rw [hml]; rfl) (Steps.refl _) (argsL := [(.int (0 : Int32)), (.double (FP.i2d v0))]) (rest := []) (lenOf own_pd2 rfl) rfl (by show 2 * 0 + _ ≤ _; exact Nat.le_of_eq rfl) (hb hby at_111) (fun _ _ => ⟨rfl, rfl, (by decide : 2 + 0 ≤ _), (by decide : 19 + 0 ≤ _)⟩)
    dsimp only [Pt.U, Pt.locs, Pt.cells, Pt.slots] at X73 l73 y73 z73 st73 hQ73
    subst l73 y73 z73
    obtain ⟨rfl, Nq73, K73, W73⟩ := hQ73
    have N73 := Fr.app N70 Nq73
    have f74_bm : Exa Z T73.heap bm "com/example/frugal_scheduler/frugalscheduler/planners/MinTree" := f71_bm.keep K73
    have Z75 : n0 ≤ T73.heap.size := Nat.le_trans Z72 K73.1
    refine own_by (fun _ kZ => st73.trans kZ) ?_
    show own_R p.tables e below _ (T73.setTop (mkF m 114 #[.val (.int p1), .val (.int p2), .val (.int p3), .val (.int p4), .val (.int p5), .val (.int (Int32.ofNat 1)), .val (.int vi), .val (.int v0), .val (.int v1), .val (.int v2), .val (.int v3), .val (.int v4), .val (.double (FP.i2d bd)), .second, .val (.int (Int32.ofNat f)), .val (.int (Int32.ofNat t)), .val (.ref bm), .unset, .unset] []))
    refine own_by (fun _ kZ => XS.iload X73.here hx rfl (hb hby at_114) rfl kZ) ?_
    show own_R p.tables e below _ (T73.setTop (mkF m 116 #[.val (.int p1), .val (.int p2), .val (.int p3), .val (.int p4), .val (.int p5), .val (.int (Int32.ofNat 1)), .val (.int vi), .val (.int v0), .val (.int v1), .val (.int v2), .val (.int v3), .val (.int v4), .val (.double (FP.i2d bd)), .second, .val (.int (Int32.ofNat f)), .val (.int (Int32.ofNat t)), .val (.ref bm), .unset, .unset] [(.int (Int32.ofNat 1))]))
    refine own_by (fun _ kZ => XS.iconst X73.here hx rfl (hb hby at_116) kZ) ?_
    show own_R p.tables e below _ (T73.setTop (mkF m 117 #[.val (.int p1), .val (.int p2), .val (.int p3), .val (.int p4), .val (.int p5), .val (.int (Int32.ofNat 1)), .val (.int vi), .val (.int v0), .val (.int v1), .val (.int v2), .val (.int v3), .val (.int v4), .val (.double (FP.i2d bd)), .second, .val (.int (Int32.ofNat f)), .val (.int (Int32.ofNat t)), .val (.ref bm), .unset, .unset] [(.int (1 : Int32)), (.int (Int32.ofNat 1))]))
    refine own_by (fun _ kZ => XS.icmpYes X73.here hx rfl (pc0 := 117) (pc' := 129) rfl (hb hby at_117) rfl (flt (by decide : ¬ (1 : Int32) < (Int32.ofNat 1))).2.2.2 (by decide) (by decide) kZ) ?_
    show own_R p.tables e below _ (T73.setTop (mkF m 129 #[.val (.int p1), .val (.int p2), .val (.int p3), .val (.int p4), .val (.int p5), .val (.int (Int32.ofNat 1)), .val (.int vi), .val (.int v0), .val (.int v1), .val (.int v2), .val (.int v3), .val (.int v4), .val (.double (FP.i2d bd)), .second, .val (.int (Int32.ofNat f)), .val (.int (Int32.ofNat t)), .val (.ref bm), .unset, .unset] []))
    refine own_by (fun _ kZ => XS.iload X73.here hx rfl (hb hby at_129) rfl kZ) ?_
    show own_R p.tables e below _ (T73.setTop (mkF m 131 #[.val (.int p1), .val (.int p2), .val (.int p3), .val (.int p4), .val (.int p5), .val (.int (Int32.ofNat 1)), .val (.int vi), .val (.int v0), .val (.int v1), .val (.int v2), .val (.int v3), .val (.int v4), .val (.double (FP.i2d bd)), .second, .val (.int (Int32.ofNat f)), .val (.int (Int32.ofNat t)), .val (.ref bm), .unset, .unset] [(.int (Int32.ofNat 1))]))
    refine own_by (fun _ kZ => XS.iconst X73.here hx rfl (hb hby at_131) kZ) ?_
    show own_R p.tables e below _ (T73.setTop (mkF m 132 #[.val (.int p1), .val (.int p2), .val (.int p3), .val (.int p4), .val (.int p5), .val (.int (Int32.ofNat 1)), .val (.int vi), .val (.int v0), .val (.int v1), .val (.int v2), .val (.int v3), .val (.int v4), .val (.double (FP.i2d bd)), .second, .val (.int (Int32.ofNat f)), .val (.int (Int32.ofNat t)), .val (.ref bm), .unset, .unset] [(.int (2 : Int32)), (.int (Int32.ofNat 1))]))
    refine own_by (fun _ kZ => XS.icmpYes X73.here hx rfl (pc0 := 132) (pc' := 144) rfl (hb hby at_132) rfl (flt (by decide : ¬ (2 : Int32) < (Int32.ofNat 1))).2.2.2 (by decide) (by decide) kZ) ?_
    show own_R p.tables e below _ (T73.setTop (mkF m 144 #[.val (.int p1), .val (.int p2), .val (.int p3), .val (.int p4), .val (.int p5), .val (.int (Int32.ofNat 1)), .val (.int vi), .val (.int v0), .val (.int v1), .val (.int v2), .val (.int v3), .val (.int v4), .val (.double (FP.i2d bd)), .second, .val (.int (Int32.ofNat f)), .val (.int (Int32.ofNat t)), .val (.ref bm), .unset, .unset] []))
    refine own_by (fun _ kZ => XS.iload X73.here hx rfl (hb hby at_144) rfl kZ) ?_
    show own_R p.tables e below _ (T73.setTop (mkF m 146 #[.val (.int p1), .val (.int p2), .val (.int p3), .val (.int p4), .val (.int p5), .val (.int (Int32.ofNat 1)), .val (.int vi), .val (.int v0), .val (.int v1), .val (.int v2), .val (.int v3), .val (.int v4), .val (.double (FP.i2d bd)), .second, .val (.int (Int32.ofNat f)), .val (.int (Int32.ofNat t)), .val (.ref bm), .unset, .unset] [(.int (Int32.ofNat 1))]))
    refine own_by (fun _ kZ => XS.iconst X73.here hx rfl (hb hby at_146) kZ) ?_
    show own_R p.tables e below _ (T73.setTop (mkF m 147 #[.val (.int p1), .val (.int p2), .val (.int p3), .val (.int p4), .val (.int p5), .val (.int (Int32.ofNat 1)), .val (.int vi), .val (.int v0), .val (.int v1), .val (.int v2), .val (.int v3), .val (.int v4), .val (.double (FP.i2d bd)), .second, .val (.int (Int32.ofNat f)), .val (.int (Int32.ofNat t)), .val (.ref bm), .unset, .unset] [(.int (3 : Int32)), (.int (Int32.ofNat 1))]))
    refine own_by (fun _ kZ => XS.icmpYes X73.here hx rfl (pc0 := 147) (pc' := 159) rfl (hb hby at_147) rfl (flt (by decide : ¬ (3 : Int32) < (Int32.ofNat 1))).2.2.2 (by decide) (by decide) kZ) ?_
    show own_R p.tables e below _ (T73.setTop (mkF m 159 #[.val (.int p1), .val (.int p2), .val (.int p3), .val (.int p4), .val (.int p5), .val (.int (Int32.ofNat 1)), .val (.int vi), .val (.int v0), .val (.int v1), .val (.int v2), .val (.int v3), .val (.int v4), .val (.double (FP.i2d bd)), .second, .val (.int (Int32.ofNat f)), .val (.int (Int32.ofNat t)), .val (.ref bm), .unset, .unset] []))
    refine own_by (fun _ kZ => XS.iload X73.here hx rfl (hb hby at_159) rfl kZ) ?_
    show own_R p.tables e below _ (T73.setTop (mkF m 161 #[.val (.int p1), .val (.int p2), .val (.int p3), .val (.int p4), .val (.int p5), .val (.int (Int32.ofNat 1)), .val (.int vi), .val (.int v0), .val (.int v1), .val (.int v2), .val (.int v3), .val (.int v4), .val (.double (FP.i2d bd)), .second, .val (.int (Int32.ofNat f)), .val (.int (Int32.ofNat t)), .val (.ref bm), .unset, .unset] [(.int (Int32.ofNat 1))]))
    refine own_by (fun _ kZ => XS.iconst X73.here hx rfl (hb hby at_161) kZ) ?_
    show own_R p.tables e below _ (T73.setTop (mkF m 162 #[.val (.int p1), .val (.int p2), .val (.int p3), .val (.int p4), .val (.int p5), .val (.int (Int32.ofNat 1)), .val (.int vi), .val (.int v0), .val (.int v1), .val (.int v2), .val (.int v3), .val (.int v4), .val (.double (FP.i2d bd)), .second, .val (.int (Int32.ofNat f)), .val (.int (Int32.ofNat t)), .val (.ref bm), .unset, .unset] [(.int (4 : Int32)), (.int (Int32.ofNat 1))]))
    refine own_by (fun _ kZ => XS.icmpYes X73.here hx rfl (pc0 := 162) (pc' := 174) rfl (hb hby at_162) rfl (flt (by decide : ¬ (4 : Int32) < (Int32.ofNat 1))).2.2.2 (by decide) (by decide) kZ) ?_
    show own_R p.tables e below _ (T73.setTop (mkF m 174 #[.val (.int p1), .val (.int p2), .val (.int p3), .val (.int p4), .val (.int p5), .val (.int (Int32.ofNat 1)), .val (.int vi), .val (.int v0), .val (.int v1), .val (.int v2), .val (.int v3), .val (.int v4), .val (.double (FP.i2d bd)), .second, .val (.int (Int32.ofNat f)), .val (.int (Int32.ofNat t)), .val (.ref bm), .unset, .unset] []))
    refine own_by (fun _ kZ => XS.aload X73.here hx rfl (hb hby at_174) rfl rfl kZ) ?_
    show own_R p.tables e below _ (T73.setTop (mkF m 176 #[.val (.int p1), .val (.int p2), .val (.int p3), .val (.int p4), .val (.int p5), .val (.int (Int32.ofNat 1)), .val (.int vi), .val (.int v0), .val (.int v1), .val (.int v2), .val (.int v3), .val (.int v4), .val (.double (FP.i2d bd)), .second, .val (.int (Int32.ofNat f)), .val (.int (Int32.ofNat t)), .val (.ref bm), .unset, .unset] [(.ref bm)]))
    refine own_by (fun _ kZ => XS.iload X73.here hx rfl (hb hby at_176) rfl kZ) ?_
    show own_R p.tables e below _ (T73.setTop (mkF m 178 #[.val (.int p1), .val (.int p2), .val (.int p3), .val (.int p4), .val (.int p5), .val (.int (Int32.ofNat 1)), .val (.int vi), .val (.int v0), .val (.int v1), .val (.int v2), .val (.int v3), .val (.int v4), .val (.double (FP.i2d bd)), .second, .val (.int (Int32.ofNat f)), .val (.int (Int32.ofNat t)), .val (.ref bm), .unset, .unset] [(.int (Int32.ofNat f)), (.ref bm)]))
    refine own_by (fun _ kZ => XS.iload X73.here hx rfl (hb hby at_178) rfl kZ) ?_
    show own_R p.tables e below _ (T73.setTop (mkF m 180 #[.val (.int p1), .val (.int p2), .val (.int p3), .val (.int p4), .val (.int p5), .val (.int (Int32.ofNat 1)), .val (.int vi), .val (.int v0), .val (.int v1), .val (.int v2), .val (.int v3), .val (.int v4), .val (.double (FP.i2d bd)), .second, .val (.int (Int32.ofNat f)), .val (.int (Int32.ofNat t)), .val (.ref bm), .unset, .unset] [(.int (Int32.ofNat t)), (.int (Int32.ofNat f)), (.ref bm)]))
    refine own_by (fun _ kZ => own_dload X73.here hx rfl (hb hby at_180) rfl kZ) ?_
    show own_R p.tables e below _ (T73.setTop (mkF m 182 #[.val (.int p1), .val (.int p2), .val (.int p3), .val (.int p4), .val (.int p5), .val (.int (Int32.ofNat 1)), .val (.int vi), .val (.int v0), .val (.int v1), .val (.int v2), .val (.int v3), .val (.int v4), .val (.double (FP.i2d bd)), .second, .val (.int (Int32.ofNat f)), .val (.int (Int32.ofNat t)), .val (.ref bm), .unset, .unset] [(.double (FP.i2d bd)), (.int (Int32.ofNat t)), (.int (Int32.ofNat f)), (.ref bm)]))
    have WT : own_MT Z T73.heap n0 bm b 1 (own_tree own_min 1 v0 v1 v2 v3 v4 vi) := by rw [own_tr1]; exact W73
    obtain ⟨cq76, kq76, q76a, q76b, q76c⟩ := isOf hZ rfl f74_bm
    obtain ⟨_, _, ⟨T76, L76, k76, n76⟩, -, X76, ⟨Lc76, hQ76, l76, y76, z76⟩, st76⟩ := X73.virtualBack hx (y := (⟨"com/example/frugal_scheduler/frugalscheduler/planners/MinTree", "firstAtMost", "(IID)I"⟩ : MethodName)) (z := (⟨"com/example/frugal_scheduler/frugalscheduler/planners/MinTree", "firstAtMost", "(IID)I"⟩ : MethodName)) hown (mvT hZ (hw _ (List.mem_of_getElem? (i := 26) rfl))) (mvT hZ (hw _ (List.mem_of_getElem? (i := 27) rfl))) (notFace_of_selects (args := #[]) (mvT hZ (hw _ (List.mem_of_getElem? (i := 29) rfl)))) (mvT hZ (hw _ (List.mem_of_getElem? (i := 29) rfl))) (mvT hZ (hw _ (List.mem_of_getElem? (i := 28) rfl))) (by decide) (backOf (W := 0) (rm5 l Z a0 hw [] bm (Int32.ofNat f) (Int32.ofNat t) (FP.i2d bd) b 1 (own_tree own_min 1 v0 v1 v2 v3 v4 vi) f t bd (own_want (own_le bd v0) (own_le bd v1) (own_le bd v2) (own_le bd v3) (own_le bd v4) f t) T73.heap n0 Z75 WT (by decide) rfl rfl rfl lf lt (own_famB bd v0 v1 v2 v3 v4 vi 1 f t (by decide) (by decide) lf lt)) hZ (hw _ (List.mem_of_getElem? (i := 30) rfl)) (hw _ (List.mem_of_getElem? (i := 3) rfl)) (by decide) (by decide)) q76a q76c (g := (mkF m 182 #[.val (.int p1), .val (.int p2), .val (.int p3), .val (.int p4), .val (.int p5), .val (.int (Int32.ofNat 1)), .val (.int vi), .val (.int v0), .val (.int v1), .val (.int v2), .val (.int v3), .val (.int v4), .val (.double (FP.i2d bd)), .second, .val (.int (Int32.ofNat f)), .val (.int (Int32.ofNat t)), .val (.ref bm), .unset, .unset] [(.double (FP.i2d bd)), (.int (Int32.ofNat t)), (.int (Int32.ofNat f)), (.ref bm)])) rfl (by rw [hml]; rfl) (Steps.refl _) (argsL := [(.int (Int32.ofNat f)), (.int (Int32.ofNat t)), (.double (FP.i2d bd))]) (rest := []) (lenOf own_pd3 rfl) rfl (by show 2 * 0 + _ ≤ _; exact Nat.le_of_eq rfl) (hb hby at_182) (fun _ _ => ⟨rfl, rfl, (by decide : 2 + 0 ≤ _), (by decide : 19 + 0 ≤ _)⟩)
    dsimp only [Pt.U, Pt.locs, Pt.cells, Pt.slots] at X76 l76 y76 z76 st76 hQ76
    subst l76 y76 z76
    obtain ⟨rfl, Nq76, e76⟩ := hQ76
    have N76 := Fr.app N73 Nq76
    refine own_by (fun _ kZ => st76.trans kZ) ?_
    show own_R p.tables e below _ (T76.setTop (mkF m 185 #[.val (.int p1), .val (.int p2), .val (.int p3), .val (.int p4), .val (.int p5), .val (.int (Int32.ofNat 1)), .val (.int vi), .val (.int v0), .val (.int v1), .val (.int v2), .val (.int v3), .val (.int v4), .val (.double (FP.i2d bd)), .second, .val (.int (Int32.ofNat f)), .val (.int (Int32.ofNat t)), .val (.ref bm), .unset, .unset] [(.int (own_want (own_le bd v0) (own_le bd v1) (own_le bd v2) (own_le bd v3) (own_le bd v4) f t))]))
    refine own_by (fun _ kZ => XS.istore X76.here hx rfl (hb hby at_185) rfl (l' := #[.val (.int p1), .val (.int p2), .val (.int p3), .val (.int p4), .val (.int p5), .val (.int (Int32.ofNat 1)), .val (.int vi), .val (.int v0), .val (.int v1), .val (.int v2), .val (.int v3), .val (.int v4), .val (.double (FP.i2d bd)), .second, .val (.int (Int32.ofNat f)), .val (.int (Int32.ofNat t)), .val (.ref bm), .val (.int (own_want (own_le bd v0) (own_le bd v1) (own_le bd v2) (own_le bd v3) (own_le bd v4) f t)), .unset]) rfl kZ) ?_
    show own_R p.tables e below _ (T76.setTop (mkF m 187 #[.val (.int p1), .val (.int p2), .val (.int p3), .val (.int p4), .val (.int p5), .val (.int (Int32.ofNat 1)), .val (.int vi), .val (.int v0), .val (.int v1), .val (.int v2), .val (.int v3), .val (.int v4), .val (.double (FP.i2d bd)), .second, .val (.int (Int32.ofNat f)), .val (.int (Int32.ofNat t)), .val (.ref bm), .val (.int (own_want (own_le bd v0) (own_le bd v1) (own_le bd v2) (own_le bd v3) (own_le bd v4) f t)), .unset] []))
    refine own_by (fun _ kZ => XS.iconst X76.here hx rfl (hb hby at_187) kZ) ?_
    show own_R p.tables e below _ (T76.setTop (mkF m 188 #[.val (.int p1), .val (.int p2), .val (.int p3), .val (.int p4), .val (.int p5), .val (.int (Int32.ofNat 1)), .val (.int vi), .val (.int v0), .val (.int v1), .val (.int v2), .val (.int v3), .val (.int v4), .val (.double (FP.i2d bd)), .second, .val (.int (Int32.ofNat f)), .val (.int (Int32.ofNat t)), .val (.ref bm), .val (.int (own_want (own_le bd v0) (own_le bd v1) (own_le bd v2) (own_le bd v3) (own_le bd v4) f t)), .unset] [(.int (-1 : Int32))]))
    refine own_by (fun _ kZ => XS.istore X76.here hx rfl (hb hby at_188) rfl (l' := #[.val (.int p1), .val (.int p2), .val (.int p3), .val (.int p4), .val (.int p5), .val (.int (Int32.ofNat 1)), .val (.int vi), .val (.int v0), .val (.int v1), .val (.int v2), .val (.int v3), .val (.int v4), .val (.double (FP.i2d bd)), .second, .val (.int (Int32.ofNat f)), .val (.int (Int32.ofNat t)), .val (.ref bm), .val (.int (own_want (own_le bd v0) (own_le bd v1) (own_le bd v2) (own_le bd v3) (own_le bd v4) f t)), .val (.int (-1 : Int32))]) rfl kZ) ?_
    show own_R p.tables e below _ (T76.setTop (mkF m 190 #[.val (.int p1), .val (.int p2), .val (.int p3), .val (.int p4), .val (.int p5), .val (.int (Int32.ofNat 1)), .val (.int vi), .val (.int v0), .val (.int v1), .val (.int v2), .val (.int v3), .val (.int v4), .val (.double (FP.i2d bd)), .second, .val (.int (Int32.ofNat f)), .val (.int (Int32.ofNat t)), .val (.ref bm), .val (.int (own_want (own_le bd v0) (own_le bd v1) (own_le bd v2) (own_le bd v3) (own_le bd v4) f t)), .val (.int (-1 : Int32))] []))
    refine own_by (fun _ kZ => XS.iconst X76.here hx rfl (hb hby at_190) kZ) ?_
    show own_R p.tables e below _ (T76.setTop (mkF m 191 #[.val (.int p1), .val (.int p2), .val (.int p3), .val (.int p4), .val (.int p5), .val (.int (Int32.ofNat 1)), .val (.int vi), .val (.int v0), .val (.int v1), .val (.int v2), .val (.int v3), .val (.int v4), .val (.double (FP.i2d bd)), .second, .val (.int (Int32.ofNat f)), .val (.int (Int32.ofNat t)), .val (.ref bm), .val (.int (own_want (own_le bd v0) (own_le bd v1) (own_le bd v2) (own_le bd v3) (own_le bd v4) f t)), .val (.int (-1 : Int32))] [(.int (4 : Int32))]))
    refine own_by (fun _ kZ => XS.iload X76.here hx rfl (hb hby at_191) rfl kZ) ?_
    show own_R p.tables e below _ (T76.setTop (mkF m 193 #[.val (.int p1), .val (.int p2), .val (.int p3), .val (.int p4), .val (.int p5), .val (.int (Int32.ofNat 1)), .val (.int vi), .val (.int v0), .val (.int v1), .val (.int v2), .val (.int v3), .val (.int v4), .val (.double (FP.i2d bd)), .second, .val (.int (Int32.ofNat f)), .val (.int (Int32.ofNat t)), .val (.ref bm), .val (.int (own_want (own_le bd v0) (own_le bd v1) (own_le bd v2) (own_le bd v3) (own_le bd v4) f t)), .val (.int (-1 : Int32))] [(.int v4), (.int (4 : Int32))]))
    refine own_by (fun _ kZ => XS.iload X76.here hx rfl (hb hby at_193) rfl kZ) ?_
    show own_R p.tables e below _ (T76.setTop (mkF m 195 #[.val (.int p1), .val (.int p2), .val (.int p3), .val (.int p4), .val (.int p5), .val (.int (Int32.ofNat 1)), .val (.int vi), .val (.int v0), .val (.int v1), .val (.int v2), .val (.int v3), .val (.int v4), .val (.double (FP.i2d bd)), .second, .val (.int (Int32.ofNat f)), .val (.int (Int32.ofNat t)), .val (.ref bm), .val (.int (own_want (own_le bd v0) (own_le bd v1) (own_le bd v2) (own_le bd v3) (own_le bd v4) f t)), .val (.int (-1 : Int32))] [(.int (Int32.ofNat f)), (.int v4), (.int (4 : Int32))]))
    refine own_by (fun _ kZ => XS.iload X76.here hx rfl (hb hby at_195) rfl kZ) ?_
    show own_R p.tables e below _ (T76.setTop (mkF m 197 #[.val (.int p1), .val (.int p2), .val (.int p3), .val (.int p4), .val (.int p5), .val (.int (Int32.ofNat 1)), .val (.int vi), .val (.int v0), .val (.int v1), .val (.int v2), .val (.int v3), .val (.int v4), .val (.double (FP.i2d bd)), .second, .val (.int (Int32.ofNat f)), .val (.int (Int32.ofNat t)), .val (.ref bm), .val (.int (own_want (own_le bd v0) (own_le bd v1) (own_le bd v2) (own_le bd v3) (own_le bd v4) f t)), .val (.int (-1 : Int32))] [(.int (Int32.ofNat t)), (.int (Int32.ofNat f)), (.int v4), (.int (4 : Int32))]))
    refine own_by (fun _ kZ => own_dload X76.here hx rfl (hb hby at_197) rfl kZ) ?_
    show own_R p.tables e below _ (T76.setTop (mkF m 199 #[.val (.int p1), .val (.int p2), .val (.int p3), .val (.int p4), .val (.int p5), .val (.int (Int32.ofNat 1)), .val (.int vi), .val (.int v0), .val (.int v1), .val (.int v2), .val (.int v3), .val (.int v4), .val (.double (FP.i2d bd)), .second, .val (.int (Int32.ofNat f)), .val (.int (Int32.ofNat t)), .val (.ref bm), .val (.int (own_want (own_le bd v0) (own_le bd v1) (own_le bd v2) (own_le bd v3) (own_le bd v4) f t)), .val (.int (-1 : Int32))] [(.double (FP.i2d bd)), (.int (Int32.ofNat t)), (.int (Int32.ofNat f)), (.int v4), (.int (4 : Int32))]))
    obtain ⟨_, _, ⟨T77, L77, k77, n77⟩, -, X77, ⟨Lc77, hQ77, l77, y77, z77⟩, st77⟩ := Jvm.LawKit.callS X76 hx (y := (⟨"com/example/frugal_scheduler/frugalscheduler/planners/MinTreeFirstAtMostPinLaw", "hit", "(IIIID)Z"⟩ : MethodName)) hown (mvT hZ (hw _ (List.mem_of_getElem? (i := 31) rfl))) (mvT hZ (hw _ (List.mem_of_getElem? (i := 32) rfl))) (mvT hZ (hw _ (List.mem_of_getElem? (i := 33) rfl))) (mvT hZ (hw _ (List.mem_of_getElem? (i := 34) rfl))) (by decide) (backOf (W := 0) (rm6 l Z a0 hw [] (4 : Int32) v4 (Int32.ofNat f) (Int32.ofNat t) (FP.i2d bd) bd T73.heap n0 Z75 rfl) hZ (hw _ (List.mem_of_getElem? (i := 34) rfl)) (hw _ (List.mem_of_getElem? (i := 33) rfl)) (by decide) (by decide)) (g := (mkF m 199 #[.val (.int p1), .val (.int p2), .val (.int p3), .val (.int p4), .val (.int p5), .val (.int (Int32.ofNat 1)), .val (.int vi), .val (.int v0), .val (.int v1), .val (.int v2), .val (.int v3), .val (.int v4), .val (.double (FP.i2d bd)), .second, .val (.int (Int32.ofNat f)), .val (.int (Int32.ofNat t)), .val (.ref bm), .val (.int (own_want (own_le bd v0) (own_le bd v1) (own_le bd v2) (own_le bd v3) (own_le bd v4) f t)), .val (.int (-1 : Int32))] [(.double (FP.i2d bd)), (.int (Int32.ofNat t)), (.int (Int32.ofNat f)), (.int v4), (.int (4 : Int32))])) rfl (by rw [hml]; rfl) (argsL := [(.int (4 : Int32)), (.int v4), (.int (Int32.ofNat f)), (.int (Int32.ofNat t)), (.double (FP.i2d bd))]) (rest := []) (lenOf own_pd4 rfl) rfl (by show 2 * 0 + _ ≤ _; exact Nat.le_of_eq rfl) (hb hby at_199) (fun _ _ => ⟨rfl, e76, (by decide : 2 + 0 ≤ _), (by decide : 19 + 0 ≤ _)⟩)
    dsimp only [Pt.U, Pt.locs, Pt.cells, Pt.slots] at X77 l77 y77 z77 st77 hQ77
    subst l77 y77 z77
    obtain ⟨rfl, Nq77, e77⟩ := hQ77
    have N77 := Fr.app N76 Nq77
    refine own_by st77 ?_
    show own_R p.tables e below _ (T77.setTop (mkF m 202 #[.val (.int p1), .val (.int p2), .val (.int p3), .val (.int p4), .val (.int p5), .val (.int (Int32.ofNat 1)), .val (.int vi), .val (.int v0), .val (.int v1), .val (.int v2), .val (.int v3), .val (.int v4), .val (.double (FP.i2d bd)), .second, .val (.int (Int32.ofNat f)), .val (.int (Int32.ofNat t)), .val (.ref bm), .val (.int (own_want (own_le bd v0) (own_le bd v1) (own_le bd v2) (own_le bd v3) (own_le bd v4) f t)), .val (.int (-1 : Int32))] [(.int (own_hit (4 : Int32) v4 (Int32.ofNat f) (Int32.ofNat t) bd))]))
    obtain ⟨e4, h_e4⟩ : ∃ z : Int32, z = (if (own_hit (4 : Int32) v4 (Int32.ofNat f) (Int32.ofNat t) bd) = (0 : Int32) then (-1 : Int32) else (4 : Int32)) := ⟨_, rfl⟩
    refine own_by (S' := T77.setTop (mkF m 208 #[.val (.int p1), .val (.int p2), .val (.int p3), .val (.int p4), .val (.int p5), .val (.int (Int32.ofNat 1)), .val (.int vi), .val (.int v0), .val (.int v1), .val (.int v2), .val (.int v3), .val (.int v4), .val (.double (FP.i2d bd)), .second, .val (.int (Int32.ofNat f)), .val (.int (Int32.ofNat t)), .val (.ref bm), .val (.int (own_want (own_le bd v0) (own_le bd v1) (own_le bd v2) (own_le bd v3) (own_le bd v4) f t)), .val (.int e4)] [])) (fun _ kZ => ?_) ?_
    · skip
      show Steps p.tables e below (T77.setTop (mkF m 202 #[.val (.int p1), .val (.int p2), .val (.int p3), .val (.int p4), .val (.int p5), .val (.int (Int32.ofNat 1)), .val (.int vi), .val (.int v0), .val (.int v1), .val (.int v2), .val (.int v3), .val (.int v4), .val (.double (FP.i2d bd)), .second, .val (.int (Int32.ofNat f)), .val (.int (Int32.ofNat t)), .val (.ref bm), .val (.int (own_want (own_le bd v0) (own_le bd v1) (own_le bd v2) (own_le bd v3) (own_le bd v4) f t)), .val (.int (-1 : Int32))] [(.int (own_hit (4 : Int32) v4 (Int32.ofNat f) (Int32.ofNat t) bd))])) _
      by_cases hd202 : (own_hit (4 : Int32) v4 (Int32.ofNat f) (Int32.ofNat t) bd) = (0 : Int32)
      · skip
        refine XS.ifYes X77.here hx rfl (pc0 := 202) (pc' := 208) rfl (hb hby at_202) rfl ((if0 _ _).trans (teq hd202).1) (by decide) (by decide) ?_
        show Steps p.tables e below (T77.setTop (mkF m 208 #[.val (.int p1), .val (.int p2), .val (.int p3), .val (.int p4), .val (.int p5), .val (.int (Int32.ofNat 1)), .val (.int vi), .val (.int v0), .val (.int v1), .val (.int v2), .val (.int v3), .val (.int v4), .val (.double (FP.i2d bd)), .second, .val (.int (Int32.ofNat f)), .val (.int (Int32.ofNat t)), .val (.ref bm), .val (.int (own_want (own_le bd v0) (own_le bd v1) (own_le bd v2) (own_le bd v3) (own_le bd v4) f t)), .val (.int (-1 : Int32))] [])) _
        rw [if_pos hd202] at h_e4
        subst h_e4
        exact kZ
      · skip
        refine XS.ifNo X77.here hx rfl (hb hby at_202) rfl ((if0 _ _).trans (feq hd202).1) ?_
        show Steps p.tables e below (T77.setTop (mkF m 205 #[.val (.int p1), .val (.int p2), .val (.int p3), .val (.int p4), .val (.int p5), .val (.int (Int32.ofNat 1)), .val (.int vi), .val (.int v0), .val (.int v1), .val (.int v2), .val (.int v3), .val (.int v4), .val (.double (FP.i2d bd)), .second, .val (.int (Int32.ofNat f)), .val (.int (Int32.ofNat t)), .val (.ref bm), .val (.int (own_want (own_le bd v0) (own_le bd v1) (own_le bd v2) (own_le bd v3) (own_le bd v4) f t)), .val (.int (-1 : Int32))] [])) _
        refine XS.iconst X77.here hx rfl (hb hby at_205) ?_
        show Steps p.tables e below (T77.setTop (mkF m 206 #[.val (.int p1), .val (.int p2), .val (.int p3), .val (.int p4), .val (.int p5), .val (.int (Int32.ofNat 1)), .val (.int vi), .val (.int v0), .val (.int v1), .val (.int v2), .val (.int v3), .val (.int v4), .val (.double (FP.i2d bd)), .second, .val (.int (Int32.ofNat f)), .val (.int (Int32.ofNat t)), .val (.ref bm), .val (.int (own_want (own_le bd v0) (own_le bd v1) (own_le bd v2) (own_le bd v3) (own_le bd v4) f t)), .val (.int (-1 : Int32))] [(.int (4 : Int32))])) _
        refine XS.istore X77.here hx rfl (hb hby at_206) rfl (l' := #[.val (.int p1), .val (.int p2), .val (.int p3), .val (.int p4), .val (.int p5), .val (.int (Int32.ofNat 1)), .val (.int vi), .val (.int v0), .val (.int v1), .val (.int v2), .val (.int v3), .val (.int v4), .val (.double (FP.i2d bd)), .second, .val (.int (Int32.ofNat f)), .val (.int (Int32.ofNat t)), .val (.ref bm), .val (.int (own_want (own_le bd v0) (own_le bd v1) (own_le bd v2) (own_le bd v3) (own_le bd v4) f t)), .val (.int (4 : Int32))]) rfl ?_
        show Steps p.tables e below (T77.setTop (mkF m 208 #[.val (.int p1), .val (.int p2), .val (.int p3), .val (.int p4), .val (.int p5), .val (.int (Int32.ofNat 1)), .val (.int vi), .val (.int v0), .val (.int v1), .val (.int v2), .val (.int v3), .val (.int v4), .val (.double (FP.i2d bd)), .second, .val (.int (Int32.ofNat f)), .val (.int (Int32.ofNat t)), .val (.ref bm), .val (.int (own_want (own_le bd v0) (own_le bd v1) (own_le bd v2) (own_le bd v3) (own_le bd v4) f t)), .val (.int (4 : Int32))] [])) _
        rw [if_neg hd202] at h_e4
        subst h_e4
        exact kZ
    show own_R p.tables e below _ (T77.setTop (mkF m 208 #[.val (.int p1), .val (.int p2), .val (.int p3), .val (.int p4), .val (.int p5), .val (.int (Int32.ofNat 1)), .val (.int vi), .val (.int v0), .val (.int v1), .val (.int v2), .val (.int v3), .val (.int v4), .val (.double (FP.i2d bd)), .second, .val (.int (Int32.ofNat f)), .val (.int (Int32.ofNat t)), .val (.ref bm), .val (.int (own_want (own_le bd v0) (own_le bd v1) (own_le bd v2) (own_le bd v3) (own_le bd v4) f t)), .val (.int e4)] []))
    refine own_by (fun _ kZ => XS.iconst X77.here hx rfl (hb hby at_208) kZ) ?_
    show own_R p.tables e below _ (T77.setTop (mkF m 209 #[.val (.int p1), .val (.int p2), .val (.int p3), .val (.int p4), .val (.int p5), .val (.int (Int32.ofNat 1)), .val (.int vi), .val (.int v0), .val (.int v1), .val (.int v2), .val (.int v3), .val (.int v4), .val (.double (FP.i2d bd)), .second, .val (.int (Int32.ofNat f)), .val (.int (Int32.ofNat t)), .val (.ref bm), .val (.int (own_want (own_le bd v0) (own_le bd v1) (own_le bd v2) (own_le bd v3) (own_le bd v4) f t)), .val (.int e4)] [(.int (3 : Int32))]))
    refine own_by (fun _ kZ => XS.iload X77.here hx rfl (hb hby at_209) rfl kZ) ?_
    show own_R p.tables e below _ (T77.setTop (mkF m 211 #[.val (.int p1), .val (.int p2), .val (.int p3), .val (.int p4), .val (.int p5), .val (.int (Int32.ofNat 1)), .val (.int vi), .val (.int v0), .val (.int v1), .val (.int v2), .val (.int v3), .val (.int v4), .val (.double (FP.i2d bd)), .second, .val (.int (Int32.ofNat f)), .val (.int (Int32.ofNat t)), .val (.ref bm), .val (.int (own_want (own_le bd v0) (own_le bd v1) (own_le bd v2) (own_le bd v3) (own_le bd v4) f t)), .val (.int e4)] [(.int v3), (.int (3 : Int32))]))
    refine own_by (fun _ kZ => XS.iload X77.here hx rfl (hb hby at_211) rfl kZ) ?_
    show own_R p.tables e below _ (T77.setTop (mkF m 213 #[.val (.int p1), .val (.int p2), .val (.int p3), .val (.int p4), .val (.int p5), .val (.int (Int32.ofNat 1)), .val (.int vi), .val (.int v0), .val (.int v1), .val (.int v2), .val (.int v3), .val (.int v4), .val (.double (FP.i2d bd)), .second, .val (.int (Int32.ofNat f)), .val (.int (Int32.ofNat t)), .val (.ref bm), .val (.int (own_want (own_le bd v0) (own_le bd v1) (own_le bd v2) (own_le bd v3) (own_le bd v4) f t)), .val (.int e4)] [(.int (Int32.ofNat f)), (.int v3), (.int (3 : Int32))]))
    refine own_by (fun _ kZ => XS.iload X77.here hx rfl (hb hby at_213) rfl kZ) ?_
    show own_R p.tables e below _ (T77.setTop (mkF m 215 #[.val (.int p1), .val (.int p2), .val (.int p3), .val (.int p4), .val (.int p5), .val (.int (Int32.ofNat 1)), .val (.int vi), .val (.int v0), .val (.int v1), .val (.int v2), .val (.int v3), .val (.int v4), .val (.double (FP.i2d bd)), .second, .val (.int (Int32.ofNat f)), .val (.int (Int32.ofNat t)), .val (.ref bm), .val (.int (own_want (own_le bd v0) (own_le bd v1) (own_le bd v2) (own_le bd v3) (own_le bd v4) f t)), .val (.int e4)] [(.int (Int32.ofNat t)), (.int (Int32.ofNat f)), (.int v3), (.int (3 : Int32))]))
    refine own_by (fun _ kZ => own_dload X77.here hx rfl (hb hby at_215) rfl kZ) ?_
    show own_R p.tables e below _ (T77.setTop (mkF m 217 #[.val (.int p1), .val (.int p2), .val (.int p3), .val (.int p4), .val (.int p5), .val (.int (Int32.ofNat 1)), .val (.int vi), .val (.int v0), .val (.int v1), .val (.int v2), .val (.int v3), .val (.int v4), .val (.double (FP.i2d bd)), .second, .val (.int (Int32.ofNat f)), .val (.int (Int32.ofNat t)), .val (.ref bm), .val (.int (own_want (own_le bd v0) (own_le bd v1) (own_le bd v2) (own_le bd v3) (own_le bd v4) f t)), .val (.int e4)] [(.double (FP.i2d bd)), (.int (Int32.ofNat t)), (.int (Int32.ofNat f)), (.int v3), (.int (3 : Int32))]))
    obtain ⟨_, _, ⟨T78, L78, k78, n78⟩, -, X78, ⟨Lc78, hQ78, l78, y78, z78⟩, st78⟩ := Jvm.LawKit.callS X77 hx (y := (⟨"com/example/frugal_scheduler/frugalscheduler/planners/MinTreeFirstAtMostPinLaw", "hit", "(IIIID)Z"⟩ : MethodName)) hown (mvT hZ (hw _ (List.mem_of_getElem? (i := 31) rfl))) (mvT hZ (hw _ (List.mem_of_getElem? (i := 32) rfl))) (mvT hZ (hw _ (List.mem_of_getElem? (i := 33) rfl))) (mvT hZ (hw _ (List.mem_of_getElem? (i := 34) rfl))) (by decide) (backOf (W := 0) (rm6 l Z a0 hw [] (3 : Int32) v3 (Int32.ofNat f) (Int32.ofNat t) (FP.i2d bd) bd T73.heap n0 Z75 rfl) hZ (hw _ (List.mem_of_getElem? (i := 34) rfl)) (hw _ (List.mem_of_getElem? (i := 33) rfl)) (by decide) (by decide)) (g := (mkF m 217 #[.val (.int p1), .val (.int p2), .val (.int p3), .val (.int p4), .val (.int p5), .val (.int (Int32.ofNat 1)), .val (.int vi), .val (.int v0), .val (.int v1), .val (.int v2), .val (.int v3), .val (.int v4), .val (.double (FP.i2d bd)), .second, .val (.int (Int32.ofNat f)), .val (.int (Int32.ofNat t)), .val (.ref bm), .val (.int (own_want (own_le bd v0) (own_le bd v1) (own_le bd v2) (own_le bd v3) (own_le bd v4) f t)), .val (.int e4)] [(.double (FP.i2d bd)), (.int (Int32.ofNat t)), (.int (Int32.ofNat f)), (.int v3), (.int (3 : Int32))])) rfl (by rw [hml]; rfl) (argsL := [(.int (3 : Int32)), (.int v3), (.int (Int32.ofNat f)), (.int (Int32.ofNat t)), (.double (FP.i2d bd))]) (rest := []) (lenOf own_pd4 rfl) rfl (by show 2 * 0 + _ ≤ _; exact Nat.le_of_eq rfl) (hb hby at_217) (fun _ _ => ⟨rfl, e77, (by decide : 2 + 0 ≤ _), (by decide : 19 + 0 ≤ _)⟩)
    dsimp only [Pt.U, Pt.locs, Pt.cells, Pt.slots] at X78 l78 y78 z78 st78 hQ78
    subst l78 y78 z78
    obtain ⟨rfl, Nq78, e78⟩ := hQ78
    have N78 := Fr.app N77 Nq78
    refine own_by st78 ?_
    show own_R p.tables e below _ (T78.setTop (mkF m 220 #[.val (.int p1), .val (.int p2), .val (.int p3), .val (.int p4), .val (.int p5), .val (.int (Int32.ofNat 1)), .val (.int vi), .val (.int v0), .val (.int v1), .val (.int v2), .val (.int v3), .val (.int v4), .val (.double (FP.i2d bd)), .second, .val (.int (Int32.ofNat f)), .val (.int (Int32.ofNat t)), .val (.ref bm), .val (.int (own_want (own_le bd v0) (own_le bd v1) (own_le bd v2) (own_le bd v3) (own_le bd v4) f t)), .val (.int e4)] [(.int (own_hit (3 : Int32) v3 (Int32.ofNat f) (Int32.ofNat t) bd))]))
    obtain ⟨e3, h_e3⟩ : ∃ z : Int32, z = (if (own_hit (3 : Int32) v3 (Int32.ofNat f) (Int32.ofNat t) bd) = (0 : Int32) then e4 else (3 : Int32)) := ⟨_, rfl⟩
    refine own_by (S' := T78.setTop (mkF m 226 #[.val (.int p1), .val (.int p2), .val (.int p3), .val (.int p4), .val (.int p5), .val (.int (Int32.ofNat 1)), .val (.int vi), .val (.int v0), .val (.int v1), .val (.int v2), .val (.int v3), .val (.int v4), .val (.double (FP.i2d bd)), .second, .val (.int (Int32.ofNat f)), .val (.int (Int32.ofNat t)), .val (.ref bm), .val (.int (own_want (own_le bd v0) (own_le bd v1) (own_le bd v2) (own_le bd v3) (own_le bd v4) f t)), .val (.int e3)] [])) (fun _ kZ => ?_) ?_
    · skip
      show Steps p.tables e below (T78.setTop (mkF m 220 #[.val (.int p1), .val (.int p2), .val (.int p3), .val (.int p4), .val (.int p5), .val (.int (Int32.ofNat 1)), .val (.int vi), .val (.int v0), .val (.int v1), .val (.int v2), .val (.int v3), .val (.int v4), .val (.double (FP.i2d bd)), .second, .val (.int (Int32.ofNat f)), .val (.int (Int32.ofNat t)), .val (.ref bm), .val (.int (own_want (own_le bd v0) (own_le bd v1) (own_le bd v2) (own_le bd v3) (own_le bd v4) f t)), .val (.int e4)] [(.int (own_hit (3 : Int32) v3 (Int32.ofNat f) (Int32.ofNat t) bd))])) _
      by_cases hd220 : (own_hit (3 : Int32) v3 (Int32.ofNat f) (Int32.ofNat t) bd) = (0 : Int32)
      · skip
        refine XS.ifYes X78.here hx rfl (pc0 := 220) (pc' := 226) rfl (hb hby at_220) rfl ((if0 _ _).trans (teq hd220).1) (by decide) (by decide) ?_
        show Steps p.tables e below (T78.setTop (mkF m 226 #[.val (.int p1), .val (.int p2), .val (.int p3), .val (.int p4), .val (.int p5), .val (.int (Int32.ofNat 1)), .val (.int vi), .val (.int v0), .val (.int v1), .val (.int v2), .val (.int v3), .val (.int v4), .val (.double (FP.i2d bd)), .second, .val (.int (Int32.ofNat f)), .val (.int (Int32.ofNat t)), .val (.ref bm), .val (.int (own_want (own_le bd v0) (own_le bd v1) (own_le bd v2) (own_le bd v3) (own_le bd v4) f t)), .val (.int e4)] [])) _
        rw [if_pos hd220] at h_e3
        subst h_e3
        exact kZ
      · skip
        refine XS.ifNo X78.here hx rfl (hb hby at_220) rfl ((if0 _ _).trans (feq hd220).1) ?_
        show Steps p.tables e below (T78.setTop (mkF m 223 #[.val (.int p1), .val (.int p2), .val (.int p3), .val (.int p4), .val (.int p5), .val (.int (Int32.ofNat 1)), .val (.int vi), .val (.int v0), .val (.int v1), .val (.int v2), .val (.int v3), .val (.int v4), .val (.double (FP.i2d bd)), .second, .val (.int (Int32.ofNat f)), .val (.int (Int32.ofNat t)), .val (.ref bm), .val (.int (own_want (own_le bd v0) (own_le bd v1) (own_le bd v2) (own_le bd v3) (own_le bd v4) f t)), .val (.int e4)] [])) _
        refine XS.iconst X78.here hx rfl (hb hby at_223) ?_
        show Steps p.tables e below (T78.setTop (mkF m 224 #[.val (.int p1), .val (.int p2), .val (.int p3), .val (.int p4), .val (.int p5), .val (.int (Int32.ofNat 1)), .val (.int vi), .val (.int v0), .val (.int v1), .val (.int v2), .val (.int v3), .val (.int v4), .val (.double (FP.i2d bd)), .second, .val (.int (Int32.ofNat f)), .val (.int (Int32.ofNat t)), .val (.ref bm), .val (.int (own_want (own_le bd v0) (own_le bd v1) (own_le bd v2) (own_le bd v3) (own_le bd v4) f t)), .val (.int e4)] [(.int (3 : Int32))])) _
        refine XS.istore X78.here hx rfl (hb hby at_224) rfl (l' := #[.val (.int p1), .val (.int p2), .val (.int p3), .val (.int p4), .val (.int p5), .val (.int (Int32.ofNat 1)), .val (.int vi), .val (.int v0), .val (.int v1), .val (.int v2), .val (.int v3), .val (.int v4), .val (.double (FP.i2d bd)), .second, .val (.int (Int32.ofNat f)), .val (.int (Int32.ofNat t)), .val (.ref bm), .val (.int (own_want (own_le bd v0) (own_le bd v1) (own_le bd v2) (own_le bd v3) (own_le bd v4) f t)), .val (.int (3 : Int32))]) rfl ?_
        show Steps p.tables e below (T78.setTop (mkF m 226 #[.val (.int p1), .val (.int p2), .val (.int p3), .val (.int p4), .val (.int p5), .val (.int (Int32.ofNat 1)), .val (.int vi), .val (.int v0), .val (.int v1), .val (.int v2), .val (.int v3), .val (.int v4), .val (.double (FP.i2d bd)), .second, .val (.int (Int32.ofNat f)), .val (.int (Int32.ofNat t)), .val (.ref bm), .val (.int (own_want (own_le bd v0) (own_le bd v1) (own_le bd v2) (own_le bd v3) (own_le bd v4) f t)), .val (.int (3 : Int32))] [])) _
        rw [if_neg hd220] at h_e3
        subst h_e3
        exact kZ
    show own_R p.tables e below _ (T78.setTop (mkF m 226 #[.val (.int p1), .val (.int p2), .val (.int p3), .val (.int p4), .val (.int p5), .val (.int (Int32.ofNat 1)), .val (.int vi), .val (.int v0), .val (.int v1), .val (.int v2), .val (.int v3), .val (.int v4), .val (.double (FP.i2d bd)), .second, .val (.int (Int32.ofNat f)), .val (.int (Int32.ofNat t)), .val (.ref bm), .val (.int (own_want (own_le bd v0) (own_le bd v1) (own_le bd v2) (own_le bd v3) (own_le bd v4) f t)), .val (.int e3)] []))
    refine own_by (fun _ kZ => XS.iconst X78.here hx rfl (hb hby at_226) kZ) ?_
    show own_R p.tables e below _ (T78.setTop (mkF m 227 #[.val (.int p1), .val (.int p2), .val (.int p3), .val (.int p4), .val (.int p5), .val (.int (Int32.ofNat 1)), .val (.int vi), .val (.int v0), .val (.int v1), .val (.int v2), .val (.int v3), .val (.int v4), .val (.double (FP.i2d bd)), .second, .val (.int (Int32.ofNat f)), .val (.int (Int32.ofNat t)), .val (.ref bm), .val (.int (own_want (own_le bd v0) (own_le bd v1) (own_le bd v2) (own_le bd v3) (own_le bd v4) f t)), .val (.int e3)] [(.int (2 : Int32))]))
    refine own_by (fun _ kZ => XS.iload X78.here hx rfl (hb hby at_227) rfl kZ) ?_
    show own_R p.tables e below _ (T78.setTop (mkF m 229 #[.val (.int p1), .val (.int p2), .val (.int p3), .val (.int p4), .val (.int p5), .val (.int (Int32.ofNat 1)), .val (.int vi), .val (.int v0), .val (.int v1), .val (.int v2), .val (.int v3), .val (.int v4), .val (.double (FP.i2d bd)), .second, .val (.int (Int32.ofNat f)), .val (.int (Int32.ofNat t)), .val (.ref bm), .val (.int (own_want (own_le bd v0) (own_le bd v1) (own_le bd v2) (own_le bd v3) (own_le bd v4) f t)), .val (.int e3)] [(.int v2), (.int (2 : Int32))]))
    refine own_by (fun _ kZ => XS.iload X78.here hx rfl (hb hby at_229) rfl kZ) ?_
    show own_R p.tables e below _ (T78.setTop (mkF m 231 #[.val (.int p1), .val (.int p2), .val (.int p3), .val (.int p4), .val (.int p5), .val (.int (Int32.ofNat 1)), .val (.int vi), .val (.int v0), .val (.int v1), .val (.int v2), .val (.int v3), .val (.int v4), .val (.double (FP.i2d bd)), .second, .val (.int (Int32.ofNat f)), .val (.int (Int32.ofNat t)), .val (.ref bm), .val (.int (own_want (own_le bd v0) (own_le bd v1) (own_le bd v2) (own_le bd v3) (own_le bd v4) f t)), .val (.int e3)] [(.int (Int32.ofNat f)), (.int v2), (.int (2 : Int32))]))
    refine own_by (fun _ kZ => XS.iload X78.here hx rfl (hb hby at_231) rfl kZ) ?_
    show own_R p.tables e below _ (T78.setTop (mkF m 233 #[.val (.int p1), .val (.int p2), .val (.int p3), .val (.int p4), .val (.int p5), .val (.int (Int32.ofNat 1)), .val (.int vi), .val (.int v0), .val (.int v1), .val (.int v2), .val (.int v3), .val (.int v4), .val (.double (FP.i2d bd)), .second, .val (.int (Int32.ofNat f)), .val (.int (Int32.ofNat t)), .val (.ref bm), .val (.int (own_want (own_le bd v0) (own_le bd v1) (own_le bd v2) (own_le bd v3) (own_le bd v4) f t)), .val (.int e3)] [(.int (Int32.ofNat t)), (.int (Int32.ofNat f)), (.int v2), (.int (2 : Int32))]))
    refine own_by (fun _ kZ => own_dload X78.here hx rfl (hb hby at_233) rfl kZ) ?_
    show own_R p.tables e below _ (T78.setTop (mkF m 235 #[.val (.int p1), .val (.int p2), .val (.int p3), .val (.int p4), .val (.int p5), .val (.int (Int32.ofNat 1)), .val (.int vi), .val (.int v0), .val (.int v1), .val (.int v2), .val (.int v3), .val (.int v4), .val (.double (FP.i2d bd)), .second, .val (.int (Int32.ofNat f)), .val (.int (Int32.ofNat t)), .val (.ref bm), .val (.int (own_want (own_le bd v0) (own_le bd v1) (own_le bd v2) (own_le bd v3) (own_le bd v4) f t)), .val (.int e3)] [(.double (FP.i2d bd)), (.int (Int32.ofNat t)), (.int (Int32.ofNat f)), (.int v2), (.int (2 : Int32))]))
    obtain ⟨_, _, ⟨T79, L79, k79, n79⟩, -, X79, ⟨Lc79, hQ79, l79, y79, z79⟩, st79⟩ := Jvm.LawKit.callS X78 hx (y := (⟨"com/example/frugal_scheduler/frugalscheduler/planners/MinTreeFirstAtMostPinLaw", "hit", "(IIIID)Z"⟩ : MethodName)) hown (mvT hZ (hw _ (List.mem_of_getElem? (i := 31) rfl))) (mvT hZ (hw _ (List.mem_of_getElem? (i := 32) rfl))) (mvT hZ (hw _ (List.mem_of_getElem? (i := 33) rfl))) (mvT hZ (hw _ (List.mem_of_getElem? (i := 34) rfl))) (by decide) (backOf (W := 0) (rm6 l Z a0 hw [] (2 : Int32) v2 (Int32.ofNat f) (Int32.ofNat t) (FP.i2d bd) bd T73.heap n0 Z75 rfl) hZ (hw _ (List.mem_of_getElem? (i := 34) rfl)) (hw _ (List.mem_of_getElem? (i := 33) rfl)) (by decide) (by decide)) (g := (mkF m 235 #[.val (.int p1), .val (.int p2), .val (.int p3), .val (.int p4), .val (.int p5), .val (.int (Int32.ofNat 1)), .val (.int vi), .val (.int v0), .val (.int v1), .val (.int v2), .val (.int v3), .val (.int v4), .val (.double (FP.i2d bd)), .second, .val (.int (Int32.ofNat f)), .val (.int (Int32.ofNat t)), .val (.ref bm), .val (.int (own_want (own_le bd v0) (own_le bd v1) (own_le bd v2) (own_le bd v3) (own_le bd v4) f t)), .val (.int e3)] [(.double (FP.i2d bd)), (.int (Int32.ofNat t)), (.int (Int32.ofNat f)), (.int v2), (.int (2 : Int32))])) rfl (by rw [hml]; rfl) (argsL := [(.int (2 : Int32)), (.int v2), (.int (Int32.ofNat f)), (.int (Int32.ofNat t)), (.double (FP.i2d bd))]) (rest := []) (lenOf own_pd4 rfl) rfl (by show 2 * 0 + _ ≤ _; exact Nat.le_of_eq rfl) (hb hby at_235) (fun _ _ => ⟨rfl, e78, (by decide : 2 + 0 ≤ _), (by decide : 19 + 0 ≤ _)⟩)
    dsimp only [Pt.U, Pt.locs, Pt.cells, Pt.slots] at X79 l79 y79 z79 st79 hQ79
    subst l79 y79 z79
    obtain ⟨rfl, Nq79, e79⟩ := hQ79
    have N79 := Fr.app N78 Nq79
    refine own_by st79 ?_
    show own_R p.tables e below _ (T79.setTop (mkF m 238 #[.val (.int p1), .val (.int p2), .val (.int p3), .val (.int p4), .val (.int p5), .val (.int (Int32.ofNat 1)), .val (.int vi), .val (.int v0), .val (.int v1), .val (.int v2), .val (.int v3), .val (.int v4), .val (.double (FP.i2d bd)), .second, .val (.int (Int32.ofNat f)), .val (.int (Int32.ofNat t)), .val (.ref bm), .val (.int (own_want (own_le bd v0) (own_le bd v1) (own_le bd v2) (own_le bd v3) (own_le bd v4) f t)), .val (.int e3)] [(.int (own_hit (2 : Int32) v2 (Int32.ofNat f) (Int32.ofNat t) bd))]))
    obtain ⟨e2, h_e2⟩ : ∃ z : Int32, z = (if (own_hit (2 : Int32) v2 (Int32.ofNat f) (Int32.ofNat t) bd) = (0 : Int32) then e3 else (2 : Int32)) := ⟨_, rfl⟩
    refine own_by (S' := T79.setTop (mkF m 244 #[.val (.int p1), .val (.int p2), .val (.int p3), .val (.int p4), .val (.int p5), .val (.int (Int32.ofNat 1)), .val (.int vi), .val (.int v0), .val (.int v1), .val (.int v2), .val (.int v3), .val (.int v4), .val (.double (FP.i2d bd)), .second, .val (.int (Int32.ofNat f)), .val (.int (Int32.ofNat t)), .val (.ref bm), .val (.int (own_want (own_le bd v0) (own_le bd v1) (own_le bd v2) (own_le bd v3) (own_le bd v4) f t)), .val (.int e2)] [])) (fun _ kZ => ?_) ?_
    · skip
      show Steps p.tables e below (T79.setTop (mkF m 238 #[.val (.int p1), .val (.int p2), .val (.int p3), .val (.int p4), .val (.int p5), .val (.int (Int32.ofNat 1)), .val (.int vi), .val (.int v0), .val (.int v1), .val (.int v2), .val (.int v3), .val (.int v4), .val (.double (FP.i2d bd)), .second, .val (.int (Int32.ofNat f)), .val (.int (Int32.ofNat t)), .val (.ref bm), .val (.int (own_want (own_le bd v0) (own_le bd v1) (own_le bd v2) (own_le bd v3) (own_le bd v4) f t)), .val (.int e3)] [(.int (own_hit (2 : Int32) v2 (Int32.ofNat f) (Int32.ofNat t) bd))])) _
      by_cases hd238 : (own_hit (2 : Int32) v2 (Int32.ofNat f) (Int32.ofNat t) bd) = (0 : Int32)
      · skip
        refine XS.ifYes X79.here hx rfl (pc0 := 238) (pc' := 244) rfl (hb hby at_238) rfl ((if0 _ _).trans (teq hd238).1) (by decide) (by decide) ?_
        show Steps p.tables e below (T79.setTop (mkF m 244 #[.val (.int p1), .val (.int p2), .val (.int p3), .val (.int p4), .val (.int p5), .val (.int (Int32.ofNat 1)), .val (.int vi), .val (.int v0), .val (.int v1), .val (.int v2), .val (.int v3), .val (.int v4), .val (.double (FP.i2d bd)), .second, .val (.int (Int32.ofNat f)), .val (.int (Int32.ofNat t)), .val (.ref bm), .val (.int (own_want (own_le bd v0) (own_le bd v1) (own_le bd v2) (own_le bd v3) (own_le bd v4) f t)), .val (.int e3)] [])) _
        rw [if_pos hd238] at h_e2
        subst h_e2
        exact kZ
      · skip
        refine XS.ifNo X79.here hx rfl (hb hby at_238) rfl ((if0 _ _).trans (feq hd238).1) ?_
        show Steps p.tables e below (T79.setTop (mkF m 241 #[.val (.int p1), .val (.int p2), .val (.int p3), .val (.int p4), .val (.int p5), .val (.int (Int32.ofNat 1)), .val (.int vi), .val (.int v0), .val (.int v1), .val (.int v2), .val (.int v3), .val (.int v4), .val (.double (FP.i2d bd)), .second, .val (.int (Int32.ofNat f)), .val (.int (Int32.ofNat t)), .val (.ref bm), .val (.int (own_want (own_le bd v0) (own_le bd v1) (own_le bd v2) (own_le bd v3) (own_le bd v4) f t)), .val (.int e3)] [])) _
        refine XS.iconst X79.here hx rfl (hb hby at_241) ?_
        show Steps p.tables e below (T79.setTop (mkF m 242 #[.val (.int p1), .val (.int p2), .val (.int p3), .val (.int p4), .val (.int p5), .val (.int (Int32.ofNat 1)), .val (.int vi), .val (.int v0), .val (.int v1), .val (.int v2), .val (.int v3), .val (.int v4), .val (.double (FP.i2d bd)), .second, .val (.int (Int32.ofNat f)), .val (.int (Int32.ofNat t)), .val (.ref bm), .val (.int (own_want (own_le bd v0) (own_le bd v1) (own_le bd v2) (own_le bd v3) (own_le bd v4) f t)), .val (.int e3)] [(.int (2 : Int32))])) _
        refine XS.istore X79.here hx rfl (hb hby at_242) rfl (l' := #[.val (.int p1), .val (.int p2), .val (.int p3), .val (.int p4), .val (.int p5), .val (.int (Int32.ofNat 1)), .val (.int vi), .val (.int v0), .val (.int v1), .val (.int v2), .val (.int v3), .val (.int v4), .val (.double (FP.i2d bd)), .second, .val (.int (Int32.ofNat f)), .val (.int (Int32.ofNat t)), .val (.ref bm), .val (.int (own_want (own_le bd v0) (own_le bd v1) (own_le bd v2) (own_le bd v3) (own_le bd v4) f t)), .val (.int (2 : Int32))]) rfl ?_
        show Steps p.tables e below (T79.setTop (mkF m 244 #[.val (.int p1), .val (.int p2), .val (.int p3), .val (.int p4), .val (.int p5), .val (.int (Int32.ofNat 1)), .val (.int vi), .val (.int v0), .val (.int v1), .val (.int v2), .val (.int v3), .val (.int v4), .val (.double (FP.i2d bd)), .second, .val (.int (Int32.ofNat f)), .val (.int (Int32.ofNat t)), .val (.ref bm), .val (.int (own_want (own_le bd v0) (own_le bd v1) (own_le bd v2) (own_le bd v3) (own_le bd v4) f t)), .val (.int (2 : Int32))] [])) _
        rw [if_neg hd238] at h_e2
        subst h_e2
        exact kZ
    show own_R p.tables e below _ (T79.setTop (mkF m 244 #[.val (.int p1), .val (.int p2), .val (.int p3), .val (.int p4), .val (.int p5), .val (.int (Int32.ofNat 1)), .val (.int vi), .val (.int v0), .val (.int v1), .val (.int v2), .val (.int v3), .val (.int v4), .val (.double (FP.i2d bd)), .second, .val (.int (Int32.ofNat f)), .val (.int (Int32.ofNat t)), .val (.ref bm), .val (.int (own_want (own_le bd v0) (own_le bd v1) (own_le bd v2) (own_le bd v3) (own_le bd v4) f t)), .val (.int e2)] []))
    refine own_by (fun _ kZ => XS.iconst X79.here hx rfl (hb hby at_244) kZ) ?_
    show own_R p.tables e below _ (T79.setTop (mkF m 245 #[.val (.int p1), .val (.int p2), .val (.int p3), .val (.int p4), .val (.int p5), .val (.int (Int32.ofNat 1)), .val (.int vi), .val (.int v0), .val (.int v1), .val (.int v2), .val (.int v3), .val (.int v4), .val (.double (FP.i2d bd)), .second, .val (.int (Int32.ofNat f)), .val (.int (Int32.ofNat t)), .val (.ref bm), .val (.int (own_want (own_le bd v0) (own_le bd v1) (own_le bd v2) (own_le bd v3) (own_le bd v4) f t)), .val (.int e2)] [(.int (1 : Int32))]))
    refine own_by (fun _ kZ => XS.iload X79.here hx rfl (hb hby at_245) rfl kZ) ?_
    show own_R p.tables e below _ (T79.setTop (mkF m 247 #[.val (.int p1), .val (.int p2), .val (.int p3), .val (.int p4), .val (.int p5), .val (.int (Int32.ofNat 1)), .val (.int vi), .val (.int v0), .val (.int v1), .val (.int v2), .val (.int v3), .val (.int v4), .val (.double (FP.i2d bd)), .second, .val (.int (Int32.ofNat f)), .val (.int (Int32.ofNat t)), .val (.ref bm), .val (.int (own_want (own_le bd v0) (own_le bd v1) (own_le bd v2) (own_le bd v3) (own_le bd v4) f t)), .val (.int e2)] [(.int v1), (.int (1 : Int32))]))
    refine own_by (fun _ kZ => XS.iload X79.here hx rfl (hb hby at_247) rfl kZ) ?_
    show own_R p.tables e below _ (T79.setTop (mkF m 249 #[.val (.int p1), .val (.int p2), .val (.int p3), .val (.int p4), .val (.int p5), .val (.int (Int32.ofNat 1)), .val (.int vi), .val (.int v0), .val (.int v1), .val (.int v2), .val (.int v3), .val (.int v4), .val (.double (FP.i2d bd)), .second, .val (.int (Int32.ofNat f)), .val (.int (Int32.ofNat t)), .val (.ref bm), .val (.int (own_want (own_le bd v0) (own_le bd v1) (own_le bd v2) (own_le bd v3) (own_le bd v4) f t)), .val (.int e2)] [(.int (Int32.ofNat f)), (.int v1), (.int (1 : Int32))]))
    refine own_by (fun _ kZ => XS.iload X79.here hx rfl (hb hby at_249) rfl kZ) ?_
    show own_R p.tables e below _ (T79.setTop (mkF m 251 #[.val (.int p1), .val (.int p2), .val (.int p3), .val (.int p4), .val (.int p5), .val (.int (Int32.ofNat 1)), .val (.int vi), .val (.int v0), .val (.int v1), .val (.int v2), .val (.int v3), .val (.int v4), .val (.double (FP.i2d bd)), .second, .val (.int (Int32.ofNat f)), .val (.int (Int32.ofNat t)), .val (.ref bm), .val (.int (own_want (own_le bd v0) (own_le bd v1) (own_le bd v2) (own_le bd v3) (own_le bd v4) f t)), .val (.int e2)] [(.int (Int32.ofNat t)), (.int (Int32.ofNat f)), (.int v1), (.int (1 : Int32))]))
    refine own_by (fun _ kZ => own_dload X79.here hx rfl (hb hby at_251) rfl kZ) ?_
    show own_R p.tables e below _ (T79.setTop (mkF m 253 #[.val (.int p1), .val (.int p2), .val (.int p3), .val (.int p4), .val (.int p5), .val (.int (Int32.ofNat 1)), .val (.int vi), .val (.int v0), .val (.int v1), .val (.int v2), .val (.int v3), .val (.int v4), .val (.double (FP.i2d bd)), .second, .val (.int (Int32.ofNat f)), .val (.int (Int32.ofNat t)), .val (.ref bm), .val (.int (own_want (own_le bd v0) (own_le bd v1) (own_le bd v2) (own_le bd v3) (own_le bd v4) f t)), .val (.int e2)] [(.double (FP.i2d bd)), (.int (Int32.ofNat t)), (.int (Int32.ofNat f)), (.int v1), (.int (1 : Int32))]))
    obtain ⟨_, _, ⟨T80, L80, k80, n80⟩, -, X80, ⟨Lc80, hQ80, l80, y80, z80⟩, st80⟩ := Jvm.LawKit.callS X79 hx (y := (⟨"com/example/frugal_scheduler/frugalscheduler/planners/MinTreeFirstAtMostPinLaw", "hit", "(IIIID)Z"⟩ : MethodName)) hown (mvT hZ (hw _ (List.mem_of_getElem? (i := 31) rfl))) (mvT hZ (hw _ (List.mem_of_getElem? (i := 32) rfl))) (mvT hZ (hw _ (List.mem_of_getElem? (i := 33) rfl))) (mvT hZ (hw _ (List.mem_of_getElem? (i := 34) rfl))) (by decide) (backOf (W := 0) (rm6 l Z a0 hw [] (1 : Int32) v1 (Int32.ofNat f) (Int32.ofNat t) (FP.i2d bd) bd T73.heap n0 Z75 rfl) hZ (hw _ (List.mem_of_getElem? (i := 34) rfl)) (hw _ (List.mem_of_getElem? (i := 33) rfl)) (by decide) (by decide)) (g := (mkF m 253 #[.val (.int p1), .val (.int p2), .val (.int p3), .val (.int p4), .val (.int p5), .val (.int (Int32.ofNat 1)), .val (.int vi), .val (.int v0), .val (.int v1), .val (.int v2), .val (.int v3), .val (.int v4), .val (.double (FP.i2d bd)), .second, .val (.int (Int32.ofNat f)), .val (.int (Int32.ofNat t)), .val (.ref bm), .val (.int (own_want (own_le bd v0) (own_le bd v1) (own_le bd v2) (own_le bd v3) (own_le bd v4) f t)), .val (.int e2)] [(.double (FP.i2d bd)), (.int (Int32.ofNat t)), (.int (Int32.ofNat f)), (.int v1), (.int (1 : Int32))])) rfl (by rw [hml]; rfl) (argsL := [(.int (1 : Int32)), (.int v1), (.int (Int32.ofNat f)), (.int (Int32.ofNat t)), (.double (FP.i2d bd))]) (rest := []) (lenOf own_pd4 rfl) rfl (by show 2 * 0 + _ ≤ _; exact Nat.le_of_eq rfl) (hb hby at_253) (fun _ _ => ⟨rfl, e79, (by decide : 2 + 0 ≤ _), (by decide : 19 + 0 ≤ _)⟩)
    dsimp only [Pt.U, Pt.locs, Pt.cells, Pt.slots] at X80 l80 y80 z80 st80 hQ80
    subst l80 y80 z80
    obtain ⟨rfl, Nq80, e80⟩ := hQ80
    have N80 := Fr.app N79 Nq80
    refine own_by st80 ?_
    show own_R p.tables e below _ (T80.setTop (mkF m 256 #[.val (.int p1), .val (.int p2), .val (.int p3), .val (.int p4), .val (.int p5), .val (.int (Int32.ofNat 1)), .val (.int vi), .val (.int v0), .val (.int v1), .val (.int v2), .val (.int v3), .val (.int v4), .val (.double (FP.i2d bd)), .second, .val (.int (Int32.ofNat f)), .val (.int (Int32.ofNat t)), .val (.ref bm), .val (.int (own_want (own_le bd v0) (own_le bd v1) (own_le bd v2) (own_le bd v3) (own_le bd v4) f t)), .val (.int e2)] [(.int (own_hit (1 : Int32) v1 (Int32.ofNat f) (Int32.ofNat t) bd))]))
    obtain ⟨e1, h_e1⟩ : ∃ z : Int32, z = (if (own_hit (1 : Int32) v1 (Int32.ofNat f) (Int32.ofNat t) bd) = (0 : Int32) then e2 else (1 : Int32)) := ⟨_, rfl⟩
    refine own_by (S' := T80.setTop (mkF m 262 #[.val (.int p1), .val (.int p2), .val (.int p3), .val (.int p4), .val (.int p5), .val (.int (Int32.ofNat 1)), .val (.int vi), .val (.int v0), .val (.int v1), .val (.int v2), .val (.int v3), .val (.int v4), .val (.double (FP.i2d bd)), .second, .val (.int (Int32.ofNat f)), .val (.int (Int32.ofNat t)), .val (.ref bm), .val (.int (own_want (own_le bd v0) (own_le bd v1) (own_le bd v2) (own_le bd v3) (own_le bd v4) f t)), .val (.int e1)] [])) (fun _ kZ => ?_) ?_
    · skip
      show Steps p.tables e below (T80.setTop (mkF m 256 #[.val (.int p1), .val (.int p2), .val (.int p3), .val (.int p4), .val (.int p5), .val (.int (Int32.ofNat 1)), .val (.int vi), .val (.int v0), .val (.int v1), .val (.int v2), .val (.int v3), .val (.int v4), .val (.double (FP.i2d bd)), .second, .val (.int (Int32.ofNat f)), .val (.int (Int32.ofNat t)), .val (.ref bm), .val (.int (own_want (own_le bd v0) (own_le bd v1) (own_le bd v2) (own_le bd v3) (own_le bd v4) f t)), .val (.int e2)] [(.int (own_hit (1 : Int32) v1 (Int32.ofNat f) (Int32.ofNat t) bd))])) _
      by_cases hd256 : (own_hit (1 : Int32) v1 (Int32.ofNat f) (Int32.ofNat t) bd) = (0 : Int32)
      · skip
        refine XS.ifYes X80.here hx rfl (pc0 := 256) (pc' := 262) rfl (hb hby at_256) rfl ((if0 _ _).trans (teq hd256).1) (by decide) (by decide) ?_
        show Steps p.tables e below (T80.setTop (mkF m 262 #[.val (.int p1), .val (.int p2), .val (.int p3), .val (.int p4), .val (.int p5), .val (.int (Int32.ofNat 1)), .val (.int vi), .val (.int v0), .val (.int v1), .val (.int v2), .val (.int v3), .val (.int v4), .val (.double (FP.i2d bd)), .second, .val (.int (Int32.ofNat f)), .val (.int (Int32.ofNat t)), .val (.ref bm), .val (.int (own_want (own_le bd v0) (own_le bd v1) (own_le bd v2) (own_le bd v3) (own_le bd v4) f t)), .val (.int e2)] [])) _
        rw [if_pos hd256] at h_e1
        subst h_e1
        exact kZ
      · skip
        refine XS.ifNo X80.here hx rfl (hb hby at_256) rfl ((if0 _ _).trans (feq hd256).1) ?_
        show Steps p.tables e below (T80.setTop (mkF m 259 #[.val (.int p1), .val (.int p2), .val (.int p3), .val (.int p4), .val (.int p5), .val (.int (Int32.ofNat 1)), .val (.int vi), .val (.int v0), .val (.int v1), .val (.int v2), .val (.int v3), .val (.int v4), .val (.double (FP.i2d bd)), .second, .val (.int (Int32.ofNat f)), .val (.int (Int32.ofNat t)), .val (.ref bm), .val (.int (own_want (own_le bd v0) (own_le bd v1) (own_le bd v2) (own_le bd v3) (own_le bd v4) f t)), .val (.int e2)] [])) _
        refine XS.iconst X80.here hx rfl (hb hby at_259) ?_
        show Steps p.tables e below (T80.setTop (mkF m 260 #[.val (.int p1), .val (.int p2), .val (.int p3), .val (.int p4), .val (.int p5), .val (.int (Int32.ofNat 1)), .val (.int vi), .val (.int v0), .val (.int v1), .val (.int v2), .val (.int v3), .val (.int v4), .val (.double (FP.i2d bd)), .second, .val (.int (Int32.ofNat f)), .val (.int (Int32.ofNat t)), .val (.ref bm), .val (.int (own_want (own_le bd v0) (own_le bd v1) (own_le bd v2) (own_le bd v3) (own_le bd v4) f t)), .val (.int e2)] [(.int (1 : Int32))])) _
        refine XS.istore X80.here hx rfl (hb hby at_260) rfl (l' := #[.val (.int p1), .val (.int p2), .val (.int p3), .val (.int p4), .val (.int p5), .val (.int (Int32.ofNat 1)), .val (.int vi), .val (.int v0), .val (.int v1), .val (.int v2), .val (.int v3), .val (.int v4), .val (.double (FP.i2d bd)), .second, .val (.int (Int32.ofNat f)), .val (.int (Int32.ofNat t)), .val (.ref bm), .val (.int (own_want (own_le bd v0) (own_le bd v1) (own_le bd v2) (own_le bd v3) (own_le bd v4) f t)), .val (.int (1 : Int32))]) rfl ?_
        show Steps p.tables e below (T80.setTop (mkF m 262 #[.val (.int p1), .val (.int p2), .val (.int p3), .val (.int p4), .val (.int p5), .val (.int (Int32.ofNat 1)), .val (.int vi), .val (.int v0), .val (.int v1), .val (.int v2), .val (.int v3), .val (.int v4), .val (.double (FP.i2d bd)), .second, .val (.int (Int32.ofNat f)), .val (.int (Int32.ofNat t)), .val (.ref bm), .val (.int (own_want (own_le bd v0) (own_le bd v1) (own_le bd v2) (own_le bd v3) (own_le bd v4) f t)), .val (.int (1 : Int32))] [])) _
        rw [if_neg hd256] at h_e1
        subst h_e1
        exact kZ
    show own_R p.tables e below _ (T80.setTop (mkF m 262 #[.val (.int p1), .val (.int p2), .val (.int p3), .val (.int p4), .val (.int p5), .val (.int (Int32.ofNat 1)), .val (.int vi), .val (.int v0), .val (.int v1), .val (.int v2), .val (.int v3), .val (.int v4), .val (.double (FP.i2d bd)), .second, .val (.int (Int32.ofNat f)), .val (.int (Int32.ofNat t)), .val (.ref bm), .val (.int (own_want (own_le bd v0) (own_le bd v1) (own_le bd v2) (own_le bd v3) (own_le bd v4) f t)), .val (.int e1)] []))
    refine own_by (fun _ kZ => XS.iconst X80.here hx rfl (hb hby at_262) kZ) ?_
    show own_R p.tables e below _ (T80.setTop (mkF m 263 #[.val (.int p1), .val (.int p2), .val (.int p3), .val (.int p4), .val (.int p5), .val (.int (Int32.ofNat 1)), .val (.int vi), .val (.int v0), .val (.int v1), .val (.int v2), .val (.int v3), .val (.int v4), .val (.double (FP.i2d bd)), .second, .val (.int (Int32.ofNat f)), .val (.int (Int32.ofNat t)), .val (.ref bm), .val (.int (own_want (own_le bd v0) (own_le bd v1) (own_le bd v2) (own_le bd v3) (own_le bd v4) f t)), .val (.int e1)] [(.int (0 : Int32))]))
    refine own_by (fun _ kZ => XS.iload X80.here hx rfl (hb hby at_263) rfl kZ) ?_
    show own_R p.tables e below _ (T80.setTop (mkF m 265 #[.val (.int p1), .val (.int p2), .val (.int p3), .val (.int p4), .val (.int p5), .val (.int (Int32.ofNat 1)), .val (.int vi), .val (.int v0), .val (.int v1), .val (.int v2), .val (.int v3), .val (.int v4), .val (.double (FP.i2d bd)), .second, .val (.int (Int32.ofNat f)), .val (.int (Int32.ofNat t)), .val (.ref bm), .val (.int (own_want (own_le bd v0) (own_le bd v1) (own_le bd v2) (own_le bd v3) (own_le bd v4) f t)), .val (.int e1)] [(.int v0), (.int (0 : Int32))]))
    refine own_by (fun _ kZ => XS.iload X80.here hx rfl (hb hby at_265) rfl kZ) ?_
    show own_R p.tables e below _ (T80.setTop (mkF m 267 #[.val (.int p1), .val (.int p2), .val (.int p3), .val (.int p4), .val (.int p5), .val (.int (Int32.ofNat 1)), .val (.int vi), .val (.int v0), .val (.int v1), .val (.int v2), .val (.int v3), .val (.int v4), .val (.double (FP.i2d bd)), .second, .val (.int (Int32.ofNat f)), .val (.int (Int32.ofNat t)), .val (.ref bm), .val (.int (own_want (own_le bd v0) (own_le bd v1) (own_le bd v2) (own_le bd v3) (own_le bd v4) f t)), .val (.int e1)] [(.int (Int32.ofNat f)), (.int v0), (.int (0 : Int32))]))
    refine own_by (fun _ kZ => XS.iload X80.here hx rfl (hb hby at_267) rfl kZ) ?_
    show own_R p.tables e below _ (T80.setTop (mkF m 269 #[.val (.int p1), .val (.int p2), .val (.int p3), .val (.int p4), .val (.int p5), .val (.int (Int32.ofNat 1)), .val (.int vi), .val (.int v0), .val (.int v1), .val (.int v2), .val (.int v3), .val (.int v4), .val (.double (FP.i2d bd)), .second, .val (.int (Int32.ofNat f)), .val (.int (Int32.ofNat t)), .val (.ref bm), .val (.int (own_want (own_le bd v0) (own_le bd v1) (own_le bd v2) (own_le bd v3) (own_le bd v4) f t)), .val (.int e1)] [(.int (Int32.ofNat t)), (.int (Int32.ofNat f)), (.int v0), (.int (0 : Int32))]))
    refine own_by (fun _ kZ => own_dload X80.here hx rfl (hb hby at_269) rfl kZ) ?_
    show own_R p.tables e below _ (T80.setTop (mkF m 271 #[.val (.int p1), .val (.int p2), .val (.int p3), .val (.int p4), .val (.int p5), .val (.int (Int32.ofNat 1)), .val (.int vi), .val (.int v0), .val (.int v1), .val (.int v2), .val (.int v3), .val (.int v4), .val (.double (FP.i2d bd)), .second, .val (.int (Int32.ofNat f)), .val (.int (Int32.ofNat t)), .val (.ref bm), .val (.int (own_want (own_le bd v0) (own_le bd v1) (own_le bd v2) (own_le bd v3) (own_le bd v4) f t)), .val (.int e1)] [(.double (FP.i2d bd)), (.int (Int32.ofNat t)), (.int (Int32.ofNat f)), (.int v0), (.int (0 : Int32))]))
    obtain ⟨_, _, ⟨T81, L81, k81, n81⟩, -, X81, ⟨Lc81, hQ81, l81, y81, z81⟩, st81⟩ := Jvm.LawKit.callS X80 hx (y := (⟨"com/example/frugal_scheduler/frugalscheduler/planners/MinTreeFirstAtMostPinLaw", "hit", "(IIIID)Z"⟩ : MethodName)) hown (mvT hZ (hw _ (List.mem_of_getElem? (i := 31) rfl))) (mvT hZ (hw _ (List.mem_of_getElem? (i := 32) rfl))) (mvT hZ (hw _ (List.mem_of_getElem? (i := 33) rfl))) (mvT hZ (hw _ (List.mem_of_getElem? (i := 34) rfl))) (by decide) (backOf (W := 0) (rm6 l Z a0 hw [] (0 : Int32) v0 (Int32.ofNat f) (Int32.ofNat t) (FP.i2d bd) bd T73.heap n0 Z75 rfl) hZ (hw _ (List.mem_of_getElem? (i := 34) rfl)) (hw _ (List.mem_of_getElem? (i := 33) rfl)) (by decide) (by decide)) (g := (mkF m 271 #[.val (.int p1), .val (.int p2), .val (.int p3), .val (.int p4), .val (.int p5), .val (.int (Int32.ofNat 1)), .val (.int vi), .val (.int v0), .val (.int v1), .val (.int v2), .val (.int v3), .val (.int v4), .val (.double (FP.i2d bd)), .second, .val (.int (Int32.ofNat f)), .val (.int (Int32.ofNat t)), .val (.ref bm), .val (.int (own_want (own_le bd v0) (own_le bd v1) (own_le bd v2) (own_le bd v3) (own_le bd v4) f t)), .val (.int e1)] [(.double (FP.i2d bd)), (.int (Int32.ofNat t)), (.int (Int32.ofNat f)), (.int v0), (.int (0 : Int32))])) rfl (by rw [hml]; rfl) (argsL := [(.int (0 : Int32)), (.int v0), (.int (Int32.ofNat f)), (.int (Int32.ofNat t)), (.double (FP.i2d bd))]) (rest := []) (lenOf own_pd4 rfl) rfl (by show 2 * 0 + _ ≤ _; exact Nat.le_of_eq rfl) (hb hby at_271) (fun _ _ => ⟨rfl, e80, (by decide : 2 + 0 ≤ _), (by decide : 19 + 0 ≤ _)⟩)
    dsimp only [Pt.U, Pt.locs, Pt.cells, Pt.slots] at X81 l81 y81 z81 st81 hQ81
    subst l81 y81 z81
    obtain ⟨rfl, Nq81, e81⟩ := hQ81
    have N81 := Fr.app N80 Nq81
    refine own_by st81 ?_
    show own_R p.tables e below _ (T81.setTop (mkF m 274 #[.val (.int p1), .val (.int p2), .val (.int p3), .val (.int p4), .val (.int p5), .val (.int (Int32.ofNat 1)), .val (.int vi), .val (.int v0), .val (.int v1), .val (.int v2), .val (.int v3), .val (.int v4), .val (.double (FP.i2d bd)), .second, .val (.int (Int32.ofNat f)), .val (.int (Int32.ofNat t)), .val (.ref bm), .val (.int (own_want (own_le bd v0) (own_le bd v1) (own_le bd v2) (own_le bd v3) (own_le bd v4) f t)), .val (.int e1)] [(.int (own_hit (0 : Int32) v0 (Int32.ofNat f) (Int32.ofNat t) bd))]))
    obtain ⟨e0, h_e0⟩ : ∃ z : Int32, z = (if (own_hit (0 : Int32) v0 (Int32.ofNat f) (Int32.ofNat t) bd) = (0 : Int32) then e1 else (0 : Int32)) := ⟨_, rfl⟩
    refine own_by (S' := T81.setTop (mkF m 280 #[.val (.int p1), .val (.int p2), .val (.int p3), .val (.int p4), .val (.int p5), .val (.int (Int32.ofNat 1)), .val (.int vi), .val (.int v0), .val (.int v1), .val (.int v2), .val (.int v3), .val (.int v4), .val (.double (FP.i2d bd)), .second, .val (.int (Int32.ofNat f)), .val (.int (Int32.ofNat t)), .val (.ref bm), .val (.int (own_want (own_le bd v0) (own_le bd v1) (own_le bd v2) (own_le bd v3) (own_le bd v4) f t)), .val (.int e0)] [])) (fun _ kZ => ?_) ?_
    · skip
      show Steps p.tables e below (T81.setTop (mkF m 274 #[.val (.int p1), .val (.int p2), .val (.int p3), .val (.int p4), .val (.int p5), .val (.int (Int32.ofNat 1)), .val (.int vi), .val (.int v0), .val (.int v1), .val (.int v2), .val (.int v3), .val (.int v4), .val (.double (FP.i2d bd)), .second, .val (.int (Int32.ofNat f)), .val (.int (Int32.ofNat t)), .val (.ref bm), .val (.int (own_want (own_le bd v0) (own_le bd v1) (own_le bd v2) (own_le bd v3) (own_le bd v4) f t)), .val (.int e1)] [(.int (own_hit (0 : Int32) v0 (Int32.ofNat f) (Int32.ofNat t) bd))])) _
      by_cases hd274 : (own_hit (0 : Int32) v0 (Int32.ofNat f) (Int32.ofNat t) bd) = (0 : Int32)
      · skip
        refine XS.ifYes X81.here hx rfl (pc0 := 274) (pc' := 280) rfl (hb hby at_274) rfl ((if0 _ _).trans (teq hd274).1) (by decide) (by decide) ?_
        show Steps p.tables e below (T81.setTop (mkF m 280 #[.val (.int p1), .val (.int p2), .val (.int p3), .val (.int p4), .val (.int p5), .val (.int (Int32.ofNat 1)), .val (.int vi), .val (.int v0), .val (.int v1), .val (.int v2), .val (.int v3), .val (.int v4), .val (.double (FP.i2d bd)), .second, .val (.int (Int32.ofNat f)), .val (.int (Int32.ofNat t)), .val (.ref bm), .val (.int (own_want (own_le bd v0) (own_le bd v1) (own_le bd v2) (own_le bd v3) (own_le bd v4) f t)), .val (.int e1)] [])) _
        rw [if_pos hd274] at h_e0
        subst h_e0
        exact kZ
      · skip
        refine XS.ifNo X81.here hx rfl (hb hby at_274) rfl ((if0 _ _).trans (feq hd274).1) ?_
        show Steps p.tables e below (T81.setTop (mkF m 277 #[.val (.int p1), .val (.int p2), .val (.int p3), .val (.int p4), .val (.int p5), .val (.int (Int32.ofNat 1)), .val (.int vi), .val (.int v0), .val (.int v1), .val (.int v2), .val (.int v3), .val (.int v4), .val (.double (FP.i2d bd)), .second, .val (.int (Int32.ofNat f)), .val (.int (Int32.ofNat t)), .val (.ref bm), .val (.int (own_want (own_le bd v0) (own_le bd v1) (own_le bd v2) (own_le bd v3) (own_le bd v4) f t)), .val (.int e1)] [])) _
        refine XS.iconst X81.here hx rfl (hb hby at_277) ?_
        show Steps p.tables e below (T81.setTop (mkF m 278 #[.val (.int p1), .val (.int p2), .val (.int p3), .val (.int p4), .val (.int p5), .val (.int (Int32.ofNat 1)), .val (.int vi), .val (.int v0), .val (.int v1), .val (.int v2), .val (.int v3), .val (.int v4), .val (.double (FP.i2d bd)), .second, .val (.int (Int32.ofNat f)), .val (.int (Int32.ofNat t)), .val (.ref bm), .val (.int (own_want (own_le bd v0) (own_le bd v1) (own_le bd v2) (own_le bd v3) (own_le bd v4) f t)), .val (.int e1)] [(.int (0 : Int32))])) _
        refine XS.istore X81.here hx rfl (hb hby at_278) rfl (l' := #[.val (.int p1), .val (.int p2), .val (.int p3), .val (.int p4), .val (.int p5), .val (.int (Int32.ofNat 1)), .val (.int vi), .val (.int v0), .val (.int v1), .val (.int v2), .val (.int v3), .val (.int v4), .val (.double (FP.i2d bd)), .second, .val (.int (Int32.ofNat f)), .val (.int (Int32.ofNat t)), .val (.ref bm), .val (.int (own_want (own_le bd v0) (own_le bd v1) (own_le bd v2) (own_le bd v3) (own_le bd v4) f t)), .val (.int (0 : Int32))]) rfl ?_
        show Steps p.tables e below (T81.setTop (mkF m 280 #[.val (.int p1), .val (.int p2), .val (.int p3), .val (.int p4), .val (.int p5), .val (.int (Int32.ofNat 1)), .val (.int vi), .val (.int v0), .val (.int v1), .val (.int v2), .val (.int v3), .val (.int v4), .val (.double (FP.i2d bd)), .second, .val (.int (Int32.ofNat f)), .val (.int (Int32.ofNat t)), .val (.ref bm), .val (.int (own_want (own_le bd v0) (own_le bd v1) (own_le bd v2) (own_le bd v3) (own_le bd v4) f t)), .val (.int (0 : Int32))] [])) _
        rw [if_neg hd274] at h_e0
        subst h_e0
        exact kZ
    show own_R p.tables e below _ (T81.setTop (mkF m 280 #[.val (.int p1), .val (.int p2), .val (.int p3), .val (.int p4), .val (.int p5), .val (.int (Int32.ofNat 1)), .val (.int vi), .val (.int v0), .val (.int v1), .val (.int v2), .val (.int v3), .val (.int v4), .val (.double (FP.i2d bd)), .second, .val (.int (Int32.ofNat f)), .val (.int (Int32.ofNat t)), .val (.ref bm), .val (.int (own_want (own_le bd v0) (own_le bd v1) (own_le bd v2) (own_le bd v3) (own_le bd v4) f t)), .val (.int e0)] []))
    refine own_by (fun _ kZ => XS.iload X81.here hx rfl (hb hby at_280) rfl kZ) ?_
    show own_R p.tables e below _ (T81.setTop (mkF m 282 #[.val (.int p1), .val (.int p2), .val (.int p3), .val (.int p4), .val (.int p5), .val (.int (Int32.ofNat 1)), .val (.int vi), .val (.int v0), .val (.int v1), .val (.int v2), .val (.int v3), .val (.int v4), .val (.double (FP.i2d bd)), .second, .val (.int (Int32.ofNat f)), .val (.int (Int32.ofNat t)), .val (.ref bm), .val (.int (own_want (own_le bd v0) (own_le bd v1) (own_le bd v2) (own_le bd v3) (own_le bd v4) f t)), .val (.int e0)] [(.int (own_want (own_le bd v0) (own_le bd v1) (own_le bd v2) (own_le bd v3) (own_le bd v4) f t))]))
    refine own_by (fun _ kZ => XS.iload X81.here hx rfl (hb hby at_282) rfl kZ) ?_
    show own_R p.tables e below _ (T81.setTop (mkF m 284 #[.val (.int p1), .val (.int p2), .val (.int p3), .val (.int p4), .val (.int p5), .val (.int (Int32.ofNat 1)), .val (.int vi), .val (.int v0), .val (.int v1), .val (.int v2), .val (.int v3), .val (.int v4), .val (.double (FP.i2d bd)), .second, .val (.int (Int32.ofNat f)), .val (.int (Int32.ofNat t)), .val (.ref bm), .val (.int (own_want (own_le bd v0) (own_le bd v1) (own_le bd v2) (own_le bd v3) (own_le bd v4) f t)), .val (.int e0)] [(.int e0), (.int (own_want (own_le bd v0) (own_le bd v1) (own_le bd v2) (own_le bd v3) (own_le bd v4) f t))]))
    refine own_by (fun _ kZ => XS.icmpNo X81.here hx rfl (hb hby at_284) rfl (teq (own_wfin (by omega) (by omega) h_e4 h_e3 h_e2 h_e1 h_e0 : (own_want (own_le bd v0) (own_le bd v1) (own_le bd v2) (own_le bd v3) (own_le bd v4) f t) = e0)).2 kZ) ?_
    show own_R p.tables e below _ (T81.setTop (mkF m 287 #[.val (.int p1), .val (.int p2), .val (.int p3), .val (.int p4), .val (.int p5), .val (.int (Int32.ofNat 1)), .val (.int vi), .val (.int v0), .val (.int v1), .val (.int v2), .val (.int v3), .val (.int v4), .val (.double (FP.i2d bd)), .second, .val (.int (Int32.ofNat f)), .val (.int (Int32.ofNat t)), .val (.ref bm), .val (.int (own_want (own_le bd v0) (own_le bd v1) (own_le bd v2) (own_le bd v3) (own_le bd v4) f t)), .val (.int e0)] []))
    refine own_by (fun _ kZ => XS.iconst X81.here hx rfl (hb hby at_287) kZ) ?_
    show own_R p.tables e below _ (T81.setTop (mkF m 288 #[.val (.int p1), .val (.int p2), .val (.int p3), .val (.int p4), .val (.int p5), .val (.int (Int32.ofNat 1)), .val (.int vi), .val (.int v0), .val (.int v1), .val (.int v2), .val (.int v3), .val (.int v4), .val (.double (FP.i2d bd)), .second, .val (.int (Int32.ofNat f)), .val (.int (Int32.ofNat t)), .val (.ref bm), .val (.int (own_want (own_le bd v0) (own_le bd v1) (own_le bd v2) (own_le bd v3) (own_le bd v4) f t)), .val (.int e0)] [(.int (1 : Int32))]))
    refine own_by (fun _ kZ => XS.goto X81.here hx rfl (pc0 := 288) (pc' := 292) rfl (hb hby at_288) (by decide) (by decide) kZ) ?_
    show own_R p.tables e below _ (T81.setTop (mkF m 292 #[.val (.int p1), .val (.int p2), .val (.int p3), .val (.int p4), .val (.int p5), .val (.int (Int32.ofNat 1)), .val (.int vi), .val (.int v0), .val (.int v1), .val (.int v2), .val (.int v3), .val (.int v4), .val (.double (FP.i2d bd)), .second, .val (.int (Int32.ofNat f)), .val (.int (Int32.ofNat t)), .val (.ref bm), .val (.int (own_want (own_le bd v0) (own_le bd v1) (own_le bd v2) (own_le bd v3) (own_le bd v4) f t)), .val (.int e0)] [(.int (1 : Int32))]))
    obtain ⟨fs, hr, hrun, hended, hW, hsame⟩ := X81.leave (v := some (.int (1 : Int32))) (fun h => by rw [Bd.returns] at h; cases h)
    refine own_end ⟨_, _, ?_, hrun, hended, _, _, rfl, ?_, ⟨_, rfl⟩, hW, hsame.mono (by decide) (by decide)⟩
    · exact retN X81 hx (t := .boolean) Bd.returns (by simp) (hb hby at_292) hr
    · show Q0 Z p1 p2 p3 p4 p5 h0 n0 _ T81.heap _
      rw [e81]
      exact ⟨rfl, N81⟩
  · skip
    show own_R p.tables e below _ (T70.setTop (mkF m 111 #[.val (.int p1), .val (.int p2), .val (.int p3), .val (.int p4), .val (.int p5), .val (.int (Int32.ofNat 2)), .val (.int vi), .val (.int v0), .val (.int v1), .val (.int v2), .val (.int v3), .val (.int v4), .val (.double (FP.i2d bd)), .second, .val (.int (Int32.ofNat f)), .val (.int (Int32.ofNat t)), .val (.ref bm), .unset, .unset] [(.double (FP.i2d v0)), (.int (0 : Int32)), (.ref bm)]))
    obtain ⟨cq82, kq82, q82a, q82b, q82c⟩ := isOf hZ rfl f71_bm
    obtain ⟨_, _, ⟨T82, L82, k82, n82⟩, -, X82, ⟨Lc82, hQ82, l82, y82, z82⟩, st82⟩ := X70.virtualBack hx (y := (⟨"com/example/frugal_scheduler/frugalscheduler/planners/MinTree", "set", "(ID)V"⟩ : MethodName)) (z := (⟨"com/example/frugal_scheduler/frugalscheduler/planners/MinTree", "set", "(ID)V"⟩ : MethodName)) hown (mvT hZ (hw _ (List.mem_of_getElem? (i := 21) rfl))) (mvT hZ (hw _ (List.mem_of_getElem? (i := 22) rfl))) (notFace_of_selects (args := #[]) (mvT hZ (hw _ (List.mem_of_getElem? (i := 24) rfl)))) (mvT hZ (hw _ (List.mem_of_getElem? (i := 24) rfl))) (mvT hZ (hw _ (List.mem_of_getElem? (i := 23) rfl))) (by decide) (backOf (W := 0) (rm4 l Z a0 hw [] bm (0 : Int32) (FP.i2d v0) b 2 (fun _ => vi) 0 v0 T70.heap n0 Z72 W70 rfl (by decide) rfl) hZ (hw _ (List.mem_of_getElem? (i := 25) rfl)) (hw _ (List.mem_of_getElem? (i := 3) rfl)) (by decide) (by decide)) q82a q82c (g := (mkF m 111 #[.val (.int p1), .val (.int p2), .val (.int p3), .val (.int p4), .val (.int p5), .val (.int (Int32.ofNat 2)), .val (.int vi), .val (.int v0), .val (.int v1), .val (.int v2), .val (.int v3), .val (.int v4), .val (.double (FP.i2d bd)), .second, .val (.int (Int32.ofNat f)), .val (.int (Int32.ofNat t)), .val (.ref bm), .unset, .unset] [(.double (FP.i2d v0)), (.int (0 : Int32)), (.ref bm)])) rfl (by rw [hml]; rfl) (Steps.refl _) (argsL := [(.int (0 : Int32)), (.double (FP.i2d v0))]) (rest := []) (lenOf own_pd2 rfl) rfl (by show 2 * 0 + _ ≤ _; exact Nat.le_of_eq rfl) (hb hby at_111) (fun _ _ => ⟨rfl, rfl, (by decide : 2 + 0 ≤ _), (by decide : 19 + 0 ≤ _)⟩)
    dsimp only [Pt.U, Pt.locs, Pt.cells, Pt.slots] at X82 l82 y82 z82 st82 hQ82
    subst l82 y82 z82
    obtain ⟨rfl, Nq82, K82, W82⟩ := hQ82
    have N82 := Fr.app N70 Nq82
    have f83_bm : Exa Z T82.heap bm "com/example/frugal_scheduler/frugalscheduler/planners/MinTree" := f71_bm.keep K82
    have Z84 : n0 ≤ T82.heap.size := Nat.le_trans Z72 K82.1
    refine own_by (fun _ kZ => st82.trans kZ) ?_
    show own_R p.tables e below _ (T82.setTop (mkF m 114 #[.val (.int p1), .val (.int p2), .val (.int p3), .val (.int p4), .val (.int p5), .val (.int (Int32.ofNat 2)), .val (.int vi), .val (.int v0), .val (.int v1), .val (.int v2), .val (.int v3), .val (.int v4), .val (.double (FP.i2d bd)), .second, .val (.int (Int32.ofNat f)), .val (.int (Int32.ofNat t)), .val (.ref bm), .unset, .unset] []))
    refine own_by (fun _ kZ => XS.iload X82.here hx rfl (hb hby at_114) rfl kZ) ?_
    show own_R p.tables e below _ (T82.setTop (mkF m 116 #[.val (.int p1), .val (.int p2), .val (.int p3), .val (.int p4), .val (.int p5), .val (.int (Int32.ofNat 2)), .val (.int vi), .val (.int v0), .val (.int v1), .val (.int v2), .val (.int v3), .val (.int v4), .val (.double (FP.i2d bd)), .second, .val (.int (Int32.ofNat f)), .val (.int (Int32.ofNat t)), .val (.ref bm), .unset, .unset] [(.int (Int32.ofNat 2))]))
    refine own_by (fun _ kZ => XS.iconst X82.here hx rfl (hb hby at_116) kZ) ?_
    show own_R p.tables e below _ (T82.setTop (mkF m 117 #[.val (.int p1), .val (.int p2), .val (.int p3), .val (.int p4), .val (.int p5), .val (.int (Int32.ofNat 2)), .val (.int vi), .val (.int v0), .val (.int v1), .val (.int v2), .val (.int v3), .val (.int v4), .val (.double (FP.i2d bd)), .second, .val (.int (Int32.ofNat f)), .val (.int (Int32.ofNat t)), .val (.ref bm), .unset, .unset] [(.int (1 : Int32)), (.int (Int32.ofNat 2))]))
    refine own_by (fun _ kZ => XS.icmpNo X82.here hx rfl (hb hby at_117) rfl (tlt (by decide : (1 : Int32) < (Int32.ofNat 2))).2.2.2 kZ) ?_
    show own_R p.tables e below _ (T82.setTop (mkF m 120 #[.val (.int p1), .val (.int p2), .val (.int p3), .val (.int p4), .val (.int p5), .val (.int (Int32.ofNat 2)), .val (.int vi), .val (.int v0), .val (.int v1), .val (.int v2), .val (.int v3), .val (.int v4), .val (.double (FP.i2d bd)), .second, .val (.int (Int32.ofNat f)), .val (.int (Int32.ofNat t)), .val (.ref bm), .unset, .unset] []))
    refine own_by (fun _ kZ => XS.aload X82.here hx rfl (hb hby at_120) rfl rfl kZ) ?_
    show own_R p.tables e below _ (T82.setTop (mkF m 122 #[.val (.int p1), .val (.int p2), .val (.int p3), .val (.int p4), .val (.int p5), .val (.int (Int32.ofNat 2)), .val (.int vi), .val (.int v0), .val (.int v1), .val (.int v2), .val (.int v3), .val (.int v4), .val (.double (FP.i2d bd)), .second, .val (.int (Int32.ofNat f)), .val (.int (Int32.ofNat t)), .val (.ref bm), .unset, .unset] [(.ref bm)]))
    refine own_by (fun _ kZ => XS.iconst X82.here hx rfl (hb hby at_122) kZ) ?_
    show own_R p.tables e below _ (T82.setTop (mkF m 123 #[.val (.int p1), .val (.int p2), .val (.int p3), .val (.int p4), .val (.int p5), .val (.int (Int32.ofNat 2)), .val (.int vi), .val (.int v0), .val (.int v1), .val (.int v2), .val (.int v3), .val (.int v4), .val (.double (FP.i2d bd)), .second, .val (.int (Int32.ofNat f)), .val (.int (Int32.ofNat t)), .val (.ref bm), .unset, .unset] [(.int (1 : Int32)), (.ref bm)]))
    refine own_by (fun _ kZ => XS.iload X82.here hx rfl (hb hby at_123) rfl kZ) ?_
    show own_R p.tables e below _ (T82.setTop (mkF m 125 #[.val (.int p1), .val (.int p2), .val (.int p3), .val (.int p4), .val (.int p5), .val (.int (Int32.ofNat 2)), .val (.int vi), .val (.int v0), .val (.int v1), .val (.int v2), .val (.int v3), .val (.int v4), .val (.double (FP.i2d bd)), .second, .val (.int (Int32.ofNat f)), .val (.int (Int32.ofNat t)), .val (.ref bm), .unset, .unset] [(.int v1), (.int (1 : Int32)), (.ref bm)]))
    refine own_by (fun _ kZ => own_i2d X82.here hx rfl (hb hby at_125) rfl kZ) ?_
    show own_R p.tables e below _ (T82.setTop (mkF m 126 #[.val (.int p1), .val (.int p2), .val (.int p3), .val (.int p4), .val (.int p5), .val (.int (Int32.ofNat 2)), .val (.int vi), .val (.int v0), .val (.int v1), .val (.int v2), .val (.int v3), .val (.int v4), .val (.double (FP.i2d bd)), .second, .val (.int (Int32.ofNat f)), .val (.int (Int32.ofNat t)), .val (.ref bm), .unset, .unset] [(.double (FP.i2d v1)), (.int (1 : Int32)), (.ref bm)]))
    obtain ⟨cq85, kq85, q85a, q85b, q85c⟩ := isOf hZ rfl f83_bm
    obtain ⟨_, _, ⟨T85, L85, k85, n85⟩, -, X85, ⟨Lc85, hQ85, l85, y85, z85⟩, st85⟩ := X82.virtualBack hx (y := (⟨"com/example/frugal_scheduler/frugalscheduler/planners/MinTree", "set", "(ID)V"⟩ : MethodName)) (z := (⟨"com/example/frugal_scheduler/frugalscheduler/planners/MinTree", "set", "(ID)V"⟩ : MethodName)) hown (mvT hZ (hw _ (List.mem_of_getElem? (i := 21) rfl))) (mvT hZ (hw _ (List.mem_of_getElem? (i := 22) rfl))) (notFace_of_selects (args := #[]) (mvT hZ (hw _ (List.mem_of_getElem? (i := 24) rfl)))) (mvT hZ (hw _ (List.mem_of_getElem? (i := 24) rfl))) (mvT hZ (hw _ (List.mem_of_getElem? (i := 23) rfl))) (by decide) (backOf (W := 0) (rm4 l Z a0 hw [] bm (1 : Int32) (FP.i2d v1) b 2 (own_setg own_min (fun _ => vi) (own_leaves 2) 0 v0) 1 v1 T82.heap n0 Z84 W82 rfl (by decide) rfl) hZ (hw _ (List.mem_of_getElem? (i := 25) rfl)) (hw _ (List.mem_of_getElem? (i := 3) rfl)) (by decide) (by decide)) q85a q85c (g := (mkF m 126 #[.val (.int p1), .val (.int p2), .val (.int p3), .val (.int p4), .val (.int p5), .val (.int (Int32.ofNat 2)), .val (.int vi), .val (.int v0), .val (.int v1), .val (.int v2), .val (.int v3), .val (.int v4), .val (.double (FP.i2d bd)), .second, .val (.int (Int32.ofNat f)), .val (.int (Int32.ofNat t)), .val (.ref bm), .unset, .unset] [(.double (FP.i2d v1)), (.int (1 : Int32)), (.ref bm)])) rfl (by rw [hml]; rfl) (Steps.refl _) (argsL := [(.int (1 : Int32)), (.double (FP.i2d v1))]) (rest := []) (lenOf own_pd2 rfl) rfl (by show 2 * 0 + _ ≤ _; exact Nat.le_of_eq rfl) (hb hby at_126) (fun _ _ => ⟨rfl, rfl, (by decide : 2 + 0 ≤ _), (by decide : 19 + 0 ≤ _)⟩)
    dsimp only [Pt.U, Pt.locs, Pt.cells, Pt.slots] at X85 l85 y85 z85 st85 hQ85
    subst l85 y85 z85
    obtain ⟨rfl, Nq85, K85, W85⟩ := hQ85
    have N85 := Fr.app N82 Nq85
    have f86_bm : Exa Z T85.heap bm "com/example/frugal_scheduler/frugalscheduler/planners/MinTree" := f83_bm.keep K85
    have Z87 : n0 ≤ T85.heap.size := Nat.le_trans Z84 K85.1
    refine own_by (fun _ kZ => st85.trans kZ) ?_
    show own_R p.tables e below _ (T85.setTop (mkF m 129 #[.val (.int p1), .val (.int p2), .val (.int p3), .val (.int p4), .val (.int p5), .val (.int (Int32.ofNat 2)), .val (.int vi), .val (.int v0), .val (.int v1), .val (.int v2), .val (.int v3), .val (.int v4), .val (.double (FP.i2d bd)), .second, .val (.int (Int32.ofNat f)), .val (.int (Int32.ofNat t)), .val (.ref bm), .unset, .unset] []))
    refine own_by (fun _ kZ => XS.iload X85.here hx rfl (hb hby at_129) rfl kZ) ?_
    show own_R p.tables e below _ (T85.setTop (mkF m 131 #[.val (.int p1), .val (.int p2), .val (.int p3), .val (.int p4), .val (.int p5), .val (.int (Int32.ofNat 2)), .val (.int vi), .val (.int v0), .val (.int v1), .val (.int v2), .val (.int v3), .val (.int v4), .val (.double (FP.i2d bd)), .second, .val (.int (Int32.ofNat f)), .val (.int (Int32.ofNat t)), .val (.ref bm), .unset, .unset] [(.int (Int32.ofNat 2))]))
    refine own_by (fun _ kZ => XS.iconst X85.here hx rfl (hb hby at_131) kZ) ?_
    show own_R p.tables e below _ (T85.setTop (mkF m 132 #[.val (.int p1), .val (.int p2), .val (.int p3), .val (.int p4), .val (.int p5), .val (.int (Int32.ofNat 2)), .val (.int vi), .val (.int v0), .val (.int v1), .val (.int v2), .val (.int v3), .val (.int v4), .val (.double (FP.i2d bd)), .second, .val (.int (Int32.ofNat f)), .val (.int (Int32.ofNat t)), .val (.ref bm), .unset, .unset] [(.int (2 : Int32)), (.int (Int32.ofNat 2))]))
    refine own_by (fun _ kZ => XS.icmpYes X85.here hx rfl (pc0 := 132) (pc' := 144) rfl (hb hby at_132) rfl (flt (by decide : ¬ (2 : Int32) < (Int32.ofNat 2))).2.2.2 (by decide) (by decide) kZ) ?_
    show own_R p.tables e below _ (T85.setTop (mkF m 144 #[.val (.int p1), .val (.int p2), .val (.int p3), .val (.int p4), .val (.int p5), .val (.int (Int32.ofNat 2)), .val (.int vi), .val (.int v0), .val (.int v1), .val (.int v2), .val (.int v3), .val (.int v4), .val (.double (FP.i2d bd)), .second, .val (.int (Int32.ofNat f)), .val (.int (Int32.ofNat t)), .val (.ref bm), .unset, .unset] []))
    refine own_by (fun _ kZ => XS.iload X85.here hx rfl (hb hby at_144) rfl kZ) ?_
    show own_R p.tables e below _ (T85.setTop (mkF m 146 #[.val (.int p1), .val (.int p2), .val (.int p3), .val (.int p4), .val (.int p5), .val (.int (Int32.ofNat 2)), .val (.int vi), .val (.int v0), .val (.int v1), .val (.int v2), .val (.int v3), .val (.int v4), .val (.double (FP.i2d bd)), .second, .val (.int (Int32.ofNat f)), .val (.int (Int32.ofNat t)), .val (.ref bm), .unset, .unset] [(.int (Int32.ofNat 2))]))
    refine own_by (fun _ kZ => XS.iconst X85.here hx rfl (hb hby at_146) kZ) ?_
    show own_R p.tables e below _ (T85.setTop (mkF m 147 #[.val (.int p1), .val (.int p2), .val (.int p3), .val (.int p4), .val (.int p5), .val (.int (Int32.ofNat 2)), .val (.int vi), .val (.int v0), .val (.int v1), .val (.int v2), .val (.int v3), .val (.int v4), .val (.double (FP.i2d bd)), .second, .val (.int (Int32.ofNat f)), .val (.int (Int32.ofNat t)), .val (.ref bm), .unset, .unset] [(.int (3 : Int32)), (.int (Int32.ofNat 2))]))
    refine own_by (fun _ kZ => XS.icmpYes X85.here hx rfl (pc0 := 147) (pc' := 159) rfl (hb hby at_147) rfl (flt (by decide : ¬ (3 : Int32) < (Int32.ofNat 2))).2.2.2 (by decide) (by decide) kZ) ?_
    show own_R p.tables e below _ (T85.setTop (mkF m 159 #[.val (.int p1), .val (.int p2), .val (.int p3), .val (.int p4), .val (.int p5), .val (.int (Int32.ofNat 2)), .val (.int vi), .val (.int v0), .val (.int v1), .val (.int v2), .val (.int v3), .val (.int v4), .val (.double (FP.i2d bd)), .second, .val (.int (Int32.ofNat f)), .val (.int (Int32.ofNat t)), .val (.ref bm), .unset, .unset] []))
    refine own_by (fun _ kZ => XS.iload X85.here hx rfl (hb hby at_159) rfl kZ) ?_
    show own_R p.tables e below _ (T85.setTop (mkF m 161 #[.val (.int p1), .val (.int p2), .val (.int p3), .val (.int p4), .val (.int p5), .val (.int (Int32.ofNat 2)), .val (.int vi), .val (.int v0), .val (.int v1), .val (.int v2), .val (.int v3), .val (.int v4), .val (.double (FP.i2d bd)), .second, .val (.int (Int32.ofNat f)), .val (.int (Int32.ofNat t)), .val (.ref bm), .unset, .unset] [(.int (Int32.ofNat 2))]))
    refine own_by (fun _ kZ => XS.iconst X85.here hx rfl (hb hby at_161) kZ) ?_
    show own_R p.tables e below _ (T85.setTop (mkF m 162 #[.val (.int p1), .val (.int p2), .val (.int p3), .val (.int p4), .val (.int p5), .val (.int (Int32.ofNat 2)), .val (.int vi), .val (.int v0), .val (.int v1), .val (.int v2), .val (.int v3), .val (.int v4), .val (.double (FP.i2d bd)), .second, .val (.int (Int32.ofNat f)), .val (.int (Int32.ofNat t)), .val (.ref bm), .unset, .unset] [(.int (4 : Int32)), (.int (Int32.ofNat 2))]))
    refine own_by (fun _ kZ => XS.icmpYes X85.here hx rfl (pc0 := 162) (pc' := 174) rfl (hb hby at_162) rfl (flt (by decide : ¬ (4 : Int32) < (Int32.ofNat 2))).2.2.2 (by decide) (by decide) kZ) ?_
    show own_R p.tables e below _ (T85.setTop (mkF m 174 #[.val (.int p1), .val (.int p2), .val (.int p3), .val (.int p4), .val (.int p5), .val (.int (Int32.ofNat 2)), .val (.int vi), .val (.int v0), .val (.int v1), .val (.int v2), .val (.int v3), .val (.int v4), .val (.double (FP.i2d bd)), .second, .val (.int (Int32.ofNat f)), .val (.int (Int32.ofNat t)), .val (.ref bm), .unset, .unset] []))
    refine own_by (fun _ kZ => XS.aload X85.here hx rfl (hb hby at_174) rfl rfl kZ) ?_
    show own_R p.tables e below _ (T85.setTop (mkF m 176 #[.val (.int p1), .val (.int p2), .val (.int p3), .val (.int p4), .val (.int p5), .val (.int (Int32.ofNat 2)), .val (.int vi), .val (.int v0), .val (.int v1), .val (.int v2), .val (.int v3), .val (.int v4), .val (.double (FP.i2d bd)), .second, .val (.int (Int32.ofNat f)), .val (.int (Int32.ofNat t)), .val (.ref bm), .unset, .unset] [(.ref bm)]))
    refine own_by (fun _ kZ => XS.iload X85.here hx rfl (hb hby at_176) rfl kZ) ?_
    show own_R p.tables e below _ (T85.setTop (mkF m 178 #[.val (.int p1), .val (.int p2), .val (.int p3), .val (.int p4), .val (.int p5), .val (.int (Int32.ofNat 2)), .val (.int vi), .val (.int v0), .val (.int v1), .val (.int v2), .val (.int v3), .val (.int v4), .val (.double (FP.i2d bd)), .second, .val (.int (Int32.ofNat f)), .val (.int (Int32.ofNat t)), .val (.ref bm), .unset, .unset] [(.int (Int32.ofNat f)), (.ref bm)]))
    refine own_by (fun _ kZ => XS.iload X85.here hx rfl (hb hby at_178) rfl kZ) ?_
    show own_R p.tables e below _ (T85.setTop (mkF m 180 #[.val (.int p1), .val (.int p2), .val (.int p3), .val (.int p4), .val (.int p5), .val (.int (Int32.ofNat 2)), .val (.int vi), .val (.int v0), .val (.int v1), .val (.int v2), .val (.int v3), .val (.int v4), .val (.double (FP.i2d bd)), .second, .val (.int (Int32.ofNat f)), .val (.int (Int32.ofNat t)), .val (.ref bm), .unset, .unset] [(.int (Int32.ofNat t)), (.int (Int32.ofNat f)), (.ref bm)]))
    refine own_by (fun _ kZ => own_dload X85.here hx rfl (hb hby at_180) rfl kZ) ?_
    show own_R p.tables e below _ (T85.setTop (mkF m 182 #[.val (.int p1), .val (.int p2), .val (.int p3), .val (.int p4), .val (.int p5), .val (.int (Int32.ofNat 2)), .val (.int vi), .val (.int v0), .val (.int v1), .val (.int v2), .val (.int v3), .val (.int v4), .val (.double (FP.i2d bd)), .second, .val (.int (Int32.ofNat f)), .val (.int (Int32.ofNat t)), .val (.ref bm), .unset, .unset] [(.double (FP.i2d bd)), (.int (Int32.ofNat t)), (.int (Int32.ofNat f)), (.ref bm)]))
    have WT : own_MT Z T85.heap n0 bm b 2 (own_tree own_min 2 v0 v1 v2 v3 v4 vi) := by rw [own_tr2]; exact W85
    obtain ⟨cq88, kq88, q88a, q88b, q88c⟩ := isOf hZ rfl f86_bm
    obtain ⟨_, _, ⟨T88, L88, k88, n88⟩, -, X88, ⟨Lc88, hQ88, l88, y88, z88⟩, st88⟩ := X85.virtualBack hx (y := (⟨"com/example/frugal_scheduler/frugalscheduler/planners/MinTree", "firstAtMost", "(IID)I"⟩ : MethodName)) (z := (⟨"com/example/frugal_scheduler/frugalscheduler/planners/MinTree", "firstAtMost", "(IID)I"⟩ : MethodName)) hown (mvT hZ (hw _ (List.mem_of_getElem? (i := 26) rfl))) (mvT hZ (hw _ (List.mem_of_getElem? (i := 27) rfl))) (notFace_of_selects (args := #[]) (mvT hZ (hw _ (List.mem_of_getElem? (i := 29) rfl)))) (mvT hZ (hw _ (List.mem_of_getElem? (i := 29) rfl))) (mvT hZ (hw _ (List.mem_of_getElem? (i := 28) rfl))) (by decide) (backOf (W := 0) (rm5 l Z a0 hw [] bm (Int32.ofNat f) (Int32.ofNat t) (FP.i2d bd) b 2 (own_tree own_min 2 v0 v1 v2 v3 v4 vi) f t bd (own_want (own_le bd v0) (own_le bd v1) (own_le bd v2) (own_le bd v3) (own_le bd v4) f t) T85.heap n0 Z87 WT (by decide) rfl rfl rfl lf lt (own_famB bd v0 v1 v2 v3 v4 vi 2 f t (by decide) (by decide) lf lt)) hZ (hw _ (List.mem_of_getElem? (i := 30) rfl)) (hw _ (List.mem_of_getElem? (i := 3) rfl)) (by decide) (by decide)) q88a q88c (g := (mkF m 182 #[.val (.int p1), .val (.int p2), .val (.int p3), .val (.int p4), .val (.int p5), .val (.int (Int32.ofNat 2)), .val (.int vi), .val (.int v0), .val (.int v1), .val (.int v2), .val (.int v3), .val (.int v4), .val (.double (FP.i2d bd)), .second, .val (.int (Int32.ofNat f)), .val (.int (Int32.ofNat t)), .val (.ref bm), .unset, .unset] [(.double (FP.i2d bd)), (.int (Int32.ofNat t)), (.int (Int32.ofNat f)), (.ref bm)])) rfl (by rw [hml]; rfl) (Steps.refl _) (argsL := [(.int (Int32.ofNat f)), (.int (Int32.ofNat t)), (.double (FP.i2d bd))]) (rest := []) (lenOf own_pd3 rfl) rfl (by show 2 * 0 + _ ≤ _; exact Nat.le_of_eq rfl) (hb hby at_182) (fun _ _ => ⟨rfl, rfl, (by decide : 2 + 0 ≤ _), (by decide : 19 + 0 ≤ _)⟩)
    dsimp only [Pt.U, Pt.locs, Pt.cells, Pt.slots] at X88 l88 y88 z88 st88 hQ88
    subst l88 y88 z88
    obtain ⟨rfl, Nq88, e88⟩ := hQ88
    have N88 := Fr.app N85 Nq88
    refine own_by (fun _ kZ => st88.trans kZ) ?_
    show own_R p.tables e below _ (T88.setTop (mkF m 185 #[.val (.int p1), .val (.int p2), .val (.int p3), .val (.int p4), .val (.int p5), .val (.int (Int32.ofNat 2)), .val (.int vi), .val (.int v0), .val (.int v1), .val (.int v2), .val (.int v3), .val (.int v4), .val (.double (FP.i2d bd)), .second, .val (.int (Int32.ofNat f)), .val (.int (Int32.ofNat t)), .val (.ref bm), .unset, .unset] [(.int (own_want (own_le bd v0) (own_le bd v1) (own_le bd v2) (own_le bd v3) (own_le bd v4) f t))]))
    refine own_by (fun _ kZ => XS.istore X88.here hx rfl (hb hby at_185) rfl (l' := #[.val (.int p1), .val (.int p2), .val (.int p3), .val (.int p4), .val (.int p5), .val (.int (Int32.ofNat 2)), .val (.int vi), .val (.int v0), .val (.int v1), .val (.int v2), .val (.int v3), .val (.int v4), .val (.double (FP.i2d bd)), .second, .val (.int (Int32.ofNat f)), .val (.int (Int32.ofNat t)), .val (.ref bm), .val (.int (own_want (own_le bd v0) (own_le bd v1) (own_le bd v2) (own_le bd v3) (own_le bd v4) f t)), .unset]) rfl kZ) ?_
    show own_R p.tables e below _ (T88.setTop (mkF m 187 #[.val (.int p1), .val (.int p2), .val (.int p3), .val (.int p4), .val (.int p5), .val (.int (Int32.ofNat 2)), .val (.int vi), .val (.int v0), .val (.int v1), .val (.int v2), .val (.int v3), .val (.int v4), .val (.double (FP.i2d bd)), .second, .val (.int (Int32.ofNat f)), .val (.int (Int32.ofNat t)), .val (.ref bm), .val (.int (own_want (own_le bd v0) (own_le bd v1) (own_le bd v2) (own_le bd v3) (own_le bd v4) f t)), .unset] []))
    refine own_by (fun _ kZ => XS.iconst X88.here hx rfl (hb hby at_187) kZ) ?_
    show own_R p.tables e below _ (T88.setTop (mkF m 188 #[.val (.int p1), .val (.int p2), .val (.int p3), .val (.int p4), .val (.int p5), .val (.int (Int32.ofNat 2)), .val (.int vi), .val (.int v0), .val (.int v1), .val (.int v2), .val (.int v3), .val (.int v4), .val (.double (FP.i2d bd)), .second, .val (.int (Int32.ofNat f)), .val (.int (Int32.ofNat t)), .val (.ref bm), .val (.int (own_want (own_le bd v0) (own_le bd v1) (own_le bd v2) (own_le bd v3) (own_le bd v4) f t)), .unset] [(.int (-1 : Int32))]))
    refine own_by (fun _ kZ => XS.istore X88.here hx rfl (hb hby at_188) rfl (l' := #[.val (.int p1), .val (.int p2), .val (.int p3), .val (.int p4), .val (.int p5), .val (.int (Int32.ofNat 2)), .val (.int vi), .val (.int v0), .val (.int v1), .val (.int v2), .val (.int v3), .val (.int v4), .val (.double (FP.i2d bd)), .second, .val (.int (Int32.ofNat f)), .val (.int (Int32.ofNat t)), .val (.ref bm), .val (.int (own_want (own_le bd v0) (own_le bd v1) (own_le bd v2) (own_le bd v3) (own_le bd v4) f t)), .val (.int (-1 : Int32))]) rfl kZ) ?_
    show own_R p.tables e below _ (T88.setTop (mkF m 190 #[.val (.int p1), .val (.int p2), .val (.int p3), .val (.int p4), .val (.int p5), .val (.int (Int32.ofNat 2)), .val (.int vi), .val (.int v0), .val (.int v1), .val (.int v2), .val (.int v3), .val (.int v4), .val (.double (FP.i2d bd)), .second, .val (.int (Int32.ofNat f)), .val (.int (Int32.ofNat t)), .val (.ref bm), .val (.int (own_want (own_le bd v0) (own_le bd v1) (own_le bd v2) (own_le bd v3) (own_le bd v4) f t)), .val (.int (-1 : Int32))] []))
    refine own_by (fun _ kZ => XS.iconst X88.here hx rfl (hb hby at_190) kZ) ?_
    show own_R p.tables e below _ (T88.setTop (mkF m 191 #[.val (.int p1), .val (.int p2), .val (.int p3), .val (.int p4), .val (.int p5), .val (.int (Int32.ofNat 2)), .val (.int vi), .val (.int v0), .val (.int v1), .val (.int v2), .val (.int v3), .val (.int v4), .val (.double (FP.i2d bd)), .second, .val (.int (Int32.ofNat f)), .val (.int (Int32.ofNat t)), .val (.ref bm), .val (.int (own_want (own_le bd v0) (own_le bd v1) (own_le bd v2) (own_le bd v3) (own_le bd v4) f t)), .val (.int (-1 : Int32))] [(.int (4 : Int32))]))
    refine own_by (fun _ kZ => XS.iload X88.here hx rfl (hb hby at_191) rfl kZ) ?_
    show own_R p.tables e below _ (T88.setTop (mkF m 193 #[.val (.int p1), .val (.int p2), .val (.int p3), .val (.int p4), .val (.int p5), .val (.int (Int32.ofNat 2)), .val (.int vi), .val (.int v0), .val (.int v1), .val (.int v2), .val (.int v3), .val (.int v4), .val (.double (FP.i2d bd)), .second, .val (.int (Int32.ofNat f)), .val (.int (Int32.ofNat t)), .val (.ref bm), .val (.int (own_want (own_le bd v0) (own_le bd v1) (own_le bd v2) (own_le bd v3) (own_le bd v4) f t)), .val (.int (-1 : Int32))] [(.int v4), (.int (4 : Int32))]))
    refine own_by (fun _ kZ => XS.iload X88.here hx rfl (hb hby at_193) rfl kZ) ?_
    show own_R p.tables e below _ (T88.setTop (mkF m 195 #[.val (.int p1), .val (.int p2), .val (.int p3), .val (.int p4), .val (.int p5), .val (.int (Int32.ofNat 2)), .val (.int vi), .val (.int v0), .val (.int v1), .val (.int v2), .val (.int v3), .val (.int v4), .val (.double (FP.i2d bd)), .second, .val (.int (Int32.ofNat f)), .val (.int (Int32.ofNat t)), .val (.ref bm), .val (.int (own_want (own_le bd v0) (own_le bd v1) (own_le bd v2) (own_le bd v3) (own_le bd v4) f t)), .val (.int (-1 : Int32))] [(.int (Int32.ofNat f)), (.int v4), (.int (4 : Int32))]))
    refine own_by (fun _ kZ => XS.iload X88.here hx rfl (hb hby at_195) rfl kZ) ?_
    show own_R p.tables e below _ (T88.setTop (mkF m 197 #[.val (.int p1), .val (.int p2), .val (.int p3), .val (.int p4), .val (.int p5), .val (.int (Int32.ofNat 2)), .val (.int vi), .val (.int v0), .val (.int v1), .val (.int v2), .val (.int v3), .val (.int v4), .val (.double (FP.i2d bd)), .second, .val (.int (Int32.ofNat f)), .val (.int (Int32.ofNat t)), .val (.ref bm), .val (.int (own_want (own_le bd v0) (own_le bd v1) (own_le bd v2) (own_le bd v3) (own_le bd v4) f t)), .val (.int (-1 : Int32))] [(.int (Int32.ofNat t)), (.int (Int32.ofNat f)), (.int v4), (.int (4 : Int32))]))
    refine own_by (fun _ kZ => own_dload X88.here hx rfl (hb hby at_197) rfl kZ) ?_
    show own_R p.tables e below _ (T88.setTop (mkF m 199 #[.val (.int p1), .val (.int p2), .val (.int p3), .val (.int p4), .val (.int p5), .val (.int (Int32.ofNat 2)), .val (.int vi), .val (.int v0), .val (.int v1), .val (.int v2), .val (.int v3), .val (.int v4), .val (.double (FP.i2d bd)), .second, .val (.int (Int32.ofNat f)), .val (.int (Int32.ofNat t)), .val (.ref bm), .val (.int (own_want (own_le bd v0) (own_le bd v1) (own_le bd v2) (own_le bd v3) (own_le bd v4) f t)), .val (.int (-1 : Int32))] [(.double (FP.i2d bd)), (.int (Int32.ofNat t)), (.int (Int32.ofNat f)), (.int v4), (.int (4 : Int32))]))
    obtain ⟨_, _, ⟨T89, L89, k89, n89⟩, -, X89, ⟨Lc89, hQ89, l89, y89, z89⟩, st89⟩ := Jvm.LawKit.callS X88 hx (y := (⟨"com/example/frugal_scheduler/frugalscheduler/planners/MinTreeFirstAtMostPinLaw", "hit", "(IIIID)Z"⟩ : MethodName)) hown (mvT hZ (hw _ (List.mem_of_getElem? (i := 31) rfl))) (mvT hZ (hw _ (List.mem_of_getElem? (i := 32) rfl))) (mvT hZ (hw _ (List.mem_of_getElem? (i := 33) rfl))) (mvT hZ (hw _ (List.mem_of_getElem? (i := 34) rfl))) (by decide) (backOf (W := 0) (rm6 l Z a0 hw [] (4 : Int32) v4 (Int32.ofNat f) (Int32.ofNat t) (FP.i2d bd) bd T85.heap n0 Z87 rfl) hZ (hw _ (List.mem_of_getElem? (i := 34) rfl)) (hw _ (List.mem_of_getElem? (i := 33) rfl)) (by decide) (by decide)) (g := (mkF m 199 #[.val (.int p1), .val (.int p2), .val (.int p3), .val (.int p4), .val (.int p5), .val (.int (Int32.ofNat 2)), .val (.int vi), .val (.int v0), .val (.int v1), .val (.int v2), .val (.int v3), .val (.int v4), .val (.double (FP.i2d bd)), .second, .val (.int (Int32.ofNat f)), .val (.int (Int32.ofNat t)), .val (.ref bm), .val (.int (own_want (own_le bd v0) (own_le bd v1) (own_le bd v2) (own_le bd v3) (own_le bd v4) f t)), .val (.int (-1 : Int32))] [(.double (FP.i2d bd)), (.int (Int32.ofNat t)), (.int (Int32.ofNat f)), (.int v4), (.int (4 : Int32))])) rfl (by rw [hml]; rfl) (argsL := [(.int (4 : Int32)), (.int v4), (.int (Int32.ofNat f)), (.int (Int32.ofNat t)), (.double (FP.i2d bd))]) (rest := []) (lenOf own_pd4 rfl) rfl (by show 2 * 0 + _ ≤ _; exact Nat.le_of_eq rfl) (hb hby at_199) (fun _ _ => ⟨rfl, e88, (by decide : 2 + 0 ≤ _), (by decide : 19 + 0 ≤ _)⟩)
    dsimp only [Pt.U, Pt.locs, Pt.cells, Pt.slots] at X89 l89 y89 z89 st89 hQ89
    subst l89 y89 z89
    obtain ⟨rfl, Nq89, e89⟩ := hQ89
    have N89 := Fr.app N88 Nq89
    refine own_by st89 ?_
    show own_R p.tables e below _ (T89.setTop (mkF m 202 #[.val (.int p1), .val (.int p2), .val (.int p3), .val (.int p4), .val (.int p5), .val (.int (Int32.ofNat 2)), .val (.int vi), .val (.int v0), .val (.int v1), .val (.int v2), .val (.int v3), .val (.int v4), .val (.double (FP.i2d bd)), .second, .val (.int (Int32.ofNat f)), .val (.int (Int32.ofNat t)), .val (.ref bm), .val (.int (own_want (own_le bd v0) (own_le bd v1) (own_le bd v2) (own_le bd v3) (own_le bd v4) f t)), .val (.int (-1 : Int32))] [(.int (own_hit (4 : Int32) v4 (Int32.ofNat f) (Int32.ofNat t) bd))]))
    obtain ⟨e4, h_e4⟩ : ∃ z : Int32, z = (if (own_hit (4 : Int32) v4 (Int32.ofNat f) (Int32.ofNat t) bd) = (0 : Int32) then (-1 : Int32) else (4 : Int32)) := ⟨_, rfl⟩
    refine own_by (S' := T89.setTop (mkF m 208 #[.val (.int p1), .val (.int p2), .val (.int p3), .val (.int p4), .val (.int p5), .val (.int (Int32.ofNat 2)), .val (.int vi), .val (.int v0), .val (.int v1), .val (.int v2), .val (.int v3), .val (.int v4), .val (.double (FP.i2d bd)), .second, .val (.int (Int32.ofNat f)), .val (.int (Int32.ofNat t)), .val (.ref bm), .val (.int (own_want (own_le bd v0) (own_le bd v1) (own_le bd v2) (own_le bd v3) (own_le bd v4) f t)), .val (.int e4)] [])) (fun _ kZ => ?_) ?_
    · skip
      show Steps p.tables e below (T89.setTop (mkF m 202 #[.val (.int p1), .val (.int p2), .val (.int p3), .val (.int p4), .val (.int p5), .val (.int (Int32.ofNat 2)), .val (.int vi), .val (.int v0), .val (.int v1), .val (.int v2), .val (.int v3), .val (.int v4), .val (.double (FP.i2d bd)), .second, .val (.int (Int32.ofNat f)), .val (.int (Int32.ofNat t)), .val (.ref bm), .val (.int (own_want (own_le bd v0) (own_le bd v1) (own_le bd v2) (own_le bd v3) (own_le bd v4) f t)), .val (.int (-1 : Int32))] [(.int (own_hit (4 : Int32) v4 (Int32.ofNat f) (Int32.ofNat t) bd))])) _
      by_cases hd202 : (own_hit (4 : Int32) v4 (Int32.ofNat f) (Int32.ofNat t) bd) = (0 : Int32)
      · skip
        refine XS.ifYes X89.here hx rfl (pc0 := 202) (pc' := 208) rfl (hb hby at_202) rfl ((if0 _ _).trans (teq hd202).1) (by decide) (by decide) ?_
        show Steps p.tables e below (T89.setTop (mkF m 208 #[.val (.int p1), .val (.int p2), .val (.int p3), .val (.int p4), .val (.int p5), .val (.int (Int32.ofNat 2)), .val (.int vi), .val (.int v0), .val (.int v1), .val (.int v2), .val (.int v3), .val (.int v4), .val (.double (FP.i2d bd)), .second, .val (.int (Int32.ofNat f)), .val (.int (Int32.ofNat t)), .val (.ref bm), .val (.int (own_want (own_le bd v0) (own_le bd v1) (own_le bd v2) (own_le bd v3) (own_le bd v4) f t)), .val (.int (-1 : Int32))] [])) _
        rw [if_pos hd202] at h_e4
        subst h_e4
        exact kZ
      · skip
        refine XS.ifNo X89.here hx rfl (hb hby at_202) rfl ((if0 _ _).trans (feq hd202).1) ?_
        show Steps p.tables e below (T89.setTop (mkF m 205 #[.val (.int p1), .val (.int p2), .val (.int p3), .val (.int p4), .val (.int p5), .val (.int (Int32.ofNat 2)), .val (.int vi), .val (.int v0), .val (.int v1), .val (.int v2), .val (.int v3), .val (.int v4), .val (.double (FP.i2d bd)), .second, .val (.int (Int32.ofNat f)), .val (.int (Int32.ofNat t)), .val (.ref bm), .val (.int (own_want (own_le bd v0) (own_le bd v1) (own_le bd v2) (own_le bd v3) (own_le bd v4) f t)), .val (.int (-1 : Int32))] [])) _
        refine XS.iconst X89.here hx rfl (hb hby at_205) ?_
        show Steps p.tables e below (T89.setTop (mkF m 206 #[.val (.int p1), .val (.int p2), .val (.int p3), .val (.int p4), .val (.int p5), .val (.int (Int32.ofNat 2)), .val (.int vi), .val (.int v0), .val (.int v1), .val (.int v2), .val (.int v3), .val (.int v4), .val (.double (FP.i2d bd)), .second, .val (.int (Int32.ofNat f)), .val (.int (Int32.ofNat t)), .val (.ref bm), .val (.int (own_want (own_le bd v0) (own_le bd v1) (own_le bd v2) (own_le bd v3) (own_le bd v4) f t)), .val (.int (-1 : Int32))] [(.int (4 : Int32))])) _
        refine XS.istore X89.here hx rfl (hb hby at_206) rfl (l' := #[.val (.int p1), .val (.int p2), .val (.int p3), .val (.int p4), .val (.int p5), .val (.int (Int32.ofNat 2)), .val (.int vi), .val (.int v0), .val (.int v1), .val (.int v2), .val (.int v3), .val (.int v4), .val (.double (FP.i2d bd)), .second, .val (.int (Int32.ofNat f)), .val (.int (Int32.ofNat t)), .val (.ref bm), .val (.int (own_want (own_le bd v0) (own_le bd v1) (own_le bd v2) (own_le bd v3) (own_le bd v4) f t)), .val (.int (4 : Int32))]) rfl ?_
        show Steps p.tables e below (T89.setTop (mkF m 208 #[.val (.int p1), .val (.int p2), .val (.int p3), .val (.int p4), .val (.int p5), .val (.int (Int32.ofNat 2)), .val (.int vi), .val (.int v0), .val (.int v1), .val (.int v2), .val (.int v3), .val (.int v4), .val (.double (FP.i2d bd)), .second, .val (.int (Int32.ofNat f)), .val (.int (Int32.ofNat t)), .val (.ref bm), .val (.int (own_want (own_le bd v0) (own_le bd v1) (own_le bd v2) (own_le bd v3) (own_le bd v4) f t)), .val (.int (4 : Int32))] [])) _
        rw [if_neg hd202] at h_e4
        subst h_e4
        exact kZ
    show own_R p.tables e below _ (T89.setTop (mkF m 208 #[.val (.int p1), .val (.int p2), .val (.int p3), .val (.int p4), .val (.int p5), .val (.int (Int32.ofNat 2)), .val (.int vi), .val (.int v0), .val (.int v1), .val (.int v2), .val (.int v3), .val (.int v4), .val (.double (FP.i2d bd)), .second, .val (.int (Int32.ofNat f)), .val (.int (Int32.ofNat t)), .val (.ref bm), .val (.int (own_want (own_le bd v0) (own_le bd v1) (own_le bd v2) (own_le bd v3) (own_le bd v4) f t)), .val (.int e4)] []))
    refine own_by (fun _ kZ => XS.iconst X89.here hx rfl (hb hby at_208) kZ) ?_
    show own_R p.tables e below _ (T89.setTop (mkF m 209 #[.val (.int p1), .val (.int p2), .val (.int p3), .val (.int p4), .val (.int p5), .val (.int (Int32.ofNat 2)), .val (.int vi), .val (.int v0), .val (.int v1), .val (.int v2), .val (.int v3), .val (.int v4), .val (.double (FP.i2d bd)), .second, .val (.int (Int32.ofNat f)), .val (.int (Int32.ofNat t)), .val (.ref bm), .val (.int (own_want (own_le bd v0) (own_le bd v1) (own_le bd v2) (own_le bd v3) (own_le bd v4) f t)), .val (.int e4)] [(.int (3 : Int32))]))
    refine own_by (fun _ kZ => XS.iload X89.here hx rfl (hb hby at_209) rfl kZ) ?_
    show own_R p.tables e below _ (T89.setTop (mkF m 211 #[.val (.int p1), .val (.int p2), .val (.int p3), .val (.int p4), .val (.int p5), .val (.int (Int32.ofNat 2)), .val (.int vi), .val (.int v0), .val (.int v1), .val (.int v2), .val (.int v3), .val (.int v4), .val (.double (FP.i2d bd)), .second, .val (.int (Int32.ofNat f)), .val (.int (Int32.ofNat t)), .val (.ref bm), .val (.int (own_want (own_le bd v0) (own_le bd v1) (own_le bd v2) (own_le bd v3) (own_le bd v4) f t)), .val (.int e4)] [(.int v3), (.int (3 : Int32))]))
    refine own_by (fun _ kZ => XS.iload X89.here hx rfl (hb hby at_211) rfl kZ) ?_
    show own_R p.tables e below _ (T89.setTop (mkF m 213 #[.val (.int p1), .val (.int p2), .val (.int p3), .val (.int p4), .val (.int p5), .val (.int (Int32.ofNat 2)), .val (.int vi), .val (.int v0), .val (.int v1), .val (.int v2), .val (.int v3), .val (.int v4), .val (.double (FP.i2d bd)), .second, .val (.int (Int32.ofNat f)), .val (.int (Int32.ofNat t)), .val (.ref bm), .val (.int (own_want (own_le bd v0) (own_le bd v1) (own_le bd v2) (own_le bd v3) (own_le bd v4) f t)), .val (.int e4)] [(.int (Int32.ofNat f)), (.int v3), (.int (3 : Int32))]))
    refine own_by (fun _ kZ => XS.iload X89.here hx rfl (hb hby at_213) rfl kZ) ?_
    show own_R p.tables e below _ (T89.setTop (mkF m 215 #[.val (.int p1), .val (.int p2), .val (.int p3), .val (.int p4), .val (.int p5), .val (.int (Int32.ofNat 2)), .val (.int vi), .val (.int v0), .val (.int v1), .val (.int v2), .val (.int v3), .val (.int v4), .val (.double (FP.i2d bd)), .second, .val (.int (Int32.ofNat f)), .val (.int (Int32.ofNat t)), .val (.ref bm), .val (.int (own_want (own_le bd v0) (own_le bd v1) (own_le bd v2) (own_le bd v3) (own_le bd v4) f t)), .val (.int e4)] [(.int (Int32.ofNat t)), (.int (Int32.ofNat f)), (.int v3), (.int (3 : Int32))]))
    refine own_by (fun _ kZ => own_dload X89.here hx rfl (hb hby at_215) rfl kZ) ?_
    show own_R p.tables e below _ (T89.setTop (mkF m 217 #[.val (.int p1), .val (.int p2), .val (.int p3), .val (.int p4), .val (.int p5), .val (.int (Int32.ofNat 2)), .val (.int vi), .val (.int v0), .val (.int v1), .val (.int v2), .val (.int v3), .val (.int v4), .val (.double (FP.i2d bd)), .second, .val (.int (Int32.ofNat f)), .val (.int (Int32.ofNat t)), .val (.ref bm), .val (.int (own_want (own_le bd v0) (own_le bd v1) (own_le bd v2) (own_le bd v3) (own_le bd v4) f t)), .val (.int e4)] [(.double (FP.i2d bd)), (.int (Int32.ofNat t)), (.int (Int32.ofNat f)), (.int v3), (.int (3 : Int32))]))
    obtain ⟨_, _, ⟨T90, L90, k90, n90⟩, -, X90, ⟨Lc90, hQ90, l90, y90, z90⟩, st90⟩ := Jvm.LawKit.callS X89 hx (y := (⟨"com/example/frugal_scheduler/frugalscheduler/planners/MinTreeFirstAtMostPinLaw", "hit", "(IIIID)Z"⟩ : MethodName)) hown (mvT hZ (hw _ (List.mem_of_getElem? (i := 31) rfl))) (mvT hZ (hw _ (List.mem_of_getElem? (i := 32) rfl))) (mvT hZ (hw _ (List.mem_of_getElem? (i := 33) rfl))) (mvT hZ (hw _ (List.mem_of_getElem? (i := 34) rfl))) (by decide) (backOf (W := 0) (rm6 l Z a0 hw [] (3 : Int32) v3 (Int32.ofNat f) (Int32.ofNat t) (FP.i2d bd) bd T85.heap n0 Z87 rfl) hZ (hw _ (List.mem_of_getElem? (i := 34) rfl)) (hw _ (List.mem_of_getElem? (i := 33) rfl)) (by decide) (by decide)) (g := (mkF m 217 #[.val (.int p1), .val (.int p2), .val (.int p3), .val (.int p4), .val (.int p5), .val (.int (Int32.ofNat 2)), .val (.int vi), .val (.int v0), .val (.int v1), .val (.int v2), .val (.int v3), .val (.int v4), .val (.double (FP.i2d bd)), .second, .val (.int (Int32.ofNat f)), .val (.int (Int32.ofNat t)), .val (.ref bm), .val (.int (own_want (own_le bd v0) (own_le bd v1) (own_le bd v2) (own_le bd v3) (own_le bd v4) f t)), .val (.int e4)] [(.double (FP.i2d bd)), (.int (Int32.ofNat t)), (.int (Int32.ofNat f)), (.int v3), (.int (3 : Int32))])) rfl (by rw [hml]; rfl) (argsL := [(.int (3 : Int32)), (.int v3), (.int (Int32.ofNat f)), (.int (Int32.ofNat t)), (.double (FP.i2d bd))]) (rest := []) (lenOf own_pd4 rfl) rfl (by show 2 * 0 + _ ≤ _; exact Nat.le_of_eq rfl) (hb hby at_217) (fun _ _ => ⟨rfl, e89, (by decide : 2 + 0 ≤ _), (by decide : 19 + 0 ≤ _)⟩)
    dsimp only [Pt.U, Pt.locs, Pt.cells, Pt.slots] at X90 l90 y90 z90 st90 hQ90
    subst l90 y90 z90
    obtain ⟨rfl, Nq90, e90⟩ := hQ90
    have N90 := Fr.app N89 Nq90
    refine own_by st90 ?_
    show own_R p.tables e below _ (T90.setTop (mkF m 220 #[.val (.int p1), .val (.int p2), .val (.int p3), .val (.int p4), .val (.int p5), .val (.int (Int32.ofNat 2)), .val (.int vi), .val (.int v0), .val (.int v1), .val (.int v2), .val (.int v3), .val (.int v4), .val (.double (FP.i2d bd)), .second, .val (.int (Int32.ofNat f)), .val (.int (Int32.ofNat t)), .val (.ref bm), .val (.int (own_want (own_le bd v0) (own_le bd v1) (own_le bd v2) (own_le bd v3) (own_le bd v4) f t)), .val (.int e4)] [(.int (own_hit (3 : Int32) v3 (Int32.ofNat f) (Int32.ofNat t) bd))]))
    obtain ⟨e3, h_e3⟩ : ∃ z : Int32, z = (if (own_hit (3 : Int32) v3 (Int32.ofNat f) (Int32.ofNat t) bd) = (0 : Int32) then e4 else (3 : Int32)) := ⟨_, rfl⟩
    refine own_by (S' := T90.setTop (mkF m 226 #[.val (.int p1), .val (.int p2), .val (.int p3), .val (.int p4), .val (.int p5), .val (.int (Int32.ofNat 2)), .val (.int vi), .val (.int v0), .val (.int v1), .val (.int v2), .val (.int v3), .val (.int v4), .val (.double (FP.i2d bd)), .second, .val (.int (Int32.ofNat f)), .val (.int (Int32.ofNat t)), .val (.ref bm), .val (.int (own_want (own_le bd v0) (own_le bd v1) (own_le bd v2) (own_le bd v3) (own_le bd v4) f t)), .val (.int e3)] [])) (fun _ kZ => ?_) ?_
    · skip
      show Steps p.tables e below (T90.setTop (mkF m 220 #[.val (.int p1), .val (.int p2), .val (.int p3), .val (.int p4), .val (.int p5), .val (.int (Int32.ofNat 2)), .val (.int vi), .val (.int v0), .val (.int v1), .val (.int v2), .val (.int v3), .val (.int v4), .val (.double (FP.i2d bd)), .second, .val (.int (Int32.ofNat f)), .val (.int (Int32.ofNat t)), .val (.ref bm), .val (.int (own_want (own_le bd v0) (own_le bd v1) (own_le bd v2) (own_le bd v3) (own_le bd v4) f t)), .val (.int e4)] [(.int (own_hit (3 : Int32) v3 (Int32.ofNat f) (Int32.ofNat t) bd))])) _
      by_cases hd220 : (own_hit (3 : Int32) v3 (Int32.ofNat f) (Int32.ofNat t) bd) = (0 : Int32)
      · skip
        refine XS.ifYes X90.here hx rfl (pc0 := 220) (pc' := 226) rfl (hb hby at_220) rfl ((if0 _ _).trans (teq hd220).1) (by decide) (by decide) ?_
        show Steps p.tables e below (T90.setTop (mkF m 226 #[.val (.int p1), .val (.int p2), .val (.int p3), .val (.int p4), .val (.int p5), .val (.int (Int32.ofNat 2)), .val (.int vi), .val (.int v0), .val (.int v1), .val (.int v2), .val (.int v3), .val (.int v4), .val (.double (FP.i2d bd)), .second, .val (.int (Int32.ofNat f)), .val (.int (Int32.ofNat t)), .val (.ref bm), .val (.int (own_want (own_le bd v0) (own_le bd v1) (own_le bd v2) (own_le bd v3) (own_le bd v4) f t)), .val (.int e4)] [])) _
        rw [if_pos hd220] at h_e3
        subst h_e3
        exact kZ
      · skip
        refine XS.ifNo X90.here hx rfl (hb hby at_220) rfl ((if0 _ _).trans (feq hd220).1) ?_
        show Steps p.tables e below (T90.setTop (mkF m 223 #[.val (.int p1), .val (.int p2), .val (.int p3), .val (.int p4), .val (.int p5), .val (.int (Int32.ofNat 2)), .val (.int vi), .val (.int v0), .val (.int v1), .val (.int v2), .val (.int v3), .val (.int v4), .val (.double (FP.i2d bd)), .second, .val (.int (Int32.ofNat f)), .val (.int (Int32.ofNat t)), .val (.ref bm), .val (.int (own_want (own_le bd v0) (own_le bd v1) (own_le bd v2) (own_le bd v3) (own_le bd v4) f t)), .val (.int e4)] [])) _
        refine XS.iconst X90.here hx rfl (hb hby at_223) ?_
        show Steps p.tables e below (T90.setTop (mkF m 224 #[.val (.int p1), .val (.int p2), .val (.int p3), .val (.int p4), .val (.int p5), .val (.int (Int32.ofNat 2)), .val (.int vi), .val (.int v0), .val (.int v1), .val (.int v2), .val (.int v3), .val (.int v4), .val (.double (FP.i2d bd)), .second, .val (.int (Int32.ofNat f)), .val (.int (Int32.ofNat t)), .val (.ref bm), .val (.int (own_want (own_le bd v0) (own_le bd v1) (own_le bd v2) (own_le bd v3) (own_le bd v4) f t)), .val (.int e4)] [(.int (3 : Int32))])) _
        refine XS.istore X90.here hx rfl (hb hby at_224) rfl (l' := #[.val (.int p1), .val (.int p2), .val (.int p3), .val (.int p4), .val (.int p5), .val (.int (Int32.ofNat 2)), .val (.int vi), .val (.int v0), .val (.int v1), .val (.int v2), .val (.int v3), .val (.int v4), .val (.double (FP.i2d bd)), .second, .val (.int (Int32.ofNat f)), .val (.int (Int32.ofNat t)), .val (.ref bm), .val (.int (own_want (own_le bd v0) (own_le bd v1) (own_le bd v2) (own_le bd v3) (own_le bd v4) f t)), .val (.int (3 : Int32))]) rfl ?_
        show Steps p.tables e below (T90.setTop (mkF m 226 #[.val (.int p1), .val (.int p2), .val (.int p3), .val (.int p4), .val (.int p5), .val (.int (Int32.ofNat 2)), .val (.int vi), .val (.int v0), .val (.int v1), .val (.int v2), .val (.int v3), .val (.int v4), .val (.double (FP.i2d bd)), .second, .val (.int (Int32.ofNat f)), .val (.int (Int32.ofNat t)), .val (.ref bm), .val (.int (own_want (own_le bd v0) (own_le bd v1) (own_le bd v2) (own_le bd v3) (own_le bd v4) f t)), .val (.int (3 : Int32))] [])) _
        rw [if_neg hd220] at h_e3
        subst h_e3
        exact kZ
    show own_R p.tables e below _ (T90.setTop (mkF m 226 #[.val (.int p1), .val (.int p2), .val (.int p3), .val (.int p4), .val (.int p5), .val (.int (Int32.ofNat 2)), .val (.int vi), .val (.int v0), .val (.int v1), .val (.int v2), .val (.int v3), .val (.int v4), .val (.double (FP.i2d bd)), .second, .val (.int (Int32.ofNat f)), .val (.int (Int32.ofNat t)), .val (.ref bm), .val (.int (own_want (own_le bd v0) (own_le bd v1) (own_le bd v2) (own_le bd v3) (own_le bd v4) f t)), .val (.int e3)] []))
    refine own_by (fun _ kZ => XS.iconst X90.here hx rfl (hb hby at_226) kZ) ?_
    show own_R p.tables e below _ (T90.setTop (mkF m 227 #[.val (.int p1), .val (.int p2), .val (.int p3), .val (.int p4), .val (.int p5), .val (.int (Int32.ofNat 2)), .val (.int vi), .val (.int v0), .val (.int v1), .val (.int v2), .val (.int v3), .val (.int v4), .val (.double (FP.i2d bd)), .second, .val (.int (Int32.ofNat f)), .val (.int (Int32.ofNat t)), .val (.ref bm), .val (.int (own_want (own_le bd v0) (own_le bd v1) (own_le bd v2) (own_le bd v3) (own_le bd v4) f t)), .val (.int e3)] [(.int (2 : Int32))]))
    refine own_by (fun _ kZ => XS.iload X90.here hx rfl (hb hby at_227) rfl kZ) ?_
    show own_R p.tables e below _ (T90.setTop (mkF m 229 #[.val (.int p1), .val (.int p2), .val (.int p3), .val (.int p4), .val (.int p5), .val (.int (Int32.ofNat 2)), .val (.int vi), .val (.int v0), .val (.int v1), .val (.int v2), .val (.int v3), .val (.int v4), .val (.double (FP.i2d bd)), .second, .val (.int (Int32.ofNat f)), .val (.int (Int32.ofNat t)), .val (.ref bm), .val (.int (own_want (own_le bd v0) (own_le bd v1) (own_le bd v2) (own_le bd v3) (own_le bd v4) f t)), .val (.int e3)] [(.int v2), (.int (2 : Int32))]))
    refine own_by (fun _ kZ => XS.iload X90.here hx rfl (hb hby at_229) rfl kZ) ?_
    show own_R p.tables e below _ (T90.setTop (mkF m 231 #[.val (.int p1), .val (.int p2), .val (.int p3), .val (.int p4), .val (.int p5), .val (.int (Int32.ofNat 2)), .val (.int vi), .val (.int v0), .val (.int v1), .val (.int v2), .val (.int v3), .val (.int v4), .val (.double (FP.i2d bd)), .second, .val (.int (Int32.ofNat f)), .val (.int (Int32.ofNat t)), .val (.ref bm), .val (.int (own_want (own_le bd v0) (own_le bd v1) (own_le bd v2) (own_le bd v3) (own_le bd v4) f t)), .val (.int e3)] [(.int (Int32.ofNat f)), (.int v2), (.int (2 : Int32))]))
    refine own_by (fun _ kZ => XS.iload X90.here hx rfl (hb hby at_231) rfl kZ) ?_
    show own_R p.tables e below _ (T90.setTop (mkF m 233 #[.val (.int p1), .val (.int p2), .val (.int p3), .val (.int p4), .val (.int p5), .val (.int (Int32.ofNat 2)), .val (.int vi), .val (.int v0), .val (.int v1), .val (.int v2), .val (.int v3), .val (.int v4), .val (.double (FP.i2d bd)), .second, .val (.int (Int32.ofNat f)), .val (.int (Int32.ofNat t)), .val (.ref bm), .val (.int (own_want (own_le bd v0) (own_le bd v1) (own_le bd v2) (own_le bd v3) (own_le bd v4) f t)), .val (.int e3)] [(.int (Int32.ofNat t)), (.int (Int32.ofNat f)), (.int v2), (.int (2 : Int32))]))
    refine own_by (fun _ kZ => own_dload X90.here hx rfl (hb hby at_233) rfl kZ) ?_
    show own_R p.tables e below _ (T90.setTop (mkF m 235 #[.val (.int p1), .val (.int p2), .val (.int p3), .val (.int p4), .val (.int p5), .val (.int (Int32.ofNat 2)), .val (.int vi), .val (.int v0), .val (.int v1), .val (.int v2), .val (.int v3), .val (.int v4), .val (.double (FP.i2d bd)), .second, .val (.int (Int32.ofNat f)), .val (.int (Int32.ofNat t)), .val (.ref bm), .val (.int (own_want (own_le bd v0) (own_le bd v1) (own_le bd v2) (own_le bd v3) (own_le bd v4) f t)), .val (.int e3)] [(.double (FP.i2d bd)), (.int (Int32.ofNat t)), (.int (Int32.ofNat f)), (.int v2), (.int (2 : Int32))]))
    obtain ⟨_, _, ⟨T91, L91, k91, n91⟩, -, X91, ⟨Lc91, hQ91, l91, y91, z91⟩, st91⟩ := Jvm.LawKit.callS X90 hx (y := (⟨"com/example/frugal_scheduler/frugalscheduler/planners/MinTreeFirstAtMostPinLaw", "hit", "(IIIID)Z"⟩ : MethodName)) hown (mvT hZ (hw _ (List.mem_of_getElem? (i := 31) rfl))) (mvT hZ (hw _ (List.mem_of_getElem? (i := 32) rfl))) (mvT hZ (hw _ (List.mem_of_getElem? (i := 33) rfl))) (mvT hZ (hw _ (List.mem_of_getElem? (i := 34) rfl))) (by decide) (backOf (W := 0) (rm6 l Z a0 hw [] (2 : Int32) v2 (Int32.ofNat f) (Int32.ofNat t) (FP.i2d bd) bd T85.heap n0 Z87 rfl) hZ (hw _ (List.mem_of_getElem? (i := 34) rfl)) (hw _ (List.mem_of_getElem? (i := 33) rfl)) (by decide) (by decide)) (g := (mkF m 235 #[.val (.int p1), .val (.int p2), .val (.int p3), .val (.int p4), .val (.int p5), .val (.int (Int32.ofNat 2)), .val (.int vi), .val (.int v0), .val (.int v1), .val (.int v2), .val (.int v3), .val (.int v4), .val (.double (FP.i2d bd)), .second, .val (.int (Int32.ofNat f)), .val (.int (Int32.ofNat t)), .val (.ref bm), .val (.int (own_want (own_le bd v0) (own_le bd v1) (own_le bd v2) (own_le bd v3) (own_le bd v4) f t)), .val (.int e3)] [(.double (FP.i2d bd)), (.int (Int32.ofNat t)), (.int (Int32.ofNat f)), (.int v2), (.int (2 : Int32))])) rfl (by rw [hml]; rfl) (argsL := [(.int (2 : Int32)), (.int v2), (.int (Int32.ofNat f)), (.int (Int32.ofNat t)), (.double (FP.i2d bd))]) (rest := []) (lenOf own_pd4 rfl) rfl (by show 2 * 0 + _ ≤ _; exact Nat.le_of_eq rfl) (hb hby at_235) (fun _ _ => ⟨rfl, e90, (by decide : 2 + 0 ≤ _), (by decide : 19 + 0 ≤ _)⟩)
    dsimp only [Pt.U, Pt.locs, Pt.cells, Pt.slots] at X91 l91 y91 z91 st91 hQ91
    subst l91 y91 z91
    obtain ⟨rfl, Nq91, e91⟩ := hQ91
    have N91 := Fr.app N90 Nq91
    refine own_by st91 ?_
    show own_R p.tables e below _ (T91.setTop (mkF m 238 #[.val (.int p1), .val (.int p2), .val (.int p3), .val (.int p4), .val (.int p5), .val (.int (Int32.ofNat 2)), .val (.int vi), .val (.int v0), .val (.int v1), .val (.int v2), .val (.int v3), .val (.int v4), .val (.double (FP.i2d bd)), .second, .val (.int (Int32.ofNat f)), .val (.int (Int32.ofNat t)), .val (.ref bm), .val (.int (own_want (own_le bd v0) (own_le bd v1) (own_le bd v2) (own_le bd v3) (own_le bd v4) f t)), .val (.int e3)] [(.int (own_hit (2 : Int32) v2 (Int32.ofNat f) (Int32.ofNat t) bd))]))
    obtain ⟨e2, h_e2⟩ : ∃ z : Int32, z = (if (own_hit (2 : Int32) v2 (Int32.ofNat f) (Int32.ofNat t) bd) = (0 : Int32) then e3 else (2 : Int32)) := ⟨_, rfl⟩
    refine own_by (S' := T91.setTop (mkF m 244 #[.val (.int p1), .val (.int p2), .val (.int p3), .val (.int p4), .val (.int p5), .val (.int (Int32.ofNat 2)), .val (.int vi), .val (.int v0), .val (.int v1), .val (.int v2), .val (.int v3), .val (.int v4), .val (.double (FP.i2d bd)), .second, .val (.int (Int32.ofNat f)), .val (.int (Int32.ofNat t)), .val (.ref bm), .val (.int (own_want (own_le bd v0) (own_le bd v1) (own_le bd v2) (own_le bd v3) (own_le bd v4) f t)), .val (.int e2)] [])) (fun _ kZ => ?_) ?_
    · skip
      show Steps p.tables e below (T91.setTop (mkF m 238 #[.val (.int p1), .val (.int p2), .val (.int p3), .val (.int p4), .val (.int p5), .val (.int (Int32.ofNat 2)), .val (.int vi), .val (.int v0), .val (.int v1), .val (.int v2), .val (.int v3), .val (.int v4), .val (.double (FP.i2d bd)), .second, .val (.int (Int32.ofNat f)), .val (.int (Int32.ofNat t)), .val (.ref bm), .val (.int (own_want (own_le bd v0) (own_le bd v1) (own_le bd v2) (own_le bd v3) (own_le bd v4) f t)), .val (.int e3)] [(.int (own_hit (2 : Int32) v2 (Int32.ofNat f) (Int32.ofNat t) bd))])) _
      by_cases hd238 : (own_hit (2 : Int32) v2 (Int32.ofNat f) (Int32.ofNat t) bd) = (0 : Int32)
      · skip
        refine XS.ifYes X91.here hx rfl (pc0 := 238) (pc' := 244) rfl (hb hby at_238) rfl ((if0 _ _).trans (teq hd238).1) (by decide) (by decide) ?_
        show Steps p.tables e below (T91.setTop (mkF m 244 #[.val (.int p1), .val (.int p2), .val (.int p3), .val (.int p4), .val (.int p5), .val (.int (Int32.ofNat 2)), .val (.int vi), .val (.int v0), .val (.int v1), .val (.int v2), .val (.int v3), .val (.int v4), .val (.double (FP.i2d bd)), .second, .val (.int (Int32.ofNat f)), .val (.int (Int32.ofNat t)), .val (.ref bm), .val (.int (own_want (own_le bd v0) (own_le bd v1) (own_le bd v2) (own_le bd v3) (own_le bd v4) f t)), .val (.int e3)] [])) _
        rw [if_pos hd238] at h_e2
        subst h_e2
        exact kZ
      · skip
        refine XS.ifNo X91.here hx rfl (hb hby at_238) rfl ((if0 _ _).trans (feq hd238).1) ?_
        show Steps p.tables e below (T91.setTop (mkF m 241 #[.val (.int p1), .val (.int p2), .val (.int p3), .val (.int p4), .val (.int p5), .val (.int (Int32.ofNat 2)), .val (.int vi), .val (.int v0), .val (.int v1), .val (.int v2), .val (.int v3), .val (.int v4), .val (.double (FP.i2d bd)), .second, .val (.int (Int32.ofNat f)), .val (.int (Int32.ofNat t)), .val (.ref bm), .val (.int (own_want (own_le bd v0) (own_le bd v1) (own_le bd v2) (own_le bd v3) (own_le bd v4) f t)), .val (.int e3)] [])) _
        refine XS.iconst X91.here hx rfl (hb hby at_241) ?_
        show Steps p.tables e below (T91.setTop (mkF m 242 #[.val (.int p1), .val (.int p2), .val (.int p3), .val (.int p4), .val (.int p5), .val (.int (Int32.ofNat 2)), .val (.int vi), .val (.int v0), .val (.int v1), .val (.int v2), .val (.int v3), .val (.int v4), .val (.double (FP.i2d bd)), .second, .val (.int (Int32.ofNat f)), .val (.int (Int32.ofNat t)), .val (.ref bm), .val (.int (own_want (own_le bd v0) (own_le bd v1) (own_le bd v2) (own_le bd v3) (own_le bd v4) f t)), .val (.int e3)] [(.int (2 : Int32))])) _
        refine XS.istore X91.here hx rfl (hb hby at_242) rfl (l' := #[.val (.int p1), .val (.int p2), .val (.int p3), .val (.int p4), .val (.int p5), .val (.int (Int32.ofNat 2)), .val (.int vi), .val (.int v0), .val (.int v1), .val (.int v2), .val (.int v3), .val (.int v4), .val (.double (FP.i2d bd)), .second, .val (.int (Int32.ofNat f)), .val (.int (Int32.ofNat t)), .val (.ref bm), .val (.int (own_want (own_le bd v0) (own_le bd v1) (own_le bd v2) (own_le bd v3) (own_le bd v4) f t)), .val (.int (2 : Int32))]) rfl ?_
        show Steps p.tables e below (T91.setTop (mkF m 244 #[.val (.int p1), .val (.int p2), .val (.int p3), .val (.int p4), .val (.int p5), .val (.int (Int32.ofNat 2)), .val (.int vi), .val (.int v0), .val (.int v1), .val (.int v2), .val (.int v3), .val (.int v4), .val (.double (FP.i2d bd)), .second, .val (.int (Int32.ofNat f)), .val (.int (Int32.ofNat t)), .val (.ref bm), .val (.int (own_want (own_le bd v0) (own_le bd v1) (own_le bd v2) (own_le bd v3) (own_le bd v4) f t)), .val (.int (2 : Int32))] [])) _
        rw [if_neg hd238] at h_e2
        subst h_e2
        exact kZ
    show own_R p.tables e below _ (T91.setTop (mkF m 244 #[.val (.int p1), .val (.int p2), .val (.int p3), .val (.int p4), .val (.int p5), .val (.int (Int32.ofNat 2)), .val (.int vi), .val (.int v0), .val (.int v1), .val (.int v2), .val (.int v3), .val (.int v4), .val (.double (FP.i2d bd)), .second, .val (.int (Int32.ofNat f)), .val (.int (Int32.ofNat t)), .val (.ref bm), .val (.int (own_want (own_le bd v0) (own_le bd v1) (own_le bd v2) (own_le bd v3) (own_le bd v4) f t)), .val (.int e2)] []))
    refine own_by (fun _ kZ => XS.iconst X91.here hx rfl (hb hby at_244) kZ) ?_
    show own_R p.tables e below _ (T91.setTop (mkF m 245 #[.val (.int p1), .val (.int p2), .val (.int p3), .val (.int p4), .val (.int p5), .val (.int (Int32.ofNat 2)), .val (.int vi), .val (.int v0), .val (.int v1), .val (.int v2), .val (.int v3), .val (.int v4), .val (.double (FP.i2d bd)), .second, .val (.int (Int32.ofNat f)), .val (.int (Int32.ofNat t)), .val (.ref bm), .val (.int (own_want (own_le bd v0) (own_le bd v1) (own_le bd v2) (own_le bd v3) (own_le bd v4) f t)), .val (.int e2)] [(.int (1 : Int32))]))
    refine own_by (fun _ kZ => XS.iload X91.here hx rfl (hb hby at_245) rfl kZ) ?_
    show own_R p.tables e below _ (T91.setTop (mkF m 247 #[.val (.int p1), .val (.int p2), .val (.int p3), .val (.int p4), .val (.int p5), .val (.int (Int32.ofNat 2)), .val (.int vi), .val (.int v0), .val (.int v1), .val (.int v2), .val (.int v3), .val (.int v4), .val (.double (FP.i2d bd)), .second, .val (.int (Int32.ofNat f)), .val (.int (Int32.ofNat t)), .val (.ref bm), .val (.int (own_want (own_le bd v0) (own_le bd v1) (own_le bd v2) (own_le bd v3) (own_le bd v4) f t)), .val (.int e2)] [(.int v1), (.int (1 : Int32))]))
    refine own_by (fun _ kZ => XS.iload X91.here hx rfl (hb hby at_247) rfl kZ) ?_
    show own_R p.tables e below _ (T91.setTop (mkF m 249 #[.val (.int p1), .val (.int p2), .val (.int p3), .val (.int p4), .val (.int p5), .val (.int (Int32.ofNat 2)), .val (.int vi), .val (.int v0), .val (.int v1), .val (.int v2), .val (.int v3), .val (.int v4), .val (.double (FP.i2d bd)), .second, .val (.int (Int32.ofNat f)), .val (.int (Int32.ofNat t)), .val (.ref bm), .val (.int (own_want (own_le bd v0) (own_le bd v1) (own_le bd v2) (own_le bd v3) (own_le bd v4) f t)), .val (.int e2)] [(.int (Int32.ofNat f)), (.int v1), (.int (1 : Int32))]))
    refine own_by (fun _ kZ => XS.iload X91.here hx rfl (hb hby at_249) rfl kZ) ?_
    show own_R p.tables e below _ (T91.setTop (mkF m 251 #[.val (.int p1), .val (.int p2), .val (.int p3), .val (.int p4), .val (.int p5), .val (.int (Int32.ofNat 2)), .val (.int vi), .val (.int v0), .val (.int v1), .val (.int v2), .val (.int v3), .val (.int v4), .val (.double (FP.i2d bd)), .second, .val (.int (Int32.ofNat f)), .val (.int (Int32.ofNat t)), .val (.ref bm), .val (.int (own_want (own_le bd v0) (own_le bd v1) (own_le bd v2) (own_le bd v3) (own_le bd v4) f t)), .val (.int e2)] [(.int (Int32.ofNat t)), (.int (Int32.ofNat f)), (.int v1), (.int (1 : Int32))]))
    refine own_by (fun _ kZ => own_dload X91.here hx rfl (hb hby at_251) rfl kZ) ?_
    show own_R p.tables e below _ (T91.setTop (mkF m 253 #[.val (.int p1), .val (.int p2), .val (.int p3), .val (.int p4), .val (.int p5), .val (.int (Int32.ofNat 2)), .val (.int vi), .val (.int v0), .val (.int v1), .val (.int v2), .val (.int v3), .val (.int v4), .val (.double (FP.i2d bd)), .second, .val (.int (Int32.ofNat f)), .val (.int (Int32.ofNat t)), .val (.ref bm), .val (.int (own_want (own_le bd v0) (own_le bd v1) (own_le bd v2) (own_le bd v3) (own_le bd v4) f t)), .val (.int e2)] [(.double (FP.i2d bd)), (.int (Int32.ofNat t)), (.int (Int32.ofNat f)), (.int v1), (.int (1 : Int32))]))
    obtain ⟨_, _, ⟨T92, L92, k92, n92⟩, -, X92, ⟨Lc92, hQ92, l92, y92, z92⟩, st92⟩ := Jvm.LawKit.callS X91 hx (y := (⟨"com/example/frugal_scheduler/frugalscheduler/planners/MinTreeFirstAtMostPinLaw", "hit", "(IIIID)Z"⟩ : MethodName)) hown (mvT hZ (hw _ (List.mem_of_getElem? (i := 31) rfl))) (mvT hZ (hw _ (List.mem_of_getElem? (i := 32) rfl))) (mvT hZ (hw _ (List.mem_of_getElem? (i := 33) rfl))) (mvT hZ (hw _ (List.mem_of_getElem? (i := 34) rfl))) (by decide) (backOf (W := 0) (rm6 l Z a0 hw [] (1 : Int32) v1 (Int32.ofNat f) (Int32.ofNat t) (FP.i2d bd) bd T85.heap n0 Z87 rfl) hZ (hw _ (List.mem_of_getElem? (i := 34) rfl)) (hw _ (List.mem_of_getElem? (i := 33) rfl)) (by decide) (by decide)) (g := (mkF m 253 #[.val (.int p1), .val (.int p2), .val (.int p3), .val (.int p4), .val (.int p5), .val (.int (Int32.ofNat 2)), .val (.int vi), .val (.int v0), .val (.int v1), .val (.int v2), .val (.int v3), .val (.int v4), .val (.double (FP.i2d bd)), .second, .val (.int (Int32.ofNat f)), .val (.int (Int32.ofNat t)), .val (.ref bm), .val (.int (own_want (own_le bd v0) (own_le bd v1) (own_le bd v2) (own_le bd v3) (own_le bd v4) f t)), .val (.int e2)] [(.double (FP.i2d bd)), (.int (Int32.ofNat t)), (.int (Int32.ofNat f)), (.int v1), (.int (1 : Int32))])) rfl (by rw [hml]; rfl) (argsL := [(.int (1 : Int32)), (.int v1), (.int (Int32.ofNat f)), (.int (Int32.ofNat t)), (.double (FP.i2d bd))]) (rest := []) (lenOf own_pd4 rfl) rfl (by show 2 * 0 + _ ≤ _; exact Nat.le_of_eq rfl) (hb hby at_253) (fun _ _ => ⟨rfl, e91, (by decide : 2 + 0 ≤ _), (by decide : 19 + 0 ≤ _)⟩)
    dsimp only [Pt.U, Pt.locs, Pt.cells, Pt.slots] at X92 l92 y92 z92 st92 hQ92
    subst l92 y92 z92
    obtain ⟨rfl, Nq92, e92⟩ := hQ92
    have N92 := Fr.app N91 Nq92
    refine own_by st92 ?_
    show own_R p.tables e below _ (T92.setTop (mkF m 256 #[.val (.int p1), .val (.int p2), .val (.int p3), .val (.int p4), .val (.int p5), .val (.int (Int32.ofNat 2)), .val (.int vi), .val (.int v0), .val (.int v1), .val (.int v2), .val (.int v3), .val (.int v4), .val (.double (FP.i2d bd)), .second, .val (.int (Int32.ofNat f)), .val (.int (Int32.ofNat t)), .val (.ref bm), .val (.int (own_want (own_le bd v0) (own_le bd v1) (own_le bd v2) (own_le bd v3) (own_le bd v4) f t)), .val (.int e2)] [(.int (own_hit (1 : Int32) v1 (Int32.ofNat f) (Int32.ofNat t) bd))]))
    obtain ⟨e1, h_e1⟩ : ∃ z : Int32, z = (if (own_hit (1 : Int32) v1 (Int32.ofNat f) (Int32.ofNat t) bd) = (0 : Int32) then e2 else (1 : Int32)) := ⟨_, rfl⟩
    refine own_by (S' := T92.setTop (mkF m 262 #[.val (.int p1), .val (.int p2), .val (.int p3), .val (.int p4), .val (.int p5), .val (.int (Int32.ofNat 2)), .val (.int vi), .val (.int v0), .val (.int v1), .val (.int v2), .val (.int v3), .val (.int v4), .val (.double (FP.i2d bd)), .second, .val (.int (Int32.ofNat f)), .val (.int (Int32.ofNat t)), .val (.ref bm), .val (.int (own_want (own_le bd v0) (own_le bd v1) (own_le bd v2) (own_le bd v3) (own_le bd v4) f t)), .val (.int e1)] [])) (fun _ kZ => ?_) ?_
    · skip
      show Steps p.tables e below (T92.setTop (mkF m 256 #[.val (.int p1), .val (.int p2), .val (.int p3), .val (.int p4), .val (.int p5), .val (.int (Int32.ofNat 2)), .val (.int vi), .val (.int v0), .val (.int v1), .val (.int v2), .val (.int v3), .val (.int v4), .val (.double (FP.i2d bd)), .second, .val (.int (Int32.ofNat f)), .val (.int (Int32.ofNat t)), .val (.ref bm), .val (.int (own_want (own_le bd v0) (own_le bd v1) (own_le bd v2) (own_le bd v3) (own_le bd v4) f t)), .val (.int e2)] [(.int (own_hit (1 : Int32) v1 (Int32.ofNat f) (Int32.ofNat t) bd))])) _
      by_cases hd256 : (own_hit (1 : Int32) v1 (Int32.ofNat f) (Int32.ofNat t) bd) = (0 : Int32)
      · skip
        refine XS.ifYes X92.here hx rfl (pc0 := 256) (pc' := 262) rfl (hb hby at_256) rfl ((if0 _ _).trans (teq hd256).1) (by decide) (by decide) ?_
        show Steps p.tables e below (T92.setTop (mkF m 262 #[.val (.int p1), .val (.int p2), .val (.int p3), .val (.int p4), .val (.int p5), .val (.int (Int32.ofNat 2)), .val (.int vi), .val (.int v0), .val (.int v1), .val (.int v2), .val (.int v3), .val (.int v4), .val (.double (FP.i2d bd)), .second, .val (.int (Int32.ofNat f)), .val (.int (Int32.ofNat t)), .val (.ref bm), .val (.int (own_want (own_le bd v0) (own_le bd v1) (own_le bd v2) (own_le bd v3) (own_le bd v4) f t)), .val (.int e2)] [])) _
        rw [if_pos hd256] at h_e1
        subst h_e1
        exact kZ
      · skip
        refine XS.ifNo X92.here hx rfl (hb hby at_256) rfl ((if0 _ _).trans (feq hd256).1) ?_
        show Steps p.tables e below (T92.setTop (mkF m 259 #[.val (.int p1), .val (.int p2), .val (.int p3), .val (.int p4), .val (.int p5), .val (.int (Int32.ofNat 2)), .val (.int vi), .val (.int v0), .val (.int v1), .val (.int v2), .val (.int v3), .val (.int v4), .val (.double (FP.i2d bd)), .second, .val (.int (Int32.ofNat f)), .val (.int (Int32.ofNat t)), .val (.ref bm), .val (.int (own_want (own_le bd v0) (own_le bd v1) (own_le bd v2) (own_le bd v3) (own_le bd v4) f t)), .val (.int e2)] [])) _
        refine XS.iconst X92.here hx rfl (hb hby at_259) ?_
        show Steps p.tables e below (T92.setTop (mkF m 260 #[.val (.int p1), .val (.int p2), .val (.int p3), .val (.int p4), .val (.int p5), .val (.int (Int32.ofNat 2)), .val (.int vi), .val (.int v0), .val (.int v1), .val (.int v2), .val (.int v3), .val (.int v4), .val (.double (FP.i2d bd)), .second, .val (.int (Int32.ofNat f)), .val (.int (Int32.ofNat t)), .val (.ref bm), .val (.int (own_want (own_le bd v0) (own_le bd v1) (own_le bd v2) (own_le bd v3) (own_le bd v4) f t)), .val (.int e2)] [(.int (1 : Int32))])) _
        refine XS.istore X92.here hx rfl (hb hby at_260) rfl (l' := #[.val (.int p1), .val (.int p2), .val (.int p3), .val (.int p4), .val (.int p5), .val (.int (Int32.ofNat 2)), .val (.int vi), .val (.int v0), .val (.int v1), .val (.int v2), .val (.int v3), .val (.int v4), .val (.double (FP.i2d bd)), .second, .val (.int (Int32.ofNat f)), .val (.int (Int32.ofNat t)), .val (.ref bm), .val (.int (own_want (own_le bd v0) (own_le bd v1) (own_le bd v2) (own_le bd v3) (own_le bd v4) f t)), .val (.int (1 : Int32))]) rfl ?_
        show Steps p.tables e below (T92.setTop (mkF m 262 #[.val (.int p1), .val (.int p2), .val (.int p3), .val (.int p4), .val (.int p5), .val (.int (Int32.ofNat 2)), .val (.int vi), .val (.int v0), .val (.int v1), .val (.int v2), .val (.int v3), .val (.int v4), .val (.double (FP.i2d bd)), .second, .val (.int (Int32.ofNat f)), .val (.int (Int32.ofNat t)), .val (.ref bm), .val (.int (own_want (own_le bd v0) (own_le bd v1) (own_le bd v2) (own_le bd v3) (own_le bd v4) f t)), .val (.int (1 : Int32))] [])) _
        rw [if_neg hd256] at h_e1
        subst h_e1
        exact kZ
    show own_R p.tables e below _ (T92.setTop (mkF m 262 #[.val (.int p1), .val (.int p2), .val (.int p3), .val (.int p4), .val (.int p5), .val (.int (Int32.ofNat 2)), .val (.int vi), .val (.int v0), .val (.int v1), .val (.int v2), .val (.int v3), .val (.int v4), .val (.double (FP.i2d bd)), .second, .val (.int (Int32.ofNat f)), .val (.int (Int32.ofNat t)), .val (.ref bm), .val (.int (own_want (own_le bd v0) (own_le bd v1) (own_le bd v2) (own_le bd v3) (own_le bd v4) f t)), .val (.int e1)] []))
    refine own_by (fun _ kZ => XS.iconst X92.here hx rfl (hb hby at_262) kZ) ?_
    show own_R p.tables e below _ (T92.setTop (mkF m 263 #[.val (.int p1), .val (.int p2), .val (.int p3), .val (.int p4), .val (.int p5), .val (.int (Int32.ofNat 2)), .val (.int vi), .val (.int v0), .val (.int v1), .val (.int v2), .val (.int v3), .val (.int v4), .val (.double (FP.i2d bd)), .second, .val (.int (Int32.ofNat f)), .val (.int (Int32.ofNat t)), .val (.ref bm), .val (.int (own_want (own_le bd v0) (own_le bd v1) (own_le bd v2) (own_le bd v3) (own_le bd v4) f t)), .val (.int e1)] [(.int (0 : Int32))]))
    refine own_by (fun _ kZ => XS.iload X92.here hx rfl (hb hby at_263) rfl kZ) ?_
    show own_R p.tables e below _ (T92.setTop (mkF m 265 #[.val (.int p1), .val (.int p2), .val (.int p3), .val (.int p4), .val (.int p5), .val (.int (Int32.ofNat 2)), .val (.int vi), .val (.int v0), .val (.int v1), .val (.int v2), .val (.int v3), .val (.int v4), .val (.double (FP.i2d bd)), .second, .val (.int (Int32.ofNat f)), .val (.int (Int32.ofNat t)), .val (.ref bm), .val (.int (own_want (own_le bd v0) (own_le bd v1) (own_le bd v2) (own_le bd v3) (own_le bd v4) f t)), .val (.int e1)] [(.int v0), (.int (0 : Int32))]))
    refine own_by (fun _ kZ => XS.iload X92.here hx rfl (hb hby at_265) rfl kZ) ?_
    show own_R p.tables e below _ (T92.setTop (mkF m 267 #[.val (.int p1), .val (.int p2), .val (.int p3), .val (.int p4), .val (.int p5), .val (.int (Int32.ofNat 2)), .val (.int vi), .val (.int v0), .val (.int v1), .val (.int v2), .val (.int v3), .val (.int v4), .val (.double (FP.i2d bd)), .second, .val (.int (Int32.ofNat f)), .val (.int (Int32.ofNat t)), .val (.ref bm), .val (.int (own_want (own_le bd v0) (own_le bd v1) (own_le bd v2) (own_le bd v3) (own_le bd v4) f t)), .val (.int e1)] [(.int (Int32.ofNat f)), (.int v0), (.int (0 : Int32))]))
    refine own_by (fun _ kZ => XS.iload X92.here hx rfl (hb hby at_267) rfl kZ) ?_
    show own_R p.tables e below _ (T92.setTop (mkF m 269 #[.val (.int p1), .val (.int p2), .val (.int p3), .val (.int p4), .val (.int p5), .val (.int (Int32.ofNat 2)), .val (.int vi), .val (.int v0), .val (.int v1), .val (.int v2), .val (.int v3), .val (.int v4), .val (.double (FP.i2d bd)), .second, .val (.int (Int32.ofNat f)), .val (.int (Int32.ofNat t)), .val (.ref bm), .val (.int (own_want (own_le bd v0) (own_le bd v1) (own_le bd v2) (own_le bd v3) (own_le bd v4) f t)), .val (.int e1)] [(.int (Int32.ofNat t)), (.int (Int32.ofNat f)), (.int v0), (.int (0 : Int32))]))
    refine own_by (fun _ kZ => own_dload X92.here hx rfl (hb hby at_269) rfl kZ) ?_
    show own_R p.tables e below _ (T92.setTop (mkF m 271 #[.val (.int p1), .val (.int p2), .val (.int p3), .val (.int p4), .val (.int p5), .val (.int (Int32.ofNat 2)), .val (.int vi), .val (.int v0), .val (.int v1), .val (.int v2), .val (.int v3), .val (.int v4), .val (.double (FP.i2d bd)), .second, .val (.int (Int32.ofNat f)), .val (.int (Int32.ofNat t)), .val (.ref bm), .val (.int (own_want (own_le bd v0) (own_le bd v1) (own_le bd v2) (own_le bd v3) (own_le bd v4) f t)), .val (.int e1)] [(.double (FP.i2d bd)), (.int (Int32.ofNat t)), (.int (Int32.ofNat f)), (.int v0), (.int (0 : Int32))]))
    obtain ⟨_, _, ⟨T93, L93, k93, n93⟩, -, X93, ⟨Lc93, hQ93, l93, y93, z93⟩, st93⟩ := Jvm.LawKit.callS X92 hx (y := (⟨"com/example/frugal_scheduler/frugalscheduler/planners/MinTreeFirstAtMostPinLaw", "hit", "(IIIID)Z"⟩ : MethodName)) hown (mvT hZ (hw _ (List.mem_of_getElem? (i := 31) rfl))) (mvT hZ (hw _ (List.mem_of_getElem? (i := 32) rfl))) (mvT hZ (hw _ (List.mem_of_getElem? (i := 33) rfl))) (mvT hZ (hw _ (List.mem_of_getElem? (i := 34) rfl))) (by decide) (backOf (W := 0) (rm6 l Z a0 hw [] (0 : Int32) v0 (Int32.ofNat f) (Int32.ofNat t) (FP.i2d bd) bd T85.heap n0 Z87 rfl) hZ (hw _ (List.mem_of_getElem? (i := 34) rfl)) (hw _ (List.mem_of_getElem? (i := 33) rfl)) (by decide) (by decide)) (g := (mkF m 271 #[.val (.int p1), .val (.int p2), .val (.int p3), .val (.int p4), .val (.int p5), .val (.int (Int32.ofNat 2)), .val (.int vi), .val (.int v0), .val (.int v1), .val (.int v2), .val (.int v3), .val (.int v4), .val (.double (FP.i2d bd)), .second, .val (.int (Int32.ofNat f)), .val (.int (Int32.ofNat t)), .val (.ref bm), .val (.int (own_want (own_le bd v0) (own_le bd v1) (own_le bd v2) (own_le bd v3) (own_le bd v4) f t)), .val (.int e1)] [(.double (FP.i2d bd)), (.int (Int32.ofNat t)), (.int (Int32.ofNat f)), (.int v0), (.int (0 : Int32))])) rfl (by rw [hml]; rfl) (argsL := [(.int (0 : Int32)), (.int v0), (.int (Int32.ofNat f)), (.int (Int32.ofNat t)), (.double (FP.i2d bd))]) (rest := []) (lenOf own_pd4 rfl) rfl (by show 2 * 0 + _ ≤ _; exact Nat.le_of_eq rfl) (hb hby at_271) (fun _ _ => ⟨rfl, e92, (by decide : 2 + 0 ≤ _), (by decide : 19 + 0 ≤ _)⟩)
    dsimp only [Pt.U, Pt.locs, Pt.cells, Pt.slots] at X93 l93 y93 z93 st93 hQ93
    subst l93 y93 z93
    obtain ⟨rfl, Nq93, e93⟩ := hQ93
    have N93 := Fr.app N92 Nq93
    refine own_by st93 ?_
    show own_R p.tables e below _ (T93.setTop (mkF m 274 #[.val (.int p1), .val (.int p2), .val (.int p3), .val (.int p4), .val (.int p5), .val (.int (Int32.ofNat 2)), .val (.int vi), .val (.int v0), .val (.int v1), .val (.int v2), .val (.int v3), .val (.int v4), .val (.double (FP.i2d bd)), .second, .val (.int (Int32.ofNat f)), .val (.int (Int32.ofNat t)), .val (.ref bm), .val (.int (own_want (own_le bd v0) (own_le bd v1) (own_le bd v2) (own_le bd v3) (own_le bd v4) f t)), .val (.int e1)] [(.int (own_hit (0 : Int32) v0 (Int32.ofNat f) (Int32.ofNat t) bd))]))
    obtain ⟨e0, h_e0⟩ : ∃ z : Int32, z = (if (own_hit (0 : Int32) v0 (Int32.ofNat f) (Int32.ofNat t) bd) = (0 : Int32) then e1 else (0 : Int32)) := ⟨_, rfl⟩
    refine own_by (S' := T93.setTop (mkF m 280 #[.val (.int p1), .val (.int p2), .val (.int p3), .val (.int p4), .val (.int p5), .val (.int (Int32.ofNat 2)), .val (.int vi), .val (.int v0), .val (.int v1), .val (.int v2), .val (.int v3), .val (.int v4), .val (.double (FP.i2d bd)), .second, .val (.int (Int32.ofNat f)), .val (.int (Int32.ofNat t)), .val (.ref bm), .val (.int (own_want (own_le bd v0) (own_le bd v1) (own_le bd v2) (own_le bd v3) (own_le bd v4) f t)), .val (.int e0)] [])) (fun _ kZ => ?_) ?_
    · skip
      show Steps p.tables e below (T93.setTop (mkF m 274 #[.val (.int p1), .val (.int p2), .val (.int p3), .val (.int p4), .val (.int p5), .val (.int (Int32.ofNat 2)), .val (.int vi), .val (.int v0), .val (.int v1), .val (.int v2), .val (.int v3), .val (.int v4), .val (.double (FP.i2d bd)), .second, .val (.int (Int32.ofNat f)), .val (.int (Int32.ofNat t)), .val (.ref bm), .val (.int (own_want (own_le bd v0) (own_le bd v1) (own_le bd v2) (own_le bd v3) (own_le bd v4) f t)), .val (.int e1)] [(.int (own_hit (0 : Int32) v0 (Int32.ofNat f) (Int32.ofNat t) bd))])) _
      by_cases hd274 : (own_hit (0 : Int32) v0 (Int32.ofNat f) (Int32.ofNat t) bd) = (0 : Int32)
      · skip
        refine XS.ifYes X93.here hx rfl (pc0 := 274) (pc' := 280) rfl (hb hby at_274) rfl ((if0 _ _).trans (teq hd274).1) (by decide) (by decide) ?_
        show Steps p.tables e below (T93.setTop (mkF m 280 #[.val (.int p1), .val (.int p2), .val (.int p3), .val (.int p4), .val (.int p5), .val (.int (Int32.ofNat 2)), .val (.int vi), .val (.int v0), .val (.int v1), .val (.int v2), .val (.int v3), .val (.int v4), .val (.double (FP.i2d bd)), .second, .val (.int (Int32.ofNat f)), .val (.int (Int32.ofNat t)), .val (.ref bm), .val (.int (own_want (own_le bd v0) (own_le bd v1) (own_le bd v2) (own_le bd v3) (own_le bd v4) f t)), .val (.int e1)] [])) _
        rw [if_pos hd274] at h_e0
        subst h_e0
        exact kZ
      · skip
        refine XS.ifNo X93.here hx rfl (hb hby at_274) rfl ((if0 _ _).trans (feq hd274).1) ?_
        show Steps p.tables e below (T93.setTop (mkF m 277 #[.val (.int p1), .val (.int p2), .val (.int p3), .val (.int p4), .val (.int p5), .val (.int (Int32.ofNat 2)), .val (.int vi), .val (.int v0), .val (.int v1), .val (.int v2), .val (.int v3), .val (.int v4), .val (.double (FP.i2d bd)), .second, .val (.int (Int32.ofNat f)), .val (.int (Int32.ofNat t)), .val (.ref bm), .val (.int (own_want (own_le bd v0) (own_le bd v1) (own_le bd v2) (own_le bd v3) (own_le bd v4) f t)), .val (.int e1)] [])) _
        refine XS.iconst X93.here hx rfl (hb hby at_277) ?_
        show Steps p.tables e below (T93.setTop (mkF m 278 #[.val (.int p1), .val (.int p2), .val (.int p3), .val (.int p4), .val (.int p5), .val (.int (Int32.ofNat 2)), .val (.int vi), .val (.int v0), .val (.int v1), .val (.int v2), .val (.int v3), .val (.int v4), .val (.double (FP.i2d bd)), .second, .val (.int (Int32.ofNat f)), .val (.int (Int32.ofNat t)), .val (.ref bm), .val (.int (own_want (own_le bd v0) (own_le bd v1) (own_le bd v2) (own_le bd v3) (own_le bd v4) f t)), .val (.int e1)] [(.int (0 : Int32))])) _
        refine XS.istore X93.here hx rfl (hb hby at_278) rfl (l' := #[.val (.int p1), .val (.int p2), .val (.int p3), .val (.int p4), .val (.int p5), .val (.int (Int32.ofNat 2)), .val (.int vi), .val (.int v0), .val (.int v1), .val (.int v2), .val (.int v3), .val (.int v4), .val (.double (FP.i2d bd)), .second, .val (.int (Int32.ofNat f)), .val (.int (Int32.ofNat t)), .val (.ref bm), .val (.int (own_want (own_le bd v0) (own_le bd v1) (own_le bd v2) (own_le bd v3) (own_le bd v4) f t)), .val (.int (0 : Int32))]) rfl ?_
        show Steps p.tables e below (T93.setTop (mkF m 280 #[.val (.int p1), .val (.int p2), .val (.int p3), .val (.int p4), .val (.int p5), .val (.int (Int32.ofNat 2)), .val (.int vi), .val (.int v0), .val (.int v1), .val (.int v2), .val (.int v3), .val (.int v4), .val (.double (FP.i2d bd)), .second, .val (.int (Int32.ofNat f)), .val (.int (Int32.ofNat t)), .val (.ref bm), .val (.int (own_want (own_le bd v0) (own_le bd v1) (own_le bd v2) (own_le bd v3) (own_le bd v4) f t)), .val (.int (0 : Int32))] [])) _
        rw [if_neg hd274] at h_e0
        subst h_e0
        exact kZ
    show own_R p.tables e below _ (T93.setTop (mkF m 280 #[.val (.int p1), .val (.int p2), .val (.int p3), .val (.int p4), .val (.int p5), .val (.int (Int32.ofNat 2)), .val (.int vi), .val (.int v0), .val (.int v1), .val (.int v2), .val (.int v3), .val (.int v4), .val (.double (FP.i2d bd)), .second, .val (.int (Int32.ofNat f)), .val (.int (Int32.ofNat t)), .val (.ref bm), .val (.int (own_want (own_le bd v0) (own_le bd v1) (own_le bd v2) (own_le bd v3) (own_le bd v4) f t)), .val (.int e0)] []))
    refine own_by (fun _ kZ => XS.iload X93.here hx rfl (hb hby at_280) rfl kZ) ?_
    show own_R p.tables e below _ (T93.setTop (mkF m 282 #[.val (.int p1), .val (.int p2), .val (.int p3), .val (.int p4), .val (.int p5), .val (.int (Int32.ofNat 2)), .val (.int vi), .val (.int v0), .val (.int v1), .val (.int v2), .val (.int v3), .val (.int v4), .val (.double (FP.i2d bd)), .second, .val (.int (Int32.ofNat f)), .val (.int (Int32.ofNat t)), .val (.ref bm), .val (.int (own_want (own_le bd v0) (own_le bd v1) (own_le bd v2) (own_le bd v3) (own_le bd v4) f t)), .val (.int e0)] [(.int (own_want (own_le bd v0) (own_le bd v1) (own_le bd v2) (own_le bd v3) (own_le bd v4) f t))]))
    refine own_by (fun _ kZ => XS.iload X93.here hx rfl (hb hby at_282) rfl kZ) ?_
    show own_R p.tables e below _ (T93.setTop (mkF m 284 #[.val (.int p1), .val (.int p2), .val (.int p3), .val (.int p4), .val (.int p5), .val (.int (Int32.ofNat 2)), .val (.int vi), .val (.int v0), .val (.int v1), .val (.int v2), .val (.int v3), .val (.int v4), .val (.double (FP.i2d bd)), .second, .val (.int (Int32.ofNat f)), .val (.int (Int32.ofNat t)), .val (.ref bm), .val (.int (own_want (own_le bd v0) (own_le bd v1) (own_le bd v2) (own_le bd v3) (own_le bd v4) f t)), .val (.int e0)] [(.int e0), (.int (own_want (own_le bd v0) (own_le bd v1) (own_le bd v2) (own_le bd v3) (own_le bd v4) f t))]))
    refine own_by (fun _ kZ => XS.icmpNo X93.here hx rfl (hb hby at_284) rfl (teq (own_wfin (by omega) (by omega) h_e4 h_e3 h_e2 h_e1 h_e0 : (own_want (own_le bd v0) (own_le bd v1) (own_le bd v2) (own_le bd v3) (own_le bd v4) f t) = e0)).2 kZ) ?_
    show own_R p.tables e below _ (T93.setTop (mkF m 287 #[.val (.int p1), .val (.int p2), .val (.int p3), .val (.int p4), .val (.int p5), .val (.int (Int32.ofNat 2)), .val (.int vi), .val (.int v0), .val (.int v1), .val (.int v2), .val (.int v3), .val (.int v4), .val (.double (FP.i2d bd)), .second, .val (.int (Int32.ofNat f)), .val (.int (Int32.ofNat t)), .val (.ref bm), .val (.int (own_want (own_le bd v0) (own_le bd v1) (own_le bd v2) (own_le bd v3) (own_le bd v4) f t)), .val (.int e0)] []))
    refine own_by (fun _ kZ => XS.iconst X93.here hx rfl (hb hby at_287) kZ) ?_
    show own_R p.tables e below _ (T93.setTop (mkF m 288 #[.val (.int p1), .val (.int p2), .val (.int p3), .val (.int p4), .val (.int p5), .val (.int (Int32.ofNat 2)), .val (.int vi), .val (.int v0), .val (.int v1), .val (.int v2), .val (.int v3), .val (.int v4), .val (.double (FP.i2d bd)), .second, .val (.int (Int32.ofNat f)), .val (.int (Int32.ofNat t)), .val (.ref bm), .val (.int (own_want (own_le bd v0) (own_le bd v1) (own_le bd v2) (own_le bd v3) (own_le bd v4) f t)), .val (.int e0)] [(.int (1 : Int32))]))
    refine own_by (fun _ kZ => XS.goto X93.here hx rfl (pc0 := 288) (pc' := 292) rfl (hb hby at_288) (by decide) (by decide) kZ) ?_
    show own_R p.tables e below _ (T93.setTop (mkF m 292 #[.val (.int p1), .val (.int p2), .val (.int p3), .val (.int p4), .val (.int p5), .val (.int (Int32.ofNat 2)), .val (.int vi), .val (.int v0), .val (.int v1), .val (.int v2), .val (.int v3), .val (.int v4), .val (.double (FP.i2d bd)), .second, .val (.int (Int32.ofNat f)), .val (.int (Int32.ofNat t)), .val (.ref bm), .val (.int (own_want (own_le bd v0) (own_le bd v1) (own_le bd v2) (own_le bd v3) (own_le bd v4) f t)), .val (.int e0)] [(.int (1 : Int32))]))
    obtain ⟨fs, hr, hrun, hended, hW, hsame⟩ := X93.leave (v := some (.int (1 : Int32))) (fun h => by rw [Bd.returns] at h; cases h)
    refine own_end ⟨_, _, ?_, hrun, hended, _, _, rfl, ?_, ⟨_, rfl⟩, hW, hsame.mono (by decide) (by decide)⟩
    · exact retN X93 hx (t := .boolean) Bd.returns (by simp) (hb hby at_292) hr
    · show Q0 Z p1 p2 p3 p4 p5 h0 n0 _ T93.heap _
      rw [e93]
      exact ⟨rfl, N93⟩
  · skip
    show own_R p.tables e below _ (T70.setTop (mkF m 111 #[.val (.int p1), .val (.int p2), .val (.int p3), .val (.int p4), .val (.int p5), .val (.int (Int32.ofNat 3)), .val (.int vi), .val (.int v0), .val (.int v1), .val (.int v2), .val (.int v3), .val (.int v4), .val (.double (FP.i2d bd)), .second, .val (.int (Int32.ofNat f)), .val (.int (Int32.ofNat t)), .val (.ref bm), .unset, .unset] [(.double (FP.i2d v0)), (.int (0 : Int32)), (.ref bm)]))
    obtain ⟨cq94, kq94, q94a, q94b, q94c⟩ := isOf hZ rfl f71_bm
    obtain ⟨_, _, ⟨T94, L94, k94, n94⟩, -, X94, ⟨Lc94, hQ94, l94, y94, z94⟩, st94⟩ := X70.virtualBack hx (y := (⟨"com/example/frugal_scheduler/frugalscheduler/planners/MinTree", "set", "(ID)V"⟩ : MethodName)) (z := (⟨"com/example/frugal_scheduler/frugalscheduler/planners/MinTree", "set", "(ID)V"⟩ : MethodName)) hown (mvT hZ (hw _ (List.mem_of_getElem? (i := 21) rfl))) (mvT hZ (hw _ (List.mem_of_getElem? (i := 22) rfl))) (notFace_of_selects (args := #[]) (mvT hZ (hw _ (List.mem_of_getElem? (i := 24) rfl)))) (mvT hZ (hw _ (List.mem_of_getElem? (i := 24) rfl))) (mvT hZ (hw _ (List.mem_of_getElem? (i := 23) rfl))) (by decide) (backOf (W := 0) (rm4 l Z a0 hw [] bm (0 : Int32) (FP.i2d v0) b 3 (fun _ => vi) 0 v0 T70.heap n0 Z72 W70 rfl (by decide) rfl) hZ (hw _ (List.mem_of_getElem? (i := 25) rfl)) (hw _ (List.mem_of_getElem? (i := 3) rfl)) (by decide) (by decide)) q94a q94c (g := (mkF m 111 #[.val (.int p1), .val (.int p2), .val (.int p3), .val (.int p4), .val (.int p5), .val (.int (Int32.ofNat 3)), .val (.int vi), .val (.int v0), .val (.int v1), .val (.int v2), .val (.int v3), .val (.int v4), .val (.double (FP.i2d bd)), .second, .val (.int (Int32.ofNat f)), .val (.int (Int32.ofNat t)), .val (.ref bm), .unset, .unset] [(.double (FP.i2d v0)), (.int (0 : Int32)), (.ref bm)])) rfl (by rw [hml]; rfl) (Steps.refl _) (argsL := [(.int (0 : Int32)), (.double (FP.i2d v0))]) (rest := []) (lenOf own_pd2 rfl) rfl (by show 2 * 0 + _ ≤ _; exact Nat.le_of_eq rfl) (hb hby at_111) (fun _ _ => ⟨rfl, rfl, (by decide : 2 + 0 ≤ _), (by decide : 19 + 0 ≤ _)⟩)
    dsimp only [Pt.U, Pt.locs, Pt.cells, Pt.slots] at X94 l94 y94 z94 st94 hQ94
    subst l94 y94 z94
    obtain ⟨rfl, Nq94, K94, W94⟩ := hQ94
    have N94 := Fr.app N70 Nq94
    have f95_bm : Exa Z T94.heap bm "com/example/frugal_scheduler/frugalscheduler/planners/MinTree" := f71_bm.keep K94
    have Z96 : n0 ≤ T94.heap.size := Nat.le_trans Z72 K94.1
    refine own_by (fun _ kZ => st94.trans kZ) ?_
    show own_R p.tables e below _ (T94.setTop (mkF m 114 #[.val (.int p1), .val (.int p2), .val (.int p3), .val (.int p4), .val (.int p5), .val (.int (Int32.ofNat 3)), .val (.int vi), .val (.int v0), .val (.int v1), .val (.int v2), .val (.int v3), .val (.int v4), .val (.double (FP.i2d bd)), .second, .val (.int (Int32.ofNat f)), .val (.int (Int32.ofNat t)), .val (.ref bm), .unset, .unset] []))
    refine own_by (fun _ kZ => XS.iload X94.here hx rfl (hb hby at_114) rfl kZ) ?_
    show own_R p.tables e below _ (T94.setTop (mkF m 116 #[.val (.int p1), .val (.int p2), .val (.int p3), .val (.int p4), .val (.int p5), .val (.int (Int32.ofNat 3)), .val (.int vi), .val (.int v0), .val (.int v1), .val (.int v2), .val (.int v3), .val (.int v4), .val (.double (FP.i2d bd)), .second, .val (.int (Int32.ofNat f)), .val (.int (Int32.ofNat t)), .val (.ref bm), .unset, .unset] [(.int (Int32.ofNat 3))]))
    refine own_by (fun _ kZ => XS.iconst X94.here hx rfl (hb hby at_116) kZ) ?_
    show own_R p.tables e below _ (T94.setTop (mkF m 117 #[.val (.int p1), .val (.int p2), .val (.int p3), .val (.int p4), .val (.int p5), .val (.int (Int32.ofNat 3)), .val (.int vi), .val (.int v0), .val (.int v1), .val (.int v2), .val (.int v3), .val (.int v4), .val (.double (FP.i2d bd)), .second, .val (.int (Int32.ofNat f)), .val (.int (Int32.ofNat t)), .val (.ref bm), .unset, .unset] [(.int (1 : Int32)), (.int (Int32.ofNat 3))]))
    refine own_by (fun _ kZ => XS.icmpNo X94.here hx rfl (hb hby at_117) rfl (tlt (by decide : (1 : Int32) < (Int32.ofNat 3))).2.2.2 kZ) ?_
    show own_R p.tables e below _ (T94.setTop (mkF m 120 #[.val (.int p1), .val (.int p2), .val (.int p3), .val (.int p4), .val (.int p5), .val (.int (Int32.ofNat 3)), .val (.int vi), .val (.int v0), .val (.int v1), .val (.int v2), .val (.int v3), .val (.int v4), .val (.double (FP.i2d bd)), .second, .val (.int (Int32.ofNat f)), .val (.int (Int32.ofNat t)), .val (.ref bm), .unset, .unset] []))
    refine own_by (fun _ kZ => XS.aload X94.here hx rfl (hb hby at_120) rfl rfl kZ) ?_
    show own_R p.tables e below _ (T94.setTop (mkF m 122 #[.val (.int p1), .val (.int p2), .val (.int p3), .val (.int p4), .val (.int p5), .val (.int (Int32.ofNat 3)), .val (.int vi), .val (.int v0), .val (.int v1), .val (.int v2), .val (.int v3), .val (.int v4), .val (.double (FP.i2d bd)), .second, .val (.int (Int32.ofNat f)), .val (.int (Int32.ofNat t)), .val (.ref bm), .unset, .unset] [(.ref bm)]))
    refine own_by (fun _ kZ => XS.iconst X94.here hx rfl (hb hby at_122) kZ) ?_
    show own_R p.tables e below _ (T94.setTop (mkF m 123 #[.val (.int p1), .val (.int p2), .val (.int p3), .val (.int p4), .val (.int p5), .val (.int (Int32.ofNat 3)), .val (.int vi), .val (.int v0), .val (.int v1), .val (.int v2), .val (.int v3), .val (.int v4), .val (.double (FP.i2d bd)), .second, .val (.int (Int32.ofNat f)), .val (.int (Int32.ofNat t)), .val (.ref bm), .unset, .unset] [(.int (1 : Int32)), (.ref bm)]))
    refine own_by (fun _ kZ => XS.iload X94.here hx rfl (hb hby at_123) rfl kZ) ?_
    show own_R p.tables e below _ (T94.setTop (mkF m 125 #[.val (.int p1), .val (.int p2), .val (.int p3), .val (.int p4), .val (.int p5), .val (.int (Int32.ofNat 3)), .val (.int vi), .val (.int v0), .val (.int v1), .val (.int v2), .val (.int v3), .val (.int v4), .val (.double (FP.i2d bd)), .second, .val (.int (Int32.ofNat f)), .val (.int (Int32.ofNat t)), .val (.ref bm), .unset, .unset] [(.int v1), (.int (1 : Int32)), (.ref bm)]))
    refine own_by (fun _ kZ => own_i2d X94.here hx rfl (hb hby at_125) rfl kZ) ?_
    show own_R p.tables e below _ (T94.setTop (mkF m 126 #[.val (.int p1), .val (.int p2), .val (.int p3), .val (.int p4), .val (.int p5), .val (.int (Int32.ofNat 3)), .val (.int vi), .val (.int v0), .val (.int v1), .val (.int v2), .val (.int v3), .val (.int v4), .val (.double (FP.i2d bd)), .second, .val (.int (Int32.ofNat f)), .val (.int (Int32.ofNat t)), .val (.ref bm), .unset, .unset] [(.double (FP.i2d v1)), (.int (1 : Int32)), (.ref bm)]))
    obtain ⟨cq97, kq97, q97a, q97b, q97c⟩ := isOf hZ rfl f95_bm
    obtain ⟨_, _, ⟨T97, L97, k97, n97⟩, -, X97, ⟨Lc97, hQ97, l97, y97, z97⟩, st97⟩ := X94.virtualBack hx (y := (⟨"com/example/frugal_scheduler/frugalscheduler/planners/MinTree", "set", "(ID)V"⟩ : MethodName)) (z := (⟨"com/example/frugal_scheduler/frugalscheduler/planners/MinTree", "set", "(ID)V"⟩ : MethodName)) hown (mvT hZ (hw _ (List.mem_of_getElem? (i := 21) rfl))) (mvT hZ (hw _ (List.mem_of_getElem? (i := 22) rfl))) (notFace_of_selects (args := #[]) (mvT hZ (hw _ (List.mem_of_getElem? (i := 24) rfl)))) (mvT hZ (hw _ (List.mem_of_getElem? (i := 24) rfl))) (mvT hZ (hw _ (List.mem_of_getElem? (i := 23) rfl))) (by decide) (backOf (W := 0) (rm4 l Z a0 hw [] bm (1 : Int32) (FP.i2d v1) b 3 (own_setg own_min (fun _ => vi) (own_leaves 3) 0 v0) 1 v1 T94.heap n0 Z96 W94 rfl (by decide) rfl) hZ (hw _ (List.mem_of_getElem? (i := 25) rfl)) (hw _ (List.mem_of_getElem? (i := 3) rfl)) (by decide) (by decide)) q97a q97c (g := (mkF m 126 #[.val (.int p1), .val (.int p2), .val (.int p3), .val (.int p4), .val (.int p5), .val (.int (Int32.ofNat 3)), .val (.int vi), .val (.int v0), .val (.int v1), .val (.int v2), .val (.int v3), .val (.int v4), .val (.double (FP.i2d bd)), .second, .val (.int (Int32.ofNat f)), .val (.int (Int32.ofNat t)), .val (.ref bm), .unset, .unset] [(.double (FP.i2d v1)), (.int (1 : Int32)), (.ref bm)])) rfl (by rw [hml]; rfl) (Steps.refl _) (argsL := [(.int (1 : Int32)), (.double (FP.i2d v1))]) (rest := []) (lenOf own_pd2 rfl) rfl (by show 2 * 0 + _ ≤ _; exact Nat.le_of_eq rfl) (hb hby at_126) (fun _ _ => ⟨rfl, rfl, (by decide : 2 + 0 ≤ _), (by decide : 19 + 0 ≤ _)⟩)
    dsimp only [Pt.U, Pt.locs, Pt.cells, Pt.slots] at X97 l97 y97 z97 st97 hQ97
    subst l97 y97 z97
    obtain ⟨rfl, Nq97, K97, W97⟩ := hQ97
    have N97 := Fr.app N94 Nq97
    have f98_bm : Exa Z T97.heap bm "com/example/frugal_scheduler/frugalscheduler/planners/MinTree" := f95_bm.keep K97
    have Z99 : n0 ≤ T97.heap.size := Nat.le_trans Z96 K97.1
    refine own_by (fun _ kZ => st97.trans kZ) ?_
    show own_R p.tables e below _ (T97.setTop (mkF m 129 #[.val (.int p1), .val (.int p2), .val (.int p3), .val (.int p4), .val (.int p5), .val (.int (Int32.ofNat 3)), .val (.int vi), .val (.int v0), .val (.int v1), .val (.int v2), .val (.int v3), .val (.int v4), .val (.double (FP.i2d bd)), .second, .val (.int (Int32.ofNat f)), .val (.int (Int32.ofNat t)), .val (.ref bm), .unset, .unset] []))
    refine own_by (fun _ kZ => XS.iload X97.here hx rfl (hb hby at_129) rfl kZ) ?_
    show own_R p.tables e below _ (T97.setTop (mkF m 131 #[.val (.int p1), .val (.int p2), .val (.int p3), .val (.int p4), .val (.int p5), .val (.int (Int32.ofNat 3)), .val (.int vi), .val (.int v0), .val (.int v1), .val (.int v2), .val (.int v3), .val (.int v4), .val (.double (FP.i2d bd)), .second, .val (.int (Int32.ofNat f)), .val (.int (Int32.ofNat t)), .val (.ref bm), .unset, .unset] [(.int (Int32.ofNat 3))]))
    refine own_by (fun _ kZ => XS.iconst X97.here hx rfl (hb hby at_131) kZ) ?_
    show own_R p.tables e below _ (T97.setTop (mkF m 132 #[.val (.int p1), .val (.int p2), .val (.int p3), .val (.int p4), .val (.int p5), .val (.int (Int32.ofNat 3)), .val (.int vi), .val (.int v0), .val (.int v1), .val (.int v2), .val (.int v3), .val (.int v4), .val (.double (FP.i2d bd)), .second, .val (.int (Int32.ofNat f)), .val (.int (Int32.ofNat t)), .val (.ref bm), .unset, .unset] [(.int (2 : Int32)), (.int (Int32.ofNat 3))]))
    refine own_by (fun _ kZ => XS.icmpNo X97.here hx rfl (hb hby at_132) rfl (tlt (by decide : (2 : Int32) < (Int32.ofNat 3))).2.2.2 kZ) ?_
    show own_R p.tables e below _ (T97.setTop (mkF m 135 #[.val (.int p1), .val (.int p2), .val (.int p3), .val (.int p4), .val (.int p5), .val (.int (Int32.ofNat 3)), .val (.int vi), .val (.int v0), .val (.int v1), .val (.int v2), .val (.int v3), .val (.int v4), .val (.double (FP.i2d bd)), .second, .val (.int (Int32.ofNat f)), .val (.int (Int32.ofNat t)), .val (.ref bm), .unset, .unset] []))
    refine own_by (fun _ kZ => XS.aload X97.here hx rfl (hb hby at_135) rfl rfl kZ) ?_
    show own_R p.tables e below _ (T97.setTop (mkF m 137 #[.val (.int p1), .val (.int p2), .val (.int p3), .val (.int p4), .val (.int p5), .val (.int (Int32.ofNat 3)), .val (.int vi), .val (.int v0), .val (.int v1), .val (.int v2), .val (.int v3), .val (.int v4), .val (.double (FP.i2d bd)), .second, .val (.int (Int32.ofNat f)), .val (.int (Int32.ofNat t)), .val (.ref bm), .unset, .unset] [(.ref bm)]))
    refine own_by (fun _ kZ => XS.iconst X97.here hx rfl (hb hby at_137) kZ) ?_
    show own_R p.tables e below _ (T97.setTop (mkF m 138 #[.val (.int p1), .val (.int p2), .val (.int p3), .val (.int p4), .val (.int p5), .val (.int (Int32.ofNat 3)), .val (.int vi), .val (.int v0), .val (.int v1), .val (.int v2), .val (.int v3), .val (.int v4), .val (.double (FP.i2d bd)), .second, .val (.int (Int32.ofNat f)), .val (.int (Int32.ofNat t)), .val (.ref bm), .unset, .unset] [(.int (2 : Int32)), (.ref bm)]))
    refine own_by (fun _ kZ => XS.iload X97.here hx rfl (hb hby at_138) rfl kZ) ?_
    show own_R p.tables e below _ (T97.setTop (mkF m 140 #[.val (.int p1), .val (.int p2), .val (.int p3), .val (.int p4), .val (.int p5), .val (.int (Int32.ofNat 3)), .val (.int vi), .val (.int v0), .val (.int v1), .val (.int v2), .val (.int v3), .val (.int v4), .val (.double (FP.i2d bd)), .second, .val (.int (Int32.ofNat f)), .val (.int (Int32.ofNat t)), .val (.ref bm), .unset, .unset] [(.int v2), (.int (2 : Int32)), (.ref bm)]))
    refine own_by (fun _ kZ => own_i2d X97.here hx rfl (hb hby at_140) rfl kZ) ?_
    show own_R p.tables e below _ (T97.setTop (mkF m 141 #[.val (.int p1), .val (.int p2), .val (.int p3), .val (.int p4), .val (.int p5), .val (.int (Int32.ofNat 3)), .val (.int vi), .val (.int v0), .val (.int v1), .val (.int v2), .val (.int v3), .val (.int v4), .val (.double (FP.i2d bd)), .second, .val (.int (Int32.ofNat f)), .val (.int (Int32.ofNat t)), .val (.ref bm), .unset, .unset] [(.double (FP.i2d v2)), (.int (2 : Int32)), (.ref bm)]))
    obtain ⟨cq100, kq100, q100a, q100b, q100c⟩ := isOf hZ rfl f98_bm
    obtain ⟨_, _, ⟨T100, L100, k100, n100⟩, -, X100, ⟨Lc100, hQ100, l100, y100, z100⟩, st100⟩ := X97.virtualBack hx (y := (⟨"com/example/frugal_scheduler/frugalscheduler/planners/MinTree", "set", "(ID)V"⟩ : MethodName)) (z := (⟨"com/example/frugal_scheduler/frugalscheduler/planners/MinTree", "set", "(ID)V"⟩ : MethodName)) hown (mvT hZ (hw _ (List.mem_of_getElem? (i := 21) rfl))) (mvT hZ (hw _ (List.mem_of_getElem? (i := 22) rfl))) (notFace_of_selects (args := #[]) (mvT hZ (hw _ (List.mem_of_getElem? (i := 24) rfl)))) (mvT hZ (hw _ (List.mem_of_getElem? (i := 24) rfl))) (mvT hZ (hw _ (List.mem_of_getElem? (i := 23) rfl))) (by decide) (backOf (W := 0) (rm4 l Z a0 hw [] bm (2 : Int32) (FP.i2d v2) b 3 (own_setg own_min (own_setg own_min (fun _ => vi) (own_leaves 3) 0 v0) (own_leaves 3) 1 v1) 2 v2 T97.heap n0 Z99 W97 rfl (by decide) rfl) hZ (hw _ (List.mem_of_getElem? (i := 25) rfl)) (hw _ (List.mem_of_getElem? (i := 3) rfl)) (by decide) (by decide)) q100a q100c (g := (mkF m 141 #[.val (.int p1), .val (.int p2), .val (.int p3), .val (.int p4), .val (.int p5), .val (.int (Int32.ofNat 3)), .val (.int vi), .val (.int v0), .val (.int v1), .val (.int v2), .val (.int v3), .val (.int v4), .val (.double (FP.i2d bd)), .second, .val (.int (Int32.ofNat f)), .val (.int (Int32.ofNat t)), .val (.ref bm), .unset, .unset] [(.double (FP.i2d v2)), (.int (2 : Int32)), (.ref bm)])) rfl (by rw [hml]; rfl) (Steps.refl _) (argsL := [(.int (2 : Int32)), (.double (FP.i2d v2))]) (rest := []) (lenOf own_pd2 rfl) rfl (by show 2 * 0 + _ ≤ _; exact Nat.le_of_eq rfl) (hb hby at_141) (fun _ _ => ⟨rfl, rfl, (by decide : 2 + 0 ≤ _), (by decide : 19 + 0 ≤ _)⟩)
    dsimp only [Pt.U, Pt.locs, Pt.cells, Pt.slots] at X100 l100 y100 z100 st100 hQ100
    subst l100 y100 z100
    obtain ⟨rfl, Nq100, K100, W100⟩ := hQ100
    have N100 := Fr.app N97 Nq100
    have f101_bm : Exa Z T100.heap bm "com/example/frugal_scheduler/frugalscheduler/planners/MinTree" := f98_bm.keep K100
    have Z102 : n0 ≤ T100.heap.size := Nat.le_trans Z99 K100.1
    refine own_by (fun _ kZ => st100.trans kZ) ?_
    show own_R p.tables e below _ (T100.setTop (mkF m 144 #[.val (.int p1), .val (.int p2), .val (.int p3), .val (.int p4), .val (.int p5), .val (.int (Int32.ofNat 3)), .val (.int vi), .val (.int v0), .val (.int v1), .val (.int v2), .val (.int v3), .val (.int v4), .val (.double (FP.i2d bd)), .second, .val (.int (Int32.ofNat f)), .val (.int (Int32.ofNat t)), .val (.ref bm), .unset, .unset] []))
    refine own_by (fun _ kZ => XS.iload X100.here hx rfl (hb hby at_144) rfl kZ) ?_
    show own_R p.tables e below _ (T100.setTop (mkF m 146 #[.val (.int p1), .val (.int p2), .val (.int p3), .val (.int p4), .val (.int p5), .val (.int (Int32.ofNat 3)), .val (.int vi), .val (.int v0), .val (.int v1), .val (.int v2), .val (.int v3), .val (.int v4), .val (.double (FP.i2d bd)), .second, .val (.int (Int32.ofNat f)), .val (.int (Int32.ofNat t)), .val (.ref bm), .unset, .unset] [(.int (Int32.ofNat 3))]))
    refine own_by (fun _ kZ => XS.iconst X100.here hx rfl (hb hby at_146) kZ) ?_
    show own_R p.tables e below _ (T100.setTop (mkF m 147 #[.val (.int p1), .val (.int p2), .val (.int p3), .val (.int p4), .val (.int p5), .val (.int (Int32.ofNat 3)), .val (.int vi), .val (.int v0), .val (.int v1), .val (.int v2), .val (.int v3), .val (.int v4), .val (.double (FP.i2d bd)), .second, .val (.int (Int32.ofNat f)), .val (.int (Int32.ofNat t)), .val (.ref bm), .unset, .unset] [(.int (3 : Int32)), (.int (Int32.ofNat 3))]))
    refine own_by (fun _ kZ => XS.icmpYes X100.here hx rfl (pc0 := 147) (pc' := 159) rfl (hb hby at_147) rfl (flt (by decide : ¬ (3 : Int32) < (Int32.ofNat 3))).2.2.2 (by decide) (by decide) kZ) ?_
    show own_R p.tables e below _ (T100.setTop (mkF m 159 #[.val (.int p1), .val (.int p2), .val (.int p3), .val (.int p4), .val (.int p5), .val (.int (Int32.ofNat 3)), .val (.int vi), .val (.int v0), .val (.int v1), .val (.int v2), .val (.int v3), .val (.int v4), .val (.double (FP.i2d bd)), .second, .val (.int (Int32.ofNat f)), .val (.int (Int32.ofNat t)), .val (.ref bm), .unset, .unset] []))
    refine own_by (fun _ kZ => XS.iload X100.here hx rfl (hb hby at_159) rfl kZ) ?_
    show own_R p.tables e below _ (T100.setTop (mkF m 161 #[.val (.int p1), .val (.int p2), .val (.int p3), .val (.int p4), .val (.int p5), .val (.int (Int32.ofNat 3)), .val (.int vi), .val (.int v0), .val (.int v1), .val (.int v2), .val (.int v3), .val (.int v4), .val (.double (FP.i2d bd)), .second, .val (.int (Int32.ofNat f)), .val (.int (Int32.ofNat t)), .val (.ref bm), .unset, .unset] [(.int (Int32.ofNat 3))]))
    refine own_by (fun _ kZ => XS.iconst X100.here hx rfl (hb hby at_161) kZ) ?_
    show own_R p.tables e below _ (T100.setTop (mkF m 162 #[.val (.int p1), .val (.int p2), .val (.int p3), .val (.int p4), .val (.int p5), .val (.int (Int32.ofNat 3)), .val (.int vi), .val (.int v0), .val (.int v1), .val (.int v2), .val (.int v3), .val (.int v4), .val (.double (FP.i2d bd)), .second, .val (.int (Int32.ofNat f)), .val (.int (Int32.ofNat t)), .val (.ref bm), .unset, .unset] [(.int (4 : Int32)), (.int (Int32.ofNat 3))]))
    refine own_by (fun _ kZ => XS.icmpYes X100.here hx rfl (pc0 := 162) (pc' := 174) rfl (hb hby at_162) rfl (flt (by decide : ¬ (4 : Int32) < (Int32.ofNat 3))).2.2.2 (by decide) (by decide) kZ) ?_
    show own_R p.tables e below _ (T100.setTop (mkF m 174 #[.val (.int p1), .val (.int p2), .val (.int p3), .val (.int p4), .val (.int p5), .val (.int (Int32.ofNat 3)), .val (.int vi), .val (.int v0), .val (.int v1), .val (.int v2), .val (.int v3), .val (.int v4), .val (.double (FP.i2d bd)), .second, .val (.int (Int32.ofNat f)), .val (.int (Int32.ofNat t)), .val (.ref bm), .unset, .unset] []))
    refine own_by (fun _ kZ => XS.aload X100.here hx rfl (hb hby at_174) rfl rfl kZ) ?_
    show own_R p.tables e below _ (T100.setTop (mkF m 176 #[.val (.int p1), .val (.int p2), .val (.int p3), .val (.int p4), .val (.int p5), .val (.int (Int32.ofNat 3)), .val (.int vi), .val (.int v0), .val (.int v1), .val (.int v2), .val (.int v3), .val (.int v4), .val (.double (FP.i2d bd)), .second, .val (.int (Int32.ofNat f)), .val (.int (Int32.ofNat t)), .val (.ref bm), .unset, .unset] [(.ref bm)]))
    refine own_by (fun _ kZ => XS.iload X100.here hx rfl (hb hby at_176) rfl kZ) ?_
    show own_R p.tables e below _ (T100.setTop (mkF m 178 #[.val (.int p1), .val (.int p2), .val (.int p3), .val (.int p4), .val (.int p5), .val (.int (Int32.ofNat 3)), .val (.int vi), .val (.int v0), .val (.int v1), .val (.int v2), .val (.int v3), .val (.int v4), .val (.double (FP.i2d bd)), .second, .val (.int (Int32.ofNat f)), .val (.int (Int32.ofNat t)), .val (.ref bm), .unset, .unset] [(.int (Int32.ofNat f)), (.ref bm)]))
    refine own_by (fun _ kZ => XS.iload X100.here hx rfl (hb hby at_178) rfl kZ) ?_
    show own_R p.tables e below _ (T100.setTop (mkF m 180 #[.val (.int p1), .val (.int p2), .val (.int p3), .val (.int p4), .val (.int p5), .val (.int (Int32.ofNat 3)), .val (.int vi), .val (.int v0), .val (.int v1), .val (.int v2), .val (.int v3), .val (.int v4), .val (.double (FP.i2d bd)), .second, .val (.int (Int32.ofNat f)), .val (.int (Int32.ofNat t)), .val (.ref bm), .unset, .unset] [(.int (Int32.ofNat t)), (.int (Int32.ofNat f)), (.ref bm)]))
    refine own_by (fun _ kZ => own_dload X100.here hx rfl (hb hby at_180) rfl kZ) ?_
    show own_R p.tables e below _ (T100.setTop (mkF m 182 #[.val (.int p1), .val (.int p2), .val (.int p3), .val (.int p4), .val (.int p5), .val (.int (Int32.ofNat 3)), .val (.int vi), .val (.int v0), .val (.int v1), .val (.int v2), .val (.int v3), .val (.int v4), .val (.double (FP.i2d bd)), .second, .val (.int (Int32.ofNat f)), .val (.int (Int32.ofNat t)), .val (.ref bm), .unset, .unset] [(.double (FP.i2d bd)), (.int (Int32.ofNat t)), (.int (Int32.ofNat f)), (.ref bm)]))
    have WT : own_MT Z T100.heap n0 bm b 3 (own_tree own_min 3 v0 v1 v2 v3 v4 vi) := by rw [own_tr3]; exact W100
    obtain ⟨cq103, kq103, q103a, q103b, q103c⟩ := isOf hZ rfl f101_bm
    obtain ⟨_, _, ⟨T103, L103, k103, n103⟩, -, X103, ⟨Lc103, hQ103, l103, y103, z103⟩, st103⟩ := X100.virtualBack hx (y := (⟨"com/example/frugal_scheduler/frugalscheduler/planners/MinTree", "firstAtMost", "(IID)I"⟩ : MethodName)) (z := (⟨"com/example/frugal_scheduler/frugalscheduler/planners/MinTree", "firstAtMost", "(IID)I"⟩ : MethodName)) hown (mvT hZ (hw _ (List.mem_of_getElem? (i := 26) rfl))) (mvT hZ (hw _ (List.mem_of_getElem? (i := 27) rfl))) (notFace_of_selects (args := #[]) (mvT hZ (hw _ (List.mem_of_getElem? (i := 29) rfl)))) (mvT hZ (hw _ (List.mem_of_getElem? (i := 29) rfl))) (mvT hZ (hw _ (List.mem_of_getElem? (i := 28) rfl))) (by decide) (backOf (W := 0) (rm5 l Z a0 hw [] bm (Int32.ofNat f) (Int32.ofNat t) (FP.i2d bd) b 3 (own_tree own_min 3 v0 v1 v2 v3 v4 vi) f t bd (own_want (own_le bd v0) (own_le bd v1) (own_le bd v2) (own_le bd v3) (own_le bd v4) f t) T100.heap n0 Z102 WT (by decide) rfl rfl rfl lf lt (own_famB bd v0 v1 v2 v3 v4 vi 3 f t (by decide) (by decide) lf lt)) hZ (hw _ (List.mem_of_getElem? (i := 30) rfl)) (hw _ (List.mem_of_getElem? (i := 3) rfl)) (by decide) (by decide)) q103a q103c (g := (mkF m 182 #[.val (.int p1), .val (.int p2), .val (.int p3), .val (.int p4), .val (.int p5), .val (.int (Int32.ofNat 3)), .val (.int vi), .val (.int v0), .val (.int v1), .val (.int v2), .val (.int v3), .val (.int v4), .val (.double (FP.i2d bd)), .second, .val (.int (Int32.ofNat f)), .val (.int (Int32.ofNat t)), .val (.ref bm), .unset, .unset] [(.double (FP.i2d bd)), (.int (Int32.ofNat t)), (.int (Int32.ofNat f)), (.ref bm)])) rfl (by rw [hml]; rfl) (Steps.refl _) (argsL := [(.int (Int32.ofNat f)), (.int (Int32.ofNat t)), (.double (FP.i2d bd))]) (rest := []) (lenOf own_pd3 rfl) rfl (by show 2 * 0 + _ ≤ _; exact Nat.le_of_eq rfl) (hb hby at_182) (fun _ _ => ⟨rfl, rfl, (by decide : 2 + 0 ≤ _), (by decide : 19 + 0 ≤ _)⟩)
    dsimp only [Pt.U, Pt.locs, Pt.cells, Pt.slots] at X103 l103 y103 z103 st103 hQ103
    subst l103 y103 z103
    obtain ⟨rfl, Nq103, e103⟩ := hQ103
    have N103 := Fr.app N100 Nq103
    refine own_by (fun _ kZ => st103.trans kZ) ?_
    show own_R p.tables e below _ (T103.setTop (mkF m 185 #[.val (.int p1), .val (.int p2), .val (.int p3), .val (.int p4), .val (.int p5), .val (.int (Int32.ofNat 3)), .val (.int vi), .val (.int v0), .val (.int v1), .val (.int v2), .val (.int v3), .val (.int v4), .val (.double (FP.i2d bd)), .second, .val (.int (Int32.ofNat f)), .val (.int (Int32.ofNat t)), .val (.ref bm), .unset, .unset] [(.int (own_want (own_le bd v0) (own_le bd v1) (own_le bd v2) (own_le bd v3) (own_le bd v4) f t))]))
    refine own_by (fun _ kZ => XS.istore X103.here hx rfl (hb hby at_185) rfl (l' := #[.val (.int p1), .val (.int p2), .val (.int p3), .val (.int p4), .val (.int p5), .val (.int (Int32.ofNat 3)), .val (.int vi), .val (.int v0), .val (.int v1), .val (.int v2), .val (.int v3), .val (.int v4), .val (.double (FP.i2d bd)), .second, .val (.int (Int32.ofNat f)), .val (.int (Int32.ofNat t)), .val (.ref bm), .val (.int (own_want (own_le bd v0) (own_le bd v1) (own_le bd v2) (own_le bd v3) (own_le bd v4) f t)), .unset]) rfl kZ) ?_
    show own_R p.tables e below _ (T103.setTop (mkF m 187 #[.val (.int p1), .val (.int p2), .val (.int p3), .val (.int p4), .val (.int p5), .val (.int (Int32.ofNat 3)), .val (.int vi), .val (.int v0), .val (.int v1), .val (.int v2), .val (.int v3), .val (.int v4), .val (.double (FP.i2d bd)), .second, .val (.int (Int32.ofNat f)), .val (.int (Int32.ofNat t)), .val (.ref bm), .val (.int (own_want (own_le bd v0) (own_le bd v1) (own_le bd v2) (own_le bd v3) (own_le bd v4) f t)), .unset] []))
    refine own_by (fun _ kZ => XS.iconst X103.here hx rfl (hb hby at_187) kZ) ?_
    show own_R p.tables e below _ (T103.setTop (mkF m 188 #[.val (.int p1), .val (.int p2), .val (.int p3), .val (.int p4), .val (.int p5), .val (.int (Int32.ofNat 3)), .val (.int vi), .val (.int v0), .val (.int v1), .val (.int v2), .val (.int v3), .val (.int v4), .val (.double (FP.i2d bd)), .second, .val (.int (Int32.ofNat f)), .val (.int (Int32.ofNat t)), .val (.ref bm), .val (.int (own_want (own_le bd v0) (own_le bd v1) (own_le bd v2) (own_le bd v3) (own_le bd v4) f t)), .unset] [(.int (-1 : Int32))]))
    refine own_by (fun _ kZ => XS.istore X103.here hx rfl (hb hby at_188) rfl (l' := #[.val (.int p1), .val (.int p2), .val (.int p3), .val (.int p4), .val (.int p5), .val (.int (Int32.ofNat 3)), .val (.int vi), .val (.int v0), .val (.int v1), .val (.int v2), .val (.int v3), .val (.int v4), .val (.double (FP.i2d bd)), .second, .val (.int (Int32.ofNat f)), .val (.int (Int32.ofNat t)), .val (.ref bm), .val (.int (own_want (own_le bd v0) (own_le bd v1) (own_le bd v2) (own_le bd v3) (own_le bd v4) f t)), .val (.int (-1 : Int32))]) rfl kZ) ?_
    show own_R p.tables e below _ (T103.setTop (mkF m 190 #[.val (.int p1), .val (.int p2), .val (.int p3), .val (.int p4), .val (.int p5), .val (.int (Int32.ofNat 3)), .val (.int vi), .val (.int v0), .val (.int v1), .val (.int v2), .val (.int v3), .val (.int v4), .val (.double (FP.i2d bd)), .second, .val (.int (Int32.ofNat f)), .val (.int (Int32.ofNat t)), .val (.ref bm), .val (.int (own_want (own_le bd v0) (own_le bd v1) (own_le bd v2) (own_le bd v3) (own_le bd v4) f t)), .val (.int (-1 : Int32))] []))
    refine own_by (fun _ kZ => XS.iconst X103.here hx rfl (hb hby at_190) kZ) ?_
    show own_R p.tables e below _ (T103.setTop (mkF m 191 #[.val (.int p1), .val (.int p2), .val (.int p3), .val (.int p4), .val (.int p5), .val (.int (Int32.ofNat 3)), .val (.int vi), .val (.int v0), .val (.int v1), .val (.int v2), .val (.int v3), .val (.int v4), .val (.double (FP.i2d bd)), .second, .val (.int (Int32.ofNat f)), .val (.int (Int32.ofNat t)), .val (.ref bm), .val (.int (own_want (own_le bd v0) (own_le bd v1) (own_le bd v2) (own_le bd v3) (own_le bd v4) f t)), .val (.int (-1 : Int32))] [(.int (4 : Int32))]))
    refine own_by (fun _ kZ => XS.iload X103.here hx rfl (hb hby at_191) rfl kZ) ?_
    show own_R p.tables e below _ (T103.setTop (mkF m 193 #[.val (.int p1), .val (.int p2), .val (.int p3), .val (.int p4), .val (.int p5), .val (.int (Int32.ofNat 3)), .val (.int vi), .val (.int v0), .val (.int v1), .val (.int v2), .val (.int v3), .val (.int v4), .val (.double (FP.i2d bd)), .second, .val (.int (Int32.ofNat f)), .val (.int (Int32.ofNat t)), .val (.ref bm), .val (.int (own_want (own_le bd v0) (own_le bd v1) (own_le bd v2) (own_le bd v3) (own_le bd v4) f t)), .val (.int (-1 : Int32))] [(.int v4), (.int (4 : Int32))]))
    refine own_by (fun _ kZ => XS.iload X103.here hx rfl (hb hby at_193) rfl kZ) ?_
    show own_R p.tables e below _ (T103.setTop (mkF m 195 #[.val (.int p1), .val (.int p2), .val (.int p3), .val (.int p4), .val (.int p5), .val (.int (Int32.ofNat 3)), .val (.int vi), .val (.int v0), .val (.int v1), .val (.int v2), .val (.int v3), .val (.int v4), .val (.double (FP.i2d bd)), .second, .val (.int (Int32.ofNat f)), .val (.int (Int32.ofNat t)), .val (.ref bm), .val (.int (own_want (own_le bd v0) (own_le bd v1) (own_le bd v2) (own_le bd v3) (own_le bd v4) f t)), .val (.int (-1 : Int32))] [(.int (Int32.ofNat f)), (.int v4), (.int (4 : Int32))]))
    refine own_by (fun _ kZ => XS.iload X103.here hx rfl (hb hby at_195) rfl kZ) ?_
    show own_R p.tables e below _ (T103.setTop (mkF m 197 #[.val (.int p1), .val (.int p2), .val (.int p3), .val (.int p4), .val (.int p5), .val (.int (Int32.ofNat 3)), .val (.int vi), .val (.int v0), .val (.int v1), .val (.int v2), .val (.int v3), .val (.int v4), .val (.double (FP.i2d bd)), .second, .val (.int (Int32.ofNat f)), .val (.int (Int32.ofNat t)), .val (.ref bm), .val (.int (own_want (own_le bd v0) (own_le bd v1) (own_le bd v2) (own_le bd v3) (own_le bd v4) f t)), .val (.int (-1 : Int32))] [(.int (Int32.ofNat t)), (.int (Int32.ofNat f)), (.int v4), (.int (4 : Int32))]))
    refine own_by (fun _ kZ => own_dload X103.here hx rfl (hb hby at_197) rfl kZ) ?_
    show own_R p.tables e below _ (T103.setTop (mkF m 199 #[.val (.int p1), .val (.int p2), .val (.int p3), .val (.int p4), .val (.int p5), .val (.int (Int32.ofNat 3)), .val (.int vi), .val (.int v0), .val (.int v1), .val (.int v2), .val (.int v3), .val (.int v4), .val (.double (FP.i2d bd)), .second, .val (.int (Int32.ofNat f)), .val (.int (Int32.ofNat t)), .val (.ref bm), .val (.int (own_want (own_le bd v0) (own_le bd v1) (own_le bd v2) (own_le bd v3) (own_le bd v4) f t)), .val (.int (-1 : Int32))] [(.double (FP.i2d bd)), (.int (Int32.ofNat t)), (.int (Int32.ofNat f)), (.int v4), (.int (4 : Int32))]))
    obtain ⟨_, _, ⟨T104, L104, k104, n104⟩, -, X104, ⟨Lc104, hQ104, l104, y104, z104⟩, st104⟩ := Jvm.LawKit.callS X103 hx (y := (⟨"com/example/frugal_scheduler/frugalscheduler/planners/MinTreeFirstAtMostPinLaw", "hit", "(IIIID)Z"⟩ : MethodName)) hown (mvT hZ (hw _ (List.mem_of_getElem? (i := 31) rfl))) (mvT hZ (hw _ (List.mem_of_getElem? (i := 32) rfl))) (mvT hZ (hw _ (List.mem_of_getElem? (i := 33) rfl))) (mvT hZ (hw _ (List.mem_of_getElem? (i := 34) rfl))) (by decide) (backOf (W := 0) (rm6 l Z a0 hw [] (4 : Int32) v4 (Int32.ofNat f) (Int32.ofNat t) (FP.i2d bd) bd T100.heap n0 Z102 rfl) hZ (hw _ (List.mem_of_getElem? (i := 34) rfl)) (hw _ (List.mem_of_getElem? (i := 33) rfl)) (by decide) (by decide)) (g := (mkF m 199 #[.val (.int p1), .val (.int p2), .val (.int p3), .val (.int p4), .val (.int p5), .val (.int (Int32.ofNat 3)), .val (.int vi), .val (.int v0), .val (.int v1), .val (.int v2), .val (.int v3), .val (.int v4), .val (.double (FP.i2d bd)), .second, .val (.int (Int32.ofNat f)), .val (.int (Int32.ofNat t)), .val (.ref bm), .val (.int (own_want (own_le bd v0) (own_le bd v1) (own_le bd v2) (own_le bd v3) (own_le bd v4) f t)), .val (.int (-1 : Int32))] [(.double (FP.i2d bd)), (.int (Int32.ofNat t)), (.int (Int32.ofNat f)), (.int v4), (.int (4 : Int32))])) rfl (by rw [hml]; rfl) (argsL := [(.int (4 : Int32)), (.int v4), (.int (Int32.ofNat f)), (.int (Int32.ofNat t)), (.double (FP.i2d bd))]) (rest := []) (lenOf own_pd4 rfl) rfl (by show 2 * 0 + _ ≤ _; exact Nat.le_of_eq rfl) (hb hby at_199) (fun _ _ => ⟨rfl, e103, (by decide : 2 + 0 ≤ _), (by decide : 19 + 0 ≤ _)⟩)
    dsimp only [Pt.U, Pt.locs, Pt.cells, Pt.slots] at X104 l104 y104 z104 st104 hQ104
    subst l104 y104 z104
    obtain ⟨rfl, Nq104, e104⟩ := hQ104
    have N104 := Fr.app N103 Nq104
    refine own_by st104 ?_
    show own_R p.tables e below _ (T104.setTop (mkF m 202 #[.val (.int p1), .val (.int p2), .val (.int p3), .val (.int p4), .val (.int p5), .val (.int (Int32.ofNat 3)), .val (.int vi), .val (.int v0), .val (.int v1), .val (.int v2), .val (.int v3), .val (.int v4), .val (.double (FP.i2d bd)), .second, .val (.int (Int32.ofNat f)), .val (.int (Int32.ofNat t)), .val (.ref bm), .val (.int (own_want (own_le bd v0) (own_le bd v1) (own_le bd v2) (own_le bd v3) (own_le bd v4) f t)), .val (.int (-1 : Int32))] [(.int (own_hit (4 : Int32) v4 (Int32.ofNat f) (Int32.ofNat t) bd))]))
    obtain ⟨e4, h_e4⟩ : ∃ z : Int32, z = (if (own_hit (4 : Int32) v4 (Int32.ofNat f) (Int32.ofNat t) bd) = (0 : Int32) then (-1 : Int32) else (4 : Int32)) := ⟨_, rfl⟩
    refine own_by (S' := T104.setTop (mkF m 208 #[.val (.int p1), .val (.int p2), .val (.int p3), .val (.int p4), .val (.int p5), .val (.int (Int32.ofNat 3)), .val (.int vi), .val (.int v0), .val (.int v1), .val (.int v2), .val (.int v3), .val (.int v4), .val (.double (FP.i2d bd)), .second, .val (.int (Int32.ofNat f)), .val (.int (Int32.ofNat t)), .val (.ref bm), .val (.int (own_want (own_le bd v0) (own_le bd v1) (own_le bd v2) (own_le bd v3) (own_le bd v4) f t)), .val (.int e4)] [])) (fun _ kZ => ?_) ?_
    · skip
      show Steps p.tables e below (T104.setTop (mkF m 202 #[.val (.int p1), .val (.int p2), .val (.int p3), .val (.int p4), .val (.int p5), .val (.int (Int32.ofNat 3)), .val (.int vi), .val (.int v0), .val (.int v1), .val (.int v2), .val (.int v3), .val (.int v4), .val (.double (FP.i2d bd)), .second, .val (.int (Int32.ofNat f)), .val (.int (Int32.ofNat t)), .val (.ref bm), .val (.int (own_want (own_le bd v0) (own_le bd v1) (own_le bd v2) (own_le bd v3) (own_le bd v4) f t)), .val (.int (-1 : Int32))] [(.int (own_hit (4 : Int32) v4 (Int32.ofNat f) (Int32.ofNat t) bd))])) _
      by_cases hd202 : (own_hit (4 : Int32) v4 (Int32.ofNat f) (Int32.ofNat t) bd) = (0 : Int32)
      · skip
        refine XS.ifYes X104.here hx rfl (pc0 := 202) (pc' := 208) rfl (hb hby at_202) rfl ((if0 _ _).trans (teq hd202).1) (by decide) (by decide) ?_
        show Steps p.tables e below (T104.setTop (mkF m 208 #[.val (.int p1), .val (.int p2), .val (.int p3), .val (.int p4), .val (.int p5), .val (.int (Int32.ofNat 3)), .val (.int vi), .val (.int v0), .val (.int v1), .val (.int v2), .val (.int v3), .val (.int v4), .val (.double (FP.i2d bd)), .second, .val (.int (Int32.ofNat f)), .val (.int (Int32.ofNat t)), .val (.ref bm), .val (.int (own_want (own_le bd v0) (own_le bd v1) (own_le bd v2) (own_le bd v3) (own_le bd v4) f t)), .val (.int (-1 : Int32))] [])) _
        rw [if_pos hd202] at h_e4
        subst h_e4
        exact kZ
      · skip
        refine XS.ifNo X104.here hx rfl (hb hby at_202) rfl ((if0 _ _).trans (feq hd202).1) ?_
        show Steps p.tables e below (T104.setTop (mkF m 205 #[.val (.int p1), .val (.int p2), .val (.int p3), .val (.int p4), .val (.int p5), .val (.int (Int32.ofNat 3)), .val (.int vi), .val (.int v0), .val (.int v1), .val (.int v2), .val (.int v3), .val (.int v4), .val (.double (FP.i2d bd)), .second, .val (.int (Int32.ofNat f)), .val (.int (Int32.ofNat t)), .val (.ref bm), .val (.int (own_want (own_le bd v0) (own_le bd v1) (own_le bd v2) (own_le bd v3) (own_le bd v4) f t)), .val (.int (-1 : Int32))] [])) _
        refine XS.iconst X104.here hx rfl (hb hby at_205) ?_
        show Steps p.tables e below (T104.setTop (mkF m 206 #[.val (.int p1), .val (.int p2), .val (.int p3), .val (.int p4), .val (.int p5), .val (.int (Int32.ofNat 3)), .val (.int vi), .val (.int v0), .val (.int v1), .val (.int v2), .val (.int v3), .val (.int v4), .val (.double (FP.i2d bd)), .second, .val (.int (Int32.ofNat f)), .val (.int (Int32.ofNat t)), .val (.ref bm), .val (.int (own_want (own_le bd v0) (own_le bd v1) (own_le bd v2) (own_le bd v3) (own_le bd v4) f t)), .val (.int (-1 : Int32))] [(.int (4 : Int32))])) _
        refine XS.istore X104.here hx rfl (hb hby at_206) rfl (l' := #[.val (.int p1), .val (.int p2), .val (.int p3), .val (.int p4), .val (.int p5), .val (.int (Int32.ofNat 3)), .val (.int vi), .val (.int v0), .val (.int v1), .val (.int v2), .val (.int v3), .val (.int v4), .val (.double (FP.i2d bd)), .second, .val (.int (Int32.ofNat f)), .val (.int (Int32.ofNat t)), .val (.ref bm), .val (.int (own_want (own_le bd v0) (own_le bd v1) (own_le bd v2) (own_le bd v3) (own_le bd v4) f t)), .val (.int (4 : Int32))]) rfl ?_
        show Steps p.tables e below (T104.setTop (mkF m 208 #[.val (.int p1), .val (.int p2), .val (.int p3), .val (.int p4), .val (.int p5), .val (.int (Int32.ofNat 3)), .val (.int vi), .val (.int v0), .val (.int v1), .val (.int v2), .val (.int v3), .val (.int v4), .val (.double (FP.i2d bd)), .second, .val (.int (Int32.ofNat f)), .val (.int (Int32.ofNat t)), .val (.ref bm), .val (.int (own_want (own_le bd v0) (own_le bd v1) (own_le bd v2) (own_le bd v3) (own_le bd v4) f t)), .val (.int (4 : Int32))] [])) _
        rw [if_neg hd202] at h_e4
        subst h_e4
        exact kZ
    show own_R p.tables e below _ (T104.setTop (mkF m 208 #[.val (.int p1), .val (.int p2), .val (.int p3), .val (.int p4), .val (.int p5), .val (.int (Int32.ofNat 3)), .val (.int vi), .val (.int v0), .val (.int v1), .val (.int v2), .val (.int v3), .val (.int v4), .val (.double (FP.i2d bd)), .second, .val (.int (Int32.ofNat f)), .val (.int (Int32.ofNat t)), .val (.ref bm), .val (.int (own_want (own_le bd v0) (own_le bd v1) (own_le bd v2) (own_le bd v3) (own_le bd v4) f t)), .val (.int e4)] []))
    refine own_by (fun _ kZ => XS.iconst X104.here hx rfl (hb hby at_208) kZ) ?_
    show own_R p.tables e below _ (T104.setTop (mkF m 209 #[.val (.int p1), .val (.int p2), .val (.int p3), .val (.int p4), .val (.int p5), .val (.int (Int32.ofNat 3)), .val (.int vi), .val (.int v0), .val (.int v1), .val (.int v2), .val (.int v3), .val (.int v4), .val (.double (FP.i2d bd)), .second, .val (.int (Int32.ofNat f)), .val (.int (Int32.ofNat t)), .val (.ref bm), .val (.int (own_want (own_le bd v0) (own_le bd v1) (own_le bd v2) (own_le bd v3) (own_le bd v4) f t)), .val (.int e4)] [(.int (3 : Int32))]))
    refine own_by (fun _ kZ => XS.iload X104.here hx rfl (hb hby at_209) rfl kZ) ?_
    show own_R p.tables e below _ (T104.setTop (mkF m 211 #[.val (.int p1), .val (.int p2), .val (.int p3), .val (.int p4), .val (.int p5), .val (.int (Int32.ofNat 3)), .val (.int vi), .val (.int v0), .val (.int v1), .val (.int v2), .val (.int v3), .val (.int v4), .val (.double (FP.i2d bd)), .second, .val (.int (Int32.ofNat f)), .val (.int (Int32.ofNat t)), .val (.ref bm), .val (.int (own_want (own_le bd v0) (own_le bd v1) (own_le bd v2) (own_le bd v3) (own_le bd v4) f t)), .val (.int e4)] [(.int v3), (.int (3 : Int32))]))
    refine own_by (fun _ kZ => XS.iload X104.here hx rfl (hb hby at_211) rfl kZ) ?_
    show own_R p.tables e below _ (T104.setTop (mkF m 213 #[.val (.int p1), .val (.int p2), .val (.int p3), .val (.int p4), .val (.int p5), .val (.int (Int32.ofNat 3)), .val (.int vi), .val (.int v0), .val (.int v1), .val (.int v2), .val (.int v3), .val (.int v4), .val (.double (FP.i2d bd)), .second, .val (.int (Int32.ofNat f)), .val (.int (Int32.ofNat t)), .val (.ref bm), .val (.int (own_want (own_le bd v0) (own_le bd v1) (own_le bd v2) (own_le bd v3) (own_le bd v4) f t)), .val (.int e4)] [(.int (Int32.ofNat f)), (.int v3), (.int (3 : Int32))]))
    refine own_by (fun _ kZ => XS.iload X104.here hx rfl (hb hby at_213) rfl kZ) ?_
    show own_R p.tables e below _ (T104.setTop (mkF m 215 #[.val (.int p1), .val (.int p2), .val (.int p3), .val (.int p4), .val (.int p5), .val (.int (Int32.ofNat 3)), .val (.int vi), .val (.int v0), .val (.int v1), .val (.int v2), .val (.int v3), .val (.int v4), .val (.double (FP.i2d bd)), .second, .val (.int (Int32.ofNat f)), .val (.int (Int32.ofNat t)), .val (.ref bm), .val (.int (own_want (own_le bd v0) (own_le bd v1) (own_le bd v2) (own_le bd v3) (own_le bd v4) f t)), .val (.int e4)] [(.int (Int32.ofNat t)), (.int (Int32.ofNat f)), (.int v3), (.int (3 : Int32))]))
    refine own_by (fun _ kZ => own_dload X104.here hx rfl (hb hby at_215) rfl kZ) ?_
    show own_R p.tables e below _ (T104.setTop (mkF m 217 #[.val (.int p1), .val (.int p2), .val (.int p3), .val (.int p4), .val (.int p5), .val (.int (Int32.ofNat 3)), .val (.int vi), .val (.int v0), .val (.int v1), .val (.int v2), .val (.int v3), .val (.int v4), .val (.double (FP.i2d bd)), .second, .val (.int (Int32.ofNat f)), .val (.int (Int32.ofNat t)), .val (.ref bm), .val (.int (own_want (own_le bd v0) (own_le bd v1) (own_le bd v2) (own_le bd v3) (own_le bd v4) f t)), .val (.int e4)] [(.double (FP.i2d bd)), (.int (Int32.ofNat t)), (.int (Int32.ofNat f)), (.int v3), (.int (3 : Int32))]))
    obtain ⟨_, _, ⟨T105, L105, k105, n105⟩, -, X105, ⟨Lc105, hQ105, l105, y105, z105⟩, st105⟩ := Jvm.LawKit.callS X104 hx (y := (⟨"com/example/frugal_scheduler/frugalscheduler/planners/MinTreeFirstAtMostPinLaw", "hit", "(IIIID)Z"⟩ : MethodName)) hown (mvT hZ (hw _ (List.mem_of_getElem? (i := 31) rfl))) (mvT hZ (hw _ (List.mem_of_getElem? (i := 32) rfl))) (mvT hZ (hw _ (List.mem_of_getElem? (i := 33) rfl))) (mvT hZ (hw _ (List.mem_of_getElem? (i := 34) rfl))) (by decide) (backOf (W := 0) (rm6 l Z a0 hw [] (3 : Int32) v3 (Int32.ofNat f) (Int32.ofNat t) (FP.i2d bd) bd T100.heap n0 Z102 rfl) hZ (hw _ (List.mem_of_getElem? (i := 34) rfl)) (hw _ (List.mem_of_getElem? (i := 33) rfl)) (by decide) (by decide)) (g := (mkF m 217 #[.val (.int p1), .val (.int p2), .val (.int p3), .val (.int p4), .val (.int p5), .val (.int (Int32.ofNat 3)), .val (.int vi), .val (.int v0), .val (.int v1), .val (.int v2), .val (.int v3), .val (.int v4), .val (.double (FP.i2d bd)), .second, .val (.int (Int32.ofNat f)), .val (.int (Int32.ofNat t)), .val (.ref bm), .val (.int (own_want (own_le bd v0) (own_le bd v1) (own_le bd v2) (own_le bd v3) (own_le bd v4) f t)), .val (.int e4)] [(.double (FP.i2d bd)), (.int (Int32.ofNat t)), (.int (Int32.ofNat f)), (.int v3), (.int (3 : Int32))])) rfl (by rw [hml]; rfl) (argsL := [(.int (3 : Int32)), (.int v3), (.int (Int32.ofNat f)), (.int (Int32.ofNat t)), (.double (FP.i2d bd))]) (rest := []) (lenOf own_pd4 rfl) rfl (by show 2 * 0 + _ ≤ _; exact Nat.le_of_eq rfl) (hb hby at_217) (fun _ _ => ⟨rfl, e104, (by decide : 2 + 0 ≤ _), (by decide : 19 + 0 ≤ _)⟩)
    dsimp only [Pt.U, Pt.locs, Pt.cells, Pt.slots] at X105 l105 y105 z105 st105 hQ105
    subst l105 y105 z105
    obtain ⟨rfl, Nq105, e105⟩ := hQ105
    have N105 := Fr.app N104 Nq105
    refine own_by st105 ?_
    show own_R p.tables e below _ (T105.setTop (mkF m 220 #[.val (.int p1), .val (.int p2), .val (.int p3), .val (.int p4), .val (.int p5), .val (.int (Int32.ofNat 3)), .val (.int vi), .val (.int v0), .val (.int v1), .val (.int v2), .val (.int v3), .val (.int v4), .val (.double (FP.i2d bd)), .second, .val (.int (Int32.ofNat f)), .val (.int (Int32.ofNat t)), .val (.ref bm), .val (.int (own_want (own_le bd v0) (own_le bd v1) (own_le bd v2) (own_le bd v3) (own_le bd v4) f t)), .val (.int e4)] [(.int (own_hit (3 : Int32) v3 (Int32.ofNat f) (Int32.ofNat t) bd))]))
    obtain ⟨e3, h_e3⟩ : ∃ z : Int32, z = (if (own_hit (3 : Int32) v3 (Int32.ofNat f) (Int32.ofNat t) bd) = (0 : Int32) then e4 else (3 : Int32)) := ⟨_, rfl⟩
    refine own_by (S' := T105.setTop (mkF m 226 #[.val (.int p1), .val (.int p2), .val (.int p3), .val (.int p4), .val (.int p5), .val (.int (Int32.ofNat 3)), .val (.int vi), .val (.int v0), .val (.int v1), .val (.int v2), .val (.int v3), .val (.int v4), .val (.double (FP.i2d bd)), .second, .val (.int (Int32.ofNat f)), .val (.int (Int32.ofNat t)), .val (.ref bm), .val (.int (own_want (own_le bd v0) (own_le bd v1) (own_le bd v2) (own_le bd v3) (own_le bd v4) f t)), .val (.int e3)] [])) (fun _ kZ => ?_) ?_
    · skip
      show Steps p.tables e below (T105.setTop (mkF m 220 #[.val (.int p1), .val (.int p2), .val (.int p3), .val (.int p4), .val (.int p5), .val (.int (Int32.ofNat 3)), .val (.int vi), .val (.int v0), .val (.int v1), .val (.int v2), .val (.int v3), .val (.int v4), .val (.double (FP.i2d bd)), .second, .val (.int (Int32.ofNat f)), .val (.int (Int32.ofNat t)), .val (.ref bm), .val (.int (own_want (own_le bd v0) (own_le bd v1) (own_le bd v2) (own_le bd v3) (own_le bd v4) f t)), .val (.int e4)] [(.int (own_hit (3 : Int32) v3 (Int32.ofNat f) (Int32.ofNat t) bd))])) _
      by_cases hd220 : (own_hit (3 : Int32) v3 (Int32.ofNat f) (Int32.ofNat t) bd) = (0 : Int32)
      · skip
        refine XS.ifYes X105.here hx rfl (pc0 := 220) (pc' := 226) rfl (hb hby at_220) rfl ((if0 _ _).trans (teq hd220).1) (by decide) (by decide) ?_
        show Steps p.tables e below (T105.setTop (mkF m 226 #[.val (.int p1), .val (.int p2), .val (.int p3), .val (.int p4), .val (.int p5), .val (.int (Int32.ofNat 3)), .val (.int vi), .val (.int v0), .val (.int v1), .val (.int v2), .val (.int v3), .val (.int v4), .val (.double (FP.i2d bd)), .second, .val (.int (Int32.ofNat f)), .val (.int (Int32.ofNat t)), .val (.ref bm), .val (.int (own_want (own_le bd v0) (own_le bd v1) (own_le bd v2) (own_le bd v3) (own_le bd v4) f t)), .val (.int e4)] [])) _
        rw [if_pos hd220] at h_e3
        subst h_e3
        exact kZ
      · skip
        refine XS.ifNo X105.here hx rfl (hb hby at_220) rfl ((if0 _ _).trans (feq hd220).1) ?_
        show Steps p.tables e below (T105.setTop (mkF m 223 #[.val (.int p1), .val (.int p2), .val (.int p3), .val (.int p4), .val (.int p5), .val (.int (Int32.ofNat 3)), .val (.int vi), .val (.int v0), .val (.int v1), .val (.int v2), .val (.int v3), .val (.int v4), .val (.double (FP.i2d bd)), .second, .val (.int (Int32.ofNat f)), .val (.int (Int32.ofNat t)), .val (.ref bm), .val (.int (own_want (own_le bd v0) (own_le bd v1) (own_le bd v2) (own_le bd v3) (own_le bd v4) f t)), .val (.int e4)] [])) _
        refine XS.iconst X105.here hx rfl (hb hby at_223) ?_
        show Steps p.tables e below (T105.setTop (mkF m 224 #[.val (.int p1), .val (.int p2), .val (.int p3), .val (.int p4), .val (.int p5), .val (.int (Int32.ofNat 3)), .val (.int vi), .val (.int v0), .val (.int v1), .val (.int v2), .val (.int v3), .val (.int v4), .val (.double (FP.i2d bd)), .second, .val (.int (Int32.ofNat f)), .val (.int (Int32.ofNat t)), .val (.ref bm), .val (.int (own_want (own_le bd v0) (own_le bd v1) (own_le bd v2) (own_le bd v3) (own_le bd v4) f t)), .val (.int e4)] [(.int (3 : Int32))])) _
        refine XS.istore X105.here hx rfl (hb hby at_224) rfl (l' := #[.val (.int p1), .val (.int p2), .val (.int p3), .val (.int p4), .val (.int p5), .val (.int (Int32.ofNat 3)), .val (.int vi), .val (.int v0), .val (.int v1), .val (.int v2), .val (.int v3), .val (.int v4), .val (.double (FP.i2d bd)), .second, .val (.int (Int32.ofNat f)), .val (.int (Int32.ofNat t)), .val (.ref bm), .val (.int (own_want (own_le bd v0) (own_le bd v1) (own_le bd v2) (own_le bd v3) (own_le bd v4) f t)), .val (.int (3 : Int32))]) rfl ?_
        show Steps p.tables e below (T105.setTop (mkF m 226 #[.val (.int p1), .val (.int p2), .val (.int p3), .val (.int p4), .val (.int p5), .val (.int (Int32.ofNat 3)), .val (.int vi), .val (.int v0), .val (.int v1), .val (.int v2), .val (.int v3), .val (.int v4), .val (.double (FP.i2d bd)), .second, .val (.int (Int32.ofNat f)), .val (.int (Int32.ofNat t)), .val (.ref bm), .val (.int (own_want (own_le bd v0) (own_le bd v1) (own_le bd v2) (own_le bd v3) (own_le bd v4) f t)), .val (.int (3 : Int32))] [])) _
        rw [if_neg hd220] at h_e3
        subst h_e3
        exact kZ
    show own_R p.tables e below _ (T105.setTop (mkF m 226 #[.val (.int p1), .val (.int p2), .val (.int p3), .val (.int p4), .val (.int p5), .val (.int (Int32.ofNat 3)), .val (.int vi), .val (.int v0), .val (.int v1), .val (.int v2), .val (.int v3), .val (.int v4), .val (.double (FP.i2d bd)), .second, .val (.int (Int32.ofNat f)), .val (.int (Int32.ofNat t)), .val (.ref bm), .val (.int (own_want (own_le bd v0) (own_le bd v1) (own_le bd v2) (own_le bd v3) (own_le bd v4) f t)), .val (.int e3)] []))
    refine own_by (fun _ kZ => XS.iconst X105.here hx rfl (hb hby at_226) kZ) ?_
    show own_R p.tables e below _ (T105.setTop (mkF m 227 #[.val (.int p1), .val (.int p2), .val (.int p3), .val (.int p4), .val (.int p5), .val (.int (Int32.ofNat 3)), .val (.int vi), .val (.int v0), .val (.int v1), .val (.int v2), .val (.int v3), .val (.int v4), .val (.double (FP.i2d bd)), .second, .val (.int (Int32.ofNat f)), .val (.int (Int32.ofNat t)), .val (.ref bm), .val (.int (own_want (own_le bd v0) (own_le bd v1) (own_le bd v2) (own_le bd v3) (own_le bd v4) f t)), .val (.int e3)] [(.int (2 : Int32))]))
    refine own_by (fun _ kZ => XS.iload X105.here hx rfl (hb hby at_227) rfl kZ) ?_
    show own_R p.tables e below _ (T105.setTop (mkF m 229 #[.val (.int p1), .val (.int p2), .val (.int p3), .val (.int p4), .val (.int p5), .val (.int (Int32.ofNat 3)), .val (.int vi), .val (.int v0), .val (.int v1), .val (.int v2), .val (.int v3), .val (.int v4), .val (.double (FP.i2d bd)), .second, .val (.int (Int32.ofNat f)), .val (.int (Int32.ofNat t)), .val (.ref bm), .val (.int (own_want (own_le bd v0) (own_le bd v1) (own_le bd v2) (own_le bd v3) (own_le bd v4) f t)), .val (.int e3)] [(.int v2), (.int (2 : Int32))]))
    refine own_by (fun _ kZ => XS.iload X105.here hx rfl (hb hby at_229) rfl kZ) ?_
    show own_R p.tables e below _ (T105.setTop (mkF m 231 #[.val (.int p1), .val (.int p2), .val (.int p3), .val (.int p4), .val (.int p5), .val (.int (Int32.ofNat 3)), .val (.int vi), .val (.int v0), .val (.int v1), .val (.int v2), .val (.int v3), .val (.int v4), .val (.double (FP.i2d bd)), .second, .val (.int (Int32.ofNat f)), .val (.int (Int32.ofNat t)), .val (.ref bm), .val (.int (own_want (own_le bd v0) (own_le bd v1) (own_le bd v2) (own_le bd v3) (own_le bd v4) f t)), .val (.int e3)] [(.int (Int32.ofNat f)), (.int v2), (.int (2 : Int32))]))
    refine own_by (fun _ kZ => XS.iload X105.here hx rfl (hb hby at_231) rfl kZ) ?_
    show own_R p.tables e below _ (T105.setTop (mkF m 233 #[.val (.int p1), .val (.int p2), .val (.int p3), .val (.int p4), .val (.int p5), .val (.int (Int32.ofNat 3)), .val (.int vi), .val (.int v0), .val (.int v1), .val (.int v2), .val (.int v3), .val (.int v4), .val (.double (FP.i2d bd)), .second, .val (.int (Int32.ofNat f)), .val (.int (Int32.ofNat t)), .val (.ref bm), .val (.int (own_want (own_le bd v0) (own_le bd v1) (own_le bd v2) (own_le bd v3) (own_le bd v4) f t)), .val (.int e3)] [(.int (Int32.ofNat t)), (.int (Int32.ofNat f)), (.int v2), (.int (2 : Int32))]))
    refine own_by (fun _ kZ => own_dload X105.here hx rfl (hb hby at_233) rfl kZ) ?_
    show own_R p.tables e below _ (T105.setTop (mkF m 235 #[.val (.int p1), .val (.int p2), .val (.int p3), .val (.int p4), .val (.int p5), .val (.int (Int32.ofNat 3)), .val (.int vi), .val (.int v0), .val (.int v1), .val (.int v2), .val (.int v3), .val (.int v4), .val (.double (FP.i2d bd)), .second, .val (.int (Int32.ofNat f)), .val (.int (Int32.ofNat t)), .val (.ref bm), .val (.int (own_want (own_le bd v0) (own_le bd v1) (own_le bd v2) (own_le bd v3) (own_le bd v4) f t)), .val (.int e3)] [(.double (FP.i2d bd)), (.int (Int32.ofNat t)), (.int (Int32.ofNat f)), (.int v2), (.int (2 : Int32))]))
    obtain ⟨_, _, ⟨T106, L106, k106, n106⟩, -, X106, ⟨Lc106, hQ106, l106, y106, z106⟩, st106⟩ := Jvm.LawKit.callS X105 hx (y := (⟨"com/example/frugal_scheduler/frugalscheduler/planners/MinTreeFirstAtMostPinLaw", "hit", "(IIIID)Z"⟩ : MethodName)) hown (mvT hZ (hw _ (List.mem_of_getElem? (i := 31) rfl))) (mvT hZ (hw _ (List.mem_of_getElem? (i := 32) rfl))) (mvT hZ (hw _ (List.mem_of_getElem? (i := 33) rfl))) (mvT hZ (hw _ (List.mem_of_getElem? (i := 34) rfl))) (by decide) (backOf (W := 0) (rm6 l Z a0 hw [] (2 : Int32) v2 (Int32.ofNat f) (Int32.ofNat t) (FP.i2d bd) bd T100.heap n0 Z102 rfl) hZ (hw _ (List.mem_of_getElem? (i := 34) rfl)) (hw _ (List.mem_of_getElem? (i := 33) rfl)) (by decide) (by decide)) (g := (mkF m 235 #[.val (.int p1), .val (.int p2), .val (.int p3), .val (.int p4), .val (.int p5), .val (.int (Int32.ofNat 3)), .val (.int vi), .val (.int v0), .val (.int v1), .val (.int v2), .val (.int v3), .val (.int v4), .val (.double (FP.i2d bd)), .second, .val (.int (Int32.ofNat f)), .val (.int (Int32.ofNat t)), .val (.ref bm), .val (.int (own_want (own_le bd v0) (own_le bd v1) (own_le bd v2) (own_le bd v3) (own_le bd v4) f t)), .val (.int e3)] [(.double (FP.i2d bd)), (.int (Int32.ofNat t)), (.int (Int32.ofNat f)), (.int v2), (.int (2 : Int32))])) rfl (by rw [hml]; rfl) (argsL := [(.int (2 : Int32)), (.int v2), (.int (Int32.ofNat f)), (.int (Int32.ofNat t)), (.double (FP.i2d bd))]) (rest := []) (lenOf own_pd4 rfl) rfl (by show 2 * 0 + _ ≤ _; exact Nat.le_of_eq rfl) (hb hby at_235) (fun _ _ => ⟨rfl, e105, (by decide : 2 + 0 ≤ _), (by decide : 19 + 0 ≤ _)⟩)
    dsimp only [Pt.U, Pt.locs, Pt.cells, Pt.slots] at X106 l106 y106 z106 st106 hQ106
    subst l106 y106 z106
    obtain ⟨rfl, Nq106, e106⟩ := hQ106
    have N106 := Fr.app N105 Nq106
    refine own_by st106 ?_
    show own_R p.tables e below _ (T106.setTop (mkF m 238 #[.val (.int p1), .val (.int p2), .val (.int p3), .val (.int p4), .val (.int p5), .val (.int (Int32.ofNat 3)), .val (.int vi), .val (.int v0), .val (.int v1), .val (.int v2), .val (.int v3), .val (.int v4), .val (.double (FP.i2d bd)), .second, .val (.int (Int32.ofNat f)), .val (.int (Int32.ofNat t)), .val (.ref bm), .val (.int (own_want (own_le bd v0) (own_le bd v1) (own_le bd v2) (own_le bd v3) (own_le bd v4) f t)), .val (.int e3)] [(.int (own_hit (2 : Int32) v2 (Int32.ofNat f) (Int32.ofNat t) bd))]))
    obtain ⟨e2, h_e2⟩ : ∃ z : Int32, z = (if (own_hit (2 : Int32) v2 (Int32.ofNat f) (Int32.ofNat t) bd) = (0 : Int32) then e3 else (2 : Int32)) := ⟨_, rfl⟩
    refine own_by (S' := T106.setTop (mkF m 244 #[.val (.int p1), .val (.int p2), .val (.int p3), .val (.int p4), .val (.int p5), .val (.int (Int32.ofNat 3)), .val (.int vi), .val (.int v0), .val (.int v1), .val (.int v2), .val (.int v3), .val (.int v4), .val (.double (FP.i2d bd)), .second, .val (.int (Int32.ofNat f)), .val (.int (Int32.ofNat t)), .val (.ref bm), .val (.int (own_want (own_le bd v0) (own_le bd v1) (own_le bd v2) (own_le bd v3) (own_le bd v4) f t)), .val (.int e2)] [])) (fun _ kZ => ?_) ?_
    · skip
      show Steps p.tables e below (T106.setTop (mkF m 238 #[.val (.int p1), .val (.int p2), .val (.int p3), .val (.int p4), .val (.int p5), .val (.int (Int32.ofNat 3)), .val (.int vi), .val (.int v0), .val (.int v1), .val (.int v2), .val (.int v3), .val (.int v4), .val (.double (FP.i2d bd)), .second, .val (.int (Int32.ofNat f)), .val (.int (Int32.ofNat t)), .val (.ref bm), .val (.int (own_want (own_le bd v0) (own_le bd v1) (own_le bd v2) (own_le bd v3) (own_le bd v4) f t)), .val (.int e3)] [(.int (own_hit (2 : Int32) v2 (Int32.ofNat f) (Int32.ofNat t) bd))])) _
      by_cases hd238 : (own_hit (2 : Int32) v2 (Int32.ofNat f) (Int32.ofNat t) bd) = (0 : Int32)
      · skip
        refine XS.ifYes X106.here hx rfl (pc0 := 238) (pc' := 244) rfl (hb hby at_238) rfl ((if0 _ _).trans (teq hd238).1) (by decide) (by decide) ?_
        show Steps p.tables e below (T106.setTop (mkF m 244 #[.val (.int p1), .val (.int p2), .val (.int p3), .val (.int p4), .val (.int p5), .val (.int (Int32.ofNat 3)), .val (.int vi), .val (.int v0), .val (.int v1), .val (.int v2), .val (.int v3), .val (.int v4), .val (.double (FP.i2d bd)), .second, .val (.int (Int32.ofNat f)), .val (.int (Int32.ofNat t)), .val (.ref bm), .val (.int (own_want (own_le bd v0) (own_le bd v1) (own_le bd v2) (own_le bd v3) (own_le bd v4) f t)), .val (.int e3)] [])) _
        rw [if_pos hd238] at h_e2
        subst h_e2
        exact kZ
      · skip
        refine XS.ifNo X106.here hx rfl (hb hby at_238) rfl ((if0 _ _).trans (feq hd238).1) ?_
        show Steps p.tables e below (T106.setTop (mkF m 241 #[.val (.int p1), .val (.int p2), .val (.int p3), .val (.int p4), .val (.int p5), .val (.int (Int32.ofNat 3)), .val (.int vi), .val (.int v0), .val (.int v1), .val (.int v2), .val (.int v3), .val (.int v4), .val (.double (FP.i2d bd)), .second, .val (.int (Int32.ofNat f)), .val (.int (Int32.ofNat t)), .val (.ref bm), .val (.int (own_want (own_le bd v0) (own_le bd v1) (own_le bd v2) (own_le bd v3) (own_le bd v4) f t)), .val (.int e3)] [])) _
        refine XS.iconst X106.here hx rfl (hb hby at_241) ?_
        show Steps p.tables e below (T106.setTop (mkF m 242 #[.val (.int p1), .val (.int p2), .val (.int p3), .val (.int p4), .val (.int p5), .val (.int (Int32.ofNat 3)), .val (.int vi), .val (.int v0), .val (.int v1), .val (.int v2), .val (.int v3), .val (.int v4), .val (.double (FP.i2d bd)), .second, .val (.int (Int32.ofNat f)), .val (.int (Int32.ofNat t)), .val (.ref bm), .val (.int (own_want (own_le bd v0) (own_le bd v1) (own_le bd v2) (own_le bd v3) (own_le bd v4) f t)), .val (.int e3)] [(.int (2 : Int32))])) _
        refine XS.istore X106.here hx rfl (hb hby at_242) rfl (l' := #[.val (.int p1), .val (.int p2), .val (.int p3), .val (.int p4), .val (.int p5), .val (.int (Int32.ofNat 3)), .val (.int vi), .val (.int v0), .val (.int v1), .val (.int v2), .val (.int v3), .val (.int v4), .val (.double (FP.i2d bd)), .second, .val (.int (Int32.ofNat f)), .val (.int (Int32.ofNat t)), .val (.ref bm), .val (.int (own_want (own_le bd v0) (own_le bd v1) (own_le bd v2) (own_le bd v3) (own_le bd v4) f t)), .val (.int (2 : Int32))]) rfl ?_
        show Steps p.tables e below (T106.setTop (mkF m 244 #[.val (.int p1), .val (.int p2), .val (.int p3), .val (.int p4), .val (.int p5), .val (.int (Int32.ofNat 3)), .val (.int vi), .val (.int v0), .val (.int v1), .val (.int v2), .val (.int v3), .val (.int v4), .val (.double (FP.i2d bd)), .second, .val (.int (Int32.ofNat f)), .val (.int (Int32.ofNat t)), .val (.ref bm), .val (.int (own_want (own_le bd v0) (own_le bd v1) (own_le bd v2) (own_le bd v3) (own_le bd v4) f t)), .val (.int (2 : Int32))] [])) _
        rw [if_neg hd238] at h_e2
        subst h_e2
        exact kZ
    show own_R p.tables e below _ (T106.setTop (mkF m 244 #[.val (.int p1), .val (.int p2), .val (.int p3), .val (.int p4), .val (.int p5), .val (.int (Int32.ofNat 3)), .val (.int vi), .val (.int v0), .val (.int v1), .val (.int v2), .val (.int v3), .val (.int v4), .val (.double (FP.i2d bd)), .second, .val (.int (Int32.ofNat f)), .val (.int (Int32.ofNat t)), .val (.ref bm), .val (.int (own_want (own_le bd v0) (own_le bd v1) (own_le bd v2) (own_le bd v3) (own_le bd v4) f t)), .val (.int e2)] []))
    refine own_by (fun _ kZ => XS.iconst X106.here hx rfl (hb hby at_244) kZ) ?_
    show own_R p.tables e below _ (T106.setTop (mkF m 245 #[.val (.int p1), .val (.int p2), .val (.int p3), .val (.int p4), .val (.int p5), .val (.int (Int32.ofNat 3)), .val (.int vi), .val (.int v0), .val (.int v1), .val (.int v2), .val (.int v3), .val (.int v4), .val (.double (FP.i2d bd)), .second, .val (.int (Int32.ofNat f)), .val (.int (Int32.ofNat t)), .val (.ref bm), .val (.int (own_want (own_le bd v0) (own_le bd v1) (own_le bd v2) (own_le bd v3) (own_le bd v4) f t)), .val (.int e2)] [(.int (1 : Int32))]))
    refine own_by (fun _ kZ => XS.iload X106.here hx rfl (hb hby at_245) rfl kZ) ?_
    show own_R p.tables e below _ (T106.setTop (mkF m 247 #[.val (.int p1), .val (.int p2), .val (.int p3), .val (.int p4), .val (.int p5), .val (.int (Int32.ofNat 3)), .val (.int vi), .val (.int v0), .val (.int v1), .val (.int v2), .val (.int v3), .val (.int v4), .val (.double (FP.i2d bd)), .second, .val (.int (Int32.ofNat f)), .val (.int (Int32.ofNat t)), .val (.ref bm), .val (.int (own_want (own_le bd v0) (own_le bd v1) (own_le bd v2) (own_le bd v3) (own_le bd v4) f t)), .val (.int e2)] [(.int v1), (.int (1 : Int32))]))
    refine own_by (fun _ kZ => XS.iload X106.here hx rfl (hb hby at_247) rfl kZ) ?_
    show own_R p.tables e below _ (T106.setTop (mkF m 249 #[.val (.int p1), .val (.int p2), .val (.int p3), .val (.int p4), .val (.int p5), .val (.int (Int32.ofNat 3)), .val (.int vi), .val (.int v0), .val (.int v1), .val (.int v2), .val (.int v3), .val (.int v4), .val (.double (FP.i2d bd)), .second, .val (.int (Int32.ofNat f)), .val (.int (Int32.ofNat t)), .val (.ref bm), .val (.int (own_want (own_le bd v0) (own_le bd v1) (own_le bd v2) (own_le bd v3) (own_le bd v4) f t)), .val (.int e2)] [(.int (Int32.ofNat f)), (.int v1), (.int (1 : Int32))]))
    refine own_by (fun _ kZ => XS.iload X106.here hx rfl (hb hby at_249) rfl kZ) ?_
    show own_R p.tables e below _ (T106.setTop (mkF m 251 #[.val (.int p1), .val (.int p2), .val (.int p3), .val (.int p4), .val (.int p5), .val (.int (Int32.ofNat 3)), .val (.int vi), .val (.int v0), .val (.int v1), .val (.int v2), .val (.int v3), .val (.int v4), .val (.double (FP.i2d bd)), .second, .val (.int (Int32.ofNat f)), .val (.int (Int32.ofNat t)), .val (.ref bm), .val (.int (own_want (own_le bd v0) (own_le bd v1) (own_le bd v2) (own_le bd v3) (own_le bd v4) f t)), .val (.int e2)] [(.int (Int32.ofNat t)), (.int (Int32.ofNat f)), (.int v1), (.int (1 : Int32))]))
    refine own_by (fun _ kZ => own_dload X106.here hx rfl (hb hby at_251) rfl kZ) ?_
    show own_R p.tables e below _ (T106.setTop (mkF m 253 #[.val (.int p1), .val (.int p2), .val (.int p3), .val (.int p4), .val (.int p5), .val (.int (Int32.ofNat 3)), .val (.int vi), .val (.int v0), .val (.int v1), .val (.int v2), .val (.int v3), .val (.int v4), .val (.double (FP.i2d bd)), .second, .val (.int (Int32.ofNat f)), .val (.int (Int32.ofNat t)), .val (.ref bm), .val (.int (own_want (own_le bd v0) (own_le bd v1) (own_le bd v2) (own_le bd v3) (own_le bd v4) f t)), .val (.int e2)] [(.double (FP.i2d bd)), (.int (Int32.ofNat t)), (.int (Int32.ofNat f)), (.int v1), (.int (1 : Int32))]))
    obtain ⟨_, _, ⟨T107, L107, k107, n107⟩, -, X107, ⟨Lc107, hQ107, l107, y107, z107⟩, st107⟩ := Jvm.LawKit.callS X106 hx (y := (⟨"com/example/frugal_scheduler/frugalscheduler/planners/MinTreeFirstAtMostPinLaw", "hit", "(IIIID)Z"⟩ : MethodName)) hown (mvT hZ (hw _ (List.mem_of_getElem? (i := 31) rfl))) (mvT hZ (hw _ (List.mem_of_getElem? (i := 32) rfl))) (mvT hZ (hw _ (List.mem_of_getElem? (i := 33) rfl))) (mvT hZ (hw _ (List.mem_of_getElem? (i := 34) rfl))) (by decide) (backOf (W := 0) (rm6 l Z a0 hw [] (1 : Int32) v1 (Int32.ofNat f) (Int32.ofNat t) (FP.i2d bd) bd T100.heap n0 Z102 rfl) hZ (hw _ (List.mem_of_getElem? (i := 34) rfl)) (hw _ (List.mem_of_getElem? (i := 33) rfl)) (by decide) (by decide)) (g := (mkF m 253 #[.val (.int p1), .val (.int p2), .val (.int p3), .val (.int p4), .val (.int p5), .val (.int (Int32.ofNat 3)), .val (.int vi), .val (.int v0), .val (.int v1), .val (.int v2), .val (.int v3), .val (.int v4), .val (.double (FP.i2d bd)), .second, .val (.int (Int32.ofNat f)), .val (.int (Int32.ofNat t)), .val (.ref bm), .val (.int (own_want (own_le bd v0) (own_le bd v1) (own_le bd v2) (own_le bd v3) (own_le bd v4) f t)), .val (.int e2)] [(.double (FP.i2d bd)), (.int (Int32.ofNat t)), (.int (Int32.ofNat f)), (.int v1), (.int (1 : Int32))])) rfl (by rw [hml]; rfl) (argsL := [(.int (1 : Int32)), (.int v1), (.int (Int32.ofNat f)), (.int (Int32.ofNat t)), (.double (FP.i2d bd))]) (rest := []) (lenOf own_pd4 rfl) rfl (by show 2 * 0 + _ ≤ _; exact Nat.le_of_eq rfl) (hb hby at_253) (fun _ _ => ⟨rfl, e106, (by decide : 2 + 0 ≤ _), (by decide : 19 + 0 ≤ _)⟩)
    dsimp only [Pt.U, Pt.locs, Pt.cells, Pt.slots] at X107 l107 y107 z107 st107 hQ107
    subst l107 y107 z107
    obtain ⟨rfl, Nq107, e107⟩ := hQ107
    have N107 := Fr.app N106 Nq107
    refine own_by st107 ?_
    show own_R p.tables e below _ (T107.setTop (mkF m 256 #[.val (.int p1), .val (.int p2), .val (.int p3), .val (.int p4), .val (.int p5), .val (.int (Int32.ofNat 3)), .val (.int vi), .val (.int v0), .val (.int v1), .val (.int v2), .val (.int v3), .val (.int v4), .val (.double (FP.i2d bd)), .second, .val (.int (Int32.ofNat f)), .val (.int (Int32.ofNat t)), .val (.ref bm), .val (.int (own_want (own_le bd v0) (own_le bd v1) (own_le bd v2) (own_le bd v3) (own_le bd v4) f t)), .val (.int e2)] [(.int (own_hit (1 : Int32) v1 (Int32.ofNat f) (Int32.ofNat t) bd))]))
    obtain ⟨e1, h_e1⟩ : ∃ z : Int32, z = (if (own_hit (1 : Int32) v1 (Int32.ofNat f) (Int32.ofNat t) bd) = (0 : Int32) then e2 else (1 : Int32)) := ⟨_, rfl⟩
    refine own_by (S' := T107.setTop (mkF m 262 #[.val (.int p1), .val (.int p2), .val (.int p3), .val (.int p4), .val (.int p5), .val (.int (Int32.ofNat 3)), .val (.int vi), .val (.int v0), .val (.int v1), .val (.int v2), .val (.int v3), .val (.int v4), .val (.double (FP.i2d bd)), .second, .val (.int (Int32.ofNat f)), .val (.int (Int32.ofNat t)), .val (.ref bm), .val (.int (own_want (own_le bd v0) (own_le bd v1) (own_le bd v2) (own_le bd v3) (own_le bd v4) f t)), .val (.int e1)] [])) (fun _ kZ => ?_) ?_
    · skip
      show Steps p.tables e below (T107.setTop (mkF m 256 #[.val (.int p1), .val (.int p2), .val (.int p3), .val (.int p4), .val (.int p5), .val (.int (Int32.ofNat 3)), .val (.int vi), .val (.int v0), .val (.int v1), .val (.int v2), .val (.int v3), .val (.int v4), .val (.double (FP.i2d bd)), .second, .val (.int (Int32.ofNat f)), .val (.int (Int32.ofNat t)), .val (.ref bm), .val (.int (own_want (own_le bd v0) (own_le bd v1) (own_le bd v2) (own_le bd v3) (own_le bd v4) f t)), .val (.int e2)] [(.int (own_hit (1 : Int32) v1 (Int32.ofNat f) (Int32.ofNat t) bd))])) _
      by_cases hd256 : (own_hit (1 : Int32) v1 (Int32.ofNat f) (Int32.ofNat t) bd) = (0 : Int32)
      · skip
        refine XS.ifYes X107.here hx rfl (pc0 := 256) (pc' := 262) rfl (hb hby at_256) rfl ((if0 _ _).trans (teq hd256).1) (by decide) (by decide) ?_
        show Steps p.tables e below (T107.setTop (mkF m 262 #[.val (.int p1), .val (.int p2), .val (.int p3), .val (.int p4), .val (.int p5), .val (.int (Int32.ofNat 3)), .val (.int vi), .val (.int v0), .val (.int v1), .val (.int v2), .val (.int v3), .val (.int v4), .val (.double (FP.i2d bd)), .second, .val (.int (Int32.ofNat f)), .val (.int (Int32.ofNat t)), .val (.ref bm), .val (.int (own_want (own_le bd v0) (own_le bd v1) (own_le bd v2) (own_le bd v3) (own_le bd v4) f t)), .val (.int e2)] [])) _
        rw [if_pos hd256] at h_e1
        subst h_e1
        exact kZ
      · skip
        refine XS.ifNo X107.here hx rfl (hb hby at_256) rfl ((if0 _ _).trans (feq hd256).1) ?_
        show Steps p.tables e below (T107.setTop (mkF m 259 #[.val (.int p1), .val (.int p2), .val (.int p3), .val (.int p4), .val (.int p5), .val (.int (Int32.ofNat 3)), .val (.int vi), .val (.int v0), .val (.int v1), .val (.int v2), .val (.int v3), .val (.int v4), .val (.double (FP.i2d bd)), .second, .val (.int (Int32.ofNat f)), .val (.int (Int32.ofNat t)), .val (.ref bm), .val (.int (own_want (own_le bd v0) (own_le bd v1) (own_le bd v2) (own_le bd v3) (own_le bd v4) f t)), .val (.int e2)] [])) _
        refine XS.iconst X107.here hx rfl (hb hby at_259) ?_
        show Steps p.tables e below (T107.setTop (mkF m 260 #[.val (.int p1), .val (.int p2), .val (.int p3), .val (.int p4), .val (.int p5), .val (.int (Int32.ofNat 3)), .val (.int vi), .val (.int v0), .val (.int v1), .val (.int v2), .val (.int v3), .val (.int v4), .val (.double (FP.i2d bd)), .second, .val (.int (Int32.ofNat f)), .val (.int (Int32.ofNat t)), .val (.ref bm), .val (.int (own_want (own_le bd v0) (own_le bd v1) (own_le bd v2) (own_le bd v3) (own_le bd v4) f t)), .val (.int e2)] [(.int (1 : Int32))])) _
        refine XS.istore X107.here hx rfl (hb hby at_260) rfl (l' := #[.val (.int p1), .val (.int p2), .val (.int p3), .val (.int p4), .val (.int p5), .val (.int (Int32.ofNat 3)), .val (.int vi), .val (.int v0), .val (.int v1), .val (.int v2), .val (.int v3), .val (.int v4), .val (.double (FP.i2d bd)), .second, .val (.int (Int32.ofNat f)), .val (.int (Int32.ofNat t)), .val (.ref bm), .val (.int (own_want (own_le bd v0) (own_le bd v1) (own_le bd v2) (own_le bd v3) (own_le bd v4) f t)), .val (.int (1 : Int32))]) rfl ?_
        show Steps p.tables e below (T107.setTop (mkF m 262 #[.val (.int p1), .val (.int p2), .val (.int p3), .val (.int p4), .val (.int p5), .val (.int (Int32.ofNat 3)), .val (.int vi), .val (.int v0), .val (.int v1), .val (.int v2), .val (.int v3), .val (.int v4), .val (.double (FP.i2d bd)), .second, .val (.int (Int32.ofNat f)), .val (.int (Int32.ofNat t)), .val (.ref bm), .val (.int (own_want (own_le bd v0) (own_le bd v1) (own_le bd v2) (own_le bd v3) (own_le bd v4) f t)), .val (.int (1 : Int32))] [])) _
        rw [if_neg hd256] at h_e1
        subst h_e1
        exact kZ
    show own_R p.tables e below _ (T107.setTop (mkF m 262 #[.val (.int p1), .val (.int p2), .val (.int p3), .val (.int p4), .val (.int p5), .val (.int (Int32.ofNat 3)), .val (.int vi), .val (.int v0), .val (.int v1), .val (.int v2), .val (.int v3), .val (.int v4), .val (.double (FP.i2d bd)), .second, .val (.int (Int32.ofNat f)), .val (.int (Int32.ofNat t)), .val (.ref bm), .val (.int (own_want (own_le bd v0) (own_le bd v1) (own_le bd v2) (own_le bd v3) (own_le bd v4) f t)), .val (.int e1)] []))
    refine own_by (fun _ kZ => XS.iconst X107.here hx rfl (hb hby at_262) kZ) ?_
    show own_R p.tables e below _ (T107.setTop (mkF m 263 #[.val (.int p1), .val (.int p2), .val (.int p3), .val (.int p4), .val (.int p5), .val (.int (Int32.ofNat 3)), .val (.int vi), .val (.int v0), .val (.int v1), .val (.int v2), .val (.int v3), .val (.int v4), .val (.double (FP.i2d bd)), .second, .val (.int (Int32.ofNat f)), .val (.int (Int32.ofNat t)), .val (.ref bm), .val (.int (own_want (own_le bd v0) (own_le bd v1) (own_le bd v2) (own_le bd v3) (own_le bd v4) f t)), .val (.int e1)] [(.int (0 : Int32))]))
    refine own_by (fun _ kZ => XS.iload X107.here hx rfl (hb hby at_263) rfl kZ) ?_
    show own_R p.tables e below _ (T107.setTop (mkF m 265 #[.val (.int p1), .val (.int p2), .val (.int p3), .val (.int p4), .val (.int p5), .val (.int (Int32.ofNat 3)), .val (.int vi), .val (.int v0), .val (.int v1), .val (.int v2), .val (.int v3), .val (.int v4), .val (.double (FP.i2d bd)), .second, .val (.int (Int32.ofNat f)), .val (.int (Int32.ofNat t)), .val (.ref bm), .val (.int (own_want (own_le bd v0) (own_le bd v1) (own_le bd v2) (own_le bd v3) (own_le bd v4) f t)), .val (.int e1)] [(.int v0), (.int (0 : Int32))]))
    refine own_by (fun _ kZ => XS.iload X107.here hx rfl (hb hby at_265) rfl kZ) ?_
    show own_R p.tables e below _ (T107.setTop (mkF m 267 #[.val (.int p1), .val (.int p2), .val (.int p3), .val (.int p4), .val (.int p5), .val (.int (Int32.ofNat 3)), .val (.int vi), .val (.int v0), .val (.int v1), .val (.int v2), .val (.int v3), .val (.int v4), .val (.double (FP.i2d bd)), .second, .val (.int (Int32.ofNat f)), .val (.int (Int32.ofNat t)), .val (.ref bm), .val (.int (own_want (own_le bd v0) (own_le bd v1) (own_le bd v2) (own_le bd v3) (own_le bd v4) f t)), .val (.int e1)] [(.int (Int32.ofNat f)), (.int v0), (.int (0 : Int32))]))
    refine own_by (fun _ kZ => XS.iload X107.here hx rfl (hb hby at_267) rfl kZ) ?_
    show own_R p.tables e below _ (T107.setTop (mkF m 269 #[.val (.int p1), .val (.int p2), .val (.int p3), .val (.int p4), .val (.int p5), .val (.int (Int32.ofNat 3)), .val (.int vi), .val (.int v0), .val (.int v1), .val (.int v2), .val (.int v3), .val (.int v4), .val (.double (FP.i2d bd)), .second, .val (.int (Int32.ofNat f)), .val (.int (Int32.ofNat t)), .val (.ref bm), .val (.int (own_want (own_le bd v0) (own_le bd v1) (own_le bd v2) (own_le bd v3) (own_le bd v4) f t)), .val (.int e1)] [(.int (Int32.ofNat t)), (.int (Int32.ofNat f)), (.int v0), (.int (0 : Int32))]))
    refine own_by (fun _ kZ => own_dload X107.here hx rfl (hb hby at_269) rfl kZ) ?_
    show own_R p.tables e below _ (T107.setTop (mkF m 271 #[.val (.int p1), .val (.int p2), .val (.int p3), .val (.int p4), .val (.int p5), .val (.int (Int32.ofNat 3)), .val (.int vi), .val (.int v0), .val (.int v1), .val (.int v2), .val (.int v3), .val (.int v4), .val (.double (FP.i2d bd)), .second, .val (.int (Int32.ofNat f)), .val (.int (Int32.ofNat t)), .val (.ref bm), .val (.int (own_want (own_le bd v0) (own_le bd v1) (own_le bd v2) (own_le bd v3) (own_le bd v4) f t)), .val (.int e1)] [(.double (FP.i2d bd)), (.int (Int32.ofNat t)), (.int (Int32.ofNat f)), (.int v0), (.int (0 : Int32))]))
    obtain ⟨_, _, ⟨T108, L108, k108, n108⟩, -, X108, ⟨Lc108, hQ108, l108, y108, z108⟩, st108⟩ := Jvm.LawKit.callS X107 hx (y := (⟨"com/example/frugal_scheduler/frugalscheduler/planners/MinTreeFirstAtMostPinLaw", "hit", "(IIIID)Z"⟩ : MethodName)) hown (mvT hZ (hw _ (List.mem_of_getElem? (i := 31) rfl))) (mvT hZ (hw _ (List.mem_of_getElem? (i := 32) rfl))) (mvT hZ (hw _ (List.mem_of_getElem? (i := 33) rfl))) (mvT hZ (hw _ (List.mem_of_getElem? (i := 34) rfl))) (by decide) (backOf (W := 0) (rm6 l Z a0 hw [] (0 : Int32) v0 (Int32.ofNat f) (Int32.ofNat t) (FP.i2d bd) bd T100.heap n0 Z102 rfl) hZ (hw _ (List.mem_of_getElem? (i := 34) rfl)) (hw _ (List.mem_of_getElem? (i := 33) rfl)) (by decide) (by decide)) (g := (mkF m 271 #[.val (.int p1), .val (.int p2), .val (.int p3), .val (.int p4), .val (.int p5), .val (.int (Int32.ofNat 3)), .val (.int vi), .val (.int v0), .val (.int v1), .val (.int v2), .val (.int v3), .val (.int v4), .val (.double (FP.i2d bd)), .second, .val (.int (Int32.ofNat f)), .val (.int (Int32.ofNat t)), .val (.ref bm), .val (.int (own_want (own_le bd v0) (own_le bd v1) (own_le bd v2) (own_le bd v3) (own_le bd v4) f t)), .val (.int e1)] [(.double (FP.i2d bd)), (.int (Int32.ofNat t)), (.int (Int32.ofNat f)), (.int v0), (.int (0 : Int32))])) rfl (by rw [hml]; rfl) (argsL := [(.int (0 : Int32)), (.int v0), (.int (Int32.ofNat f)), (.int (Int32.ofNat t)), (.double (FP.i2d bd))]) (rest := []) (lenOf own_pd4 rfl) rfl (by show 2 * 0 + _ ≤ _; exact Nat.le_of_eq rfl) (hb hby at_271) (fun _ _ => ⟨rfl, e107, (by decide : 2 + 0 ≤ _), (by decide : 19 + 0 ≤ _)⟩)
    dsimp only [Pt.U, Pt.locs, Pt.cells, Pt.slots] at X108 l108 y108 z108 st108 hQ108
    subst l108 y108 z108
    obtain ⟨rfl, Nq108, e108⟩ := hQ108
    have N108 := Fr.app N107 Nq108
    refine own_by st108 ?_
    show own_R p.tables e below _ (T108.setTop (mkF m 274 #[.val (.int p1), .val (.int p2), .val (.int p3), .val (.int p4), .val (.int p5), .val (.int (Int32.ofNat 3)), .val (.int vi), .val (.int v0), .val (.int v1), .val (.int v2), .val (.int v3), .val (.int v4), .val (.double (FP.i2d bd)), .second, .val (.int (Int32.ofNat f)), .val (.int (Int32.ofNat t)), .val (.ref bm), .val (.int (own_want (own_le bd v0) (own_le bd v1) (own_le bd v2) (own_le bd v3) (own_le bd v4) f t)), .val (.int e1)] [(.int (own_hit (0 : Int32) v0 (Int32.ofNat f) (Int32.ofNat t) bd))]))
    obtain ⟨e0, h_e0⟩ : ∃ z : Int32, z = (if (own_hit (0 : Int32) v0 (Int32.ofNat f) (Int32.ofNat t) bd) = (0 : Int32) then e1 else (0 : Int32)) := ⟨_, rfl⟩
    refine own_by (S' := T108.setTop (mkF m 280 #[.val (.int p1), .val (.int p2), .val (.int p3), .val (.int p4), .val (.int p5), .val (.int (Int32.ofNat 3)), .val (.int vi), .val (.int v0), .val (.int v1), .val (.int v2), .val (.int v3), .val (.int v4), .val (.double (FP.i2d bd)), .second, .val (.int (Int32.ofNat f)), .val (.int (Int32.ofNat t)), .val (.ref bm), .val (.int (own_want (own_le bd v0) (own_le bd v1) (own_le bd v2) (own_le bd v3) (own_le bd v4) f t)), .val (.int e0)] [])) (fun _ kZ => ?_) ?_
    · skip
      show Steps p.tables e below (T108.setTop (mkF m 274 #[.val (.int p1), .val (.int p2), .val (.int p3), .val (.int p4), .val (.int p5), .val (.int (Int32.ofNat 3)), .val (.int vi), .val (.int v0), .val (.int v1), .val (.int v2), .val (.int v3), .val (.int v4), .val (.double (FP.i2d bd)), .second, .val (.int (Int32.ofNat f)), .val (.int (Int32.ofNat t)), .val (.ref bm), .val (.int (own_want (own_le bd v0) (own_le bd v1) (own_le bd v2) (own_le bd v3) (own_le bd v4) f t)), .val (.int e1)] [(.int (own_hit (0 : Int32) v0 (Int32.ofNat f) (Int32.ofNat t) bd))])) _
      by_cases hd274 : (own_hit (0 : Int32) v0 (Int32.ofNat f) (Int32.ofNat t) bd) = (0 : Int32)
      · skip
        refine XS.ifYes X108.here hx rfl (pc0 := 274) (pc' := 280) rfl (hb hby at_274) rfl ((if0 _ _).trans (teq hd274).1) (by decide) (by decide) ?_
        show Steps p.tables e below (T108.setTop (mkF m 280 #[.val (.int p1), .val (.int p2), .val (.int p3), .val (.int p4), .val (.int p5), .val (.int (Int32.ofNat 3)), .val (.int vi), .val (.int v0), .val (.int v1), .val (.int v2), .val (.int v3), .val (.int v4), .val (.double (FP.i2d bd)), .second, .val (.int (Int32.ofNat f)), .val (.int (Int32.ofNat t)), .val (.ref bm), .val (.int (own_want (own_le bd v0) (own_le bd v1) (own_le bd v2) (own_le bd v3) (own_le bd v4) f t)), .val (.int e1)] [])) _
        rw [if_pos hd274] at h_e0
        subst h_e0
        exact kZ
      · skip
        refine XS.ifNo X108.here hx rfl (hb hby at_274) rfl ((if0 _ _).trans (feq hd274).1) ?_
        show Steps p.tables e below (T108.setTop (mkF m 277 #[.val (.int p1), .val (.int p2), .val (.int p3), .val (.int p4), .val (.int p5), .val (.int (Int32.ofNat 3)), .val (.int vi), .val (.int v0), .val (.int v1), .val (.int v2), .val (.int v3), .val (.int v4), .val (.double (FP.i2d bd)), .second, .val (.int (Int32.ofNat f)), .val (.int (Int32.ofNat t)), .val (.ref bm), .val (.int (own_want (own_le bd v0) (own_le bd v1) (own_le bd v2) (own_le bd v3) (own_le bd v4) f t)), .val (.int e1)] [])) _
        refine XS.iconst X108.here hx rfl (hb hby at_277) ?_
        show Steps p.tables e below (T108.setTop (mkF m 278 #[.val (.int p1), .val (.int p2), .val (.int p3), .val (.int p4), .val (.int p5), .val (.int (Int32.ofNat 3)), .val (.int vi), .val (.int v0), .val (.int v1), .val (.int v2), .val (.int v3), .val (.int v4), .val (.double (FP.i2d bd)), .second, .val (.int (Int32.ofNat f)), .val (.int (Int32.ofNat t)), .val (.ref bm), .val (.int (own_want (own_le bd v0) (own_le bd v1) (own_le bd v2) (own_le bd v3) (own_le bd v4) f t)), .val (.int e1)] [(.int (0 : Int32))])) _
        refine XS.istore X108.here hx rfl (hb hby at_278) rfl (l' := #[.val (.int p1), .val (.int p2), .val (.int p3), .val (.int p4), .val (.int p5), .val (.int (Int32.ofNat 3)), .val (.int vi), .val (.int v0), .val (.int v1), .val (.int v2), .val (.int v3), .val (.int v4), .val (.double (FP.i2d bd)), .second, .val (.int (Int32.ofNat f)), .val (.int (Int32.ofNat t)), .val (.ref bm), .val (.int (own_want (own_le bd v0) (own_le bd v1) (own_le bd v2) (own_le bd v3) (own_le bd v4) f t)), .val (.int (0 : Int32))]) rfl ?_
        show Steps p.tables e below (T108.setTop (mkF m 280 #[.val (.int p1), .val (.int p2), .val (.int p3), .val (.int p4), .val (.int p5), .val (.int (Int32.ofNat 3)), .val (.int vi), .val (.int v0), .val (.int v1), .val (.int v2), .val (.int v3), .val (.int v4), .val (.double (FP.i2d bd)), .second, .val (.int (Int32.ofNat f)), .val (.int (Int32.ofNat t)), .val (.ref bm), .val (.int (own_want (own_le bd v0) (own_le bd v1) (own_le bd v2) (own_le bd v3) (own_le bd v4) f t)), .val (.int (0 : Int32))] [])) _
        rw [if_neg hd274] at h_e0
        subst h_e0
        exact kZ
    show own_R p.tables e below _ (T108.setTop (mkF m 280 #[.val (.int p1), .val (.int p2), .val (.int p3), .val (.int p4), .val (.int p5), .val (.int (Int32.ofNat 3)), .val (.int vi), .val (.int v0), .val (.int v1), .val (.int v2), .val (.int v3), .val (.int v4), .val (.double (FP.i2d bd)), .second, .val (.int (Int32.ofNat f)), .val (.int (Int32.ofNat t)), .val (.ref bm), .val (.int (own_want (own_le bd v0) (own_le bd v1) (own_le bd v2) (own_le bd v3) (own_le bd v4) f t)), .val (.int e0)] []))
    refine own_by (fun _ kZ => XS.iload X108.here hx rfl (hb hby at_280) rfl kZ) ?_
    show own_R p.tables e below _ (T108.setTop (mkF m 282 #[.val (.int p1), .val (.int p2), .val (.int p3), .val (.int p4), .val (.int p5), .val (.int (Int32.ofNat 3)), .val (.int vi), .val (.int v0), .val (.int v1), .val (.int v2), .val (.int v3), .val (.int v4), .val (.double (FP.i2d bd)), .second, .val (.int (Int32.ofNat f)), .val (.int (Int32.ofNat t)), .val (.ref bm), .val (.int (own_want (own_le bd v0) (own_le bd v1) (own_le bd v2) (own_le bd v3) (own_le bd v4) f t)), .val (.int e0)] [(.int (own_want (own_le bd v0) (own_le bd v1) (own_le bd v2) (own_le bd v3) (own_le bd v4) f t))]))
    refine own_by (fun _ kZ => XS.iload X108.here hx rfl (hb hby at_282) rfl kZ) ?_
    show own_R p.tables e below _ (T108.setTop (mkF m 284 #[.val (.int p1), .val (.int p2), .val (.int p3), .val (.int p4), .val (.int p5), .val (.int (Int32.ofNat 3)), .val (.int vi), .val (.int v0), .val (.int v1), .val (.int v2), .val (.int v3), .val (.int v4), .val (.double (FP.i2d bd)), .second, .val (.int (Int32.ofNat f)), .val (.int (Int32.ofNat t)), .val (.ref bm), .val (.int (own_want (own_le bd v0) (own_le bd v1) (own_le bd v2) (own_le bd v3) (own_le bd v4) f t)), .val (.int e0)] [(.int e0), (.int (own_want (own_le bd v0) (own_le bd v1) (own_le bd v2) (own_le bd v3) (own_le bd v4) f t))]))
    refine own_by (fun _ kZ => XS.icmpNo X108.here hx rfl (hb hby at_284) rfl (teq (own_wfin (by omega) (by omega) h_e4 h_e3 h_e2 h_e1 h_e0 : (own_want (own_le bd v0) (own_le bd v1) (own_le bd v2) (own_le bd v3) (own_le bd v4) f t) = e0)).2 kZ) ?_
    show own_R p.tables e below _ (T108.setTop (mkF m 287 #[.val (.int p1), .val (.int p2), .val (.int p3), .val (.int p4), .val (.int p5), .val (.int (Int32.ofNat 3)), .val (.int vi), .val (.int v0), .val (.int v1), .val (.int v2), .val (.int v3), .val (.int v4), .val (.double (FP.i2d bd)), .second, .val (.int (Int32.ofNat f)), .val (.int (Int32.ofNat t)), .val (.ref bm), .val (.int (own_want (own_le bd v0) (own_le bd v1) (own_le bd v2) (own_le bd v3) (own_le bd v4) f t)), .val (.int e0)] []))
    refine own_by (fun _ kZ => XS.iconst X108.here hx rfl (hb hby at_287) kZ) ?_
    show own_R p.tables e below _ (T108.setTop (mkF m 288 #[.val (.int p1), .val (.int p2), .val (.int p3), .val (.int p4), .val (.int p5), .val (.int (Int32.ofNat 3)), .val (.int vi), .val (.int v0), .val (.int v1), .val (.int v2), .val (.int v3), .val (.int v4), .val (.double (FP.i2d bd)), .second, .val (.int (Int32.ofNat f)), .val (.int (Int32.ofNat t)), .val (.ref bm), .val (.int (own_want (own_le bd v0) (own_le bd v1) (own_le bd v2) (own_le bd v3) (own_le bd v4) f t)), .val (.int e0)] [(.int (1 : Int32))]))
    refine own_by (fun _ kZ => XS.goto X108.here hx rfl (pc0 := 288) (pc' := 292) rfl (hb hby at_288) (by decide) (by decide) kZ) ?_
    show own_R p.tables e below _ (T108.setTop (mkF m 292 #[.val (.int p1), .val (.int p2), .val (.int p3), .val (.int p4), .val (.int p5), .val (.int (Int32.ofNat 3)), .val (.int vi), .val (.int v0), .val (.int v1), .val (.int v2), .val (.int v3), .val (.int v4), .val (.double (FP.i2d bd)), .second, .val (.int (Int32.ofNat f)), .val (.int (Int32.ofNat t)), .val (.ref bm), .val (.int (own_want (own_le bd v0) (own_le bd v1) (own_le bd v2) (own_le bd v3) (own_le bd v4) f t)), .val (.int e0)] [(.int (1 : Int32))]))
    obtain ⟨fs, hr, hrun, hended, hW, hsame⟩ := X108.leave (v := some (.int (1 : Int32))) (fun h => by rw [Bd.returns] at h; cases h)
    refine own_end ⟨_, _, ?_, hrun, hended, _, _, rfl, ?_, ⟨_, rfl⟩, hW, hsame.mono (by decide) (by decide)⟩
    · exact retN X108 hx (t := .boolean) Bd.returns (by simp) (hb hby at_292) hr
    · show Q0 Z p1 p2 p3 p4 p5 h0 n0 _ T108.heap _
      rw [e108]
      exact ⟨rfl, N108⟩
  · skip
    show own_R p.tables e below _ (T70.setTop (mkF m 111 #[.val (.int p1), .val (.int p2), .val (.int p3), .val (.int p4), .val (.int p5), .val (.int (Int32.ofNat 4)), .val (.int vi), .val (.int v0), .val (.int v1), .val (.int v2), .val (.int v3), .val (.int v4), .val (.double (FP.i2d bd)), .second, .val (.int (Int32.ofNat f)), .val (.int (Int32.ofNat t)), .val (.ref bm), .unset, .unset] [(.double (FP.i2d v0)), (.int (0 : Int32)), (.ref bm)]))
    obtain ⟨cq109, kq109, q109a, q109b, q109c⟩ := isOf hZ rfl f71_bm
    obtain ⟨_, _, ⟨T109, L109, k109, n109⟩, -, X109, ⟨Lc109, hQ109, l109, y109, z109⟩, st109⟩ := X70.virtualBack hx (y := (⟨"com/example/frugal_scheduler/frugalscheduler/planners/MinTree", "set", "(ID)V"⟩ : MethodName)) (z := (⟨"com/example/frugal_scheduler/frugalscheduler/planners/MinTree", "set", "(ID)V"⟩ : MethodName)) hown (mvT hZ (hw _ (List.mem_of_getElem? (i := 21) rfl))) (mvT hZ (hw _ (List.mem_of_getElem? (i := 22) rfl))) (notFace_of_selects (args := #[]) (mvT hZ (hw _ (List.mem_of_getElem? (i := 24) rfl)))) (mvT hZ (hw _ (List.mem_of_getElem? (i := 24) rfl))) (mvT hZ (hw _ (List.mem_of_getElem? (i := 23) rfl))) (by decide) (backOf (W := 0) (rm4 l Z a0 hw [] bm (0 : Int32) (FP.i2d v0) b 4 (fun _ => vi) 0 v0 T70.heap n0 Z72 W70 rfl (by decide) rfl) hZ (hw _ (List.mem_of_getElem? (i := 25) rfl)) (hw _ (List.mem_of_getElem? (i := 3) rfl)) (by decide) (by decide)) q109a q109c (g := (mkF m 111 #[.val (.int p1), .val (.int p2), .val (.int p3), .val (.int p4), .val (.int p5), .val (.int (Int32.ofNat 4)), .val (.int vi), .val (.int v0), .val (.int v1), .val (.int v2), .val (.int v3), .val (.int v4), .val (.double (FP.i2d bd)), .second, .val (.int (Int32.ofNat f)), .val (.int (Int32.ofNat t)), .val (.ref bm), .unset, .unset] [(.double (FP.i2d v0)), (.int (0 : Int32)), (.ref bm)])) rfl (by rw [hml]; rfl) (Steps.refl _) (argsL := [(.int (0 : Int32)), (.double (FP.i2d v0))]) (rest := []) (lenOf own_pd2 rfl) rfl (by show 2 * 0 + _ ≤ _; exact Nat.le_of_eq rfl) (hb hby at_111) (fun _ _ => ⟨rfl, rfl, (by decide : 2 + 0 ≤ _), (by decide : 19 + 0 ≤ _)⟩)
    dsimp only [Pt.U, Pt.locs, Pt.cells, Pt.slots] at X109 l109 y109 z109 st109 hQ109
    subst l109 y109 z109
    obtain ⟨rfl, Nq109, K109, W109⟩ := hQ109
    have N109 := Fr.app N70 Nq109
    have f110_bm : Exa Z T109.heap bm "com/example/frugal_scheduler/frugalscheduler/planners/MinTree" := f71_bm.keep K109
    have Z111 : n0 ≤ T109.heap.size := Nat.le_trans Z72 K109.1
    refine own_by (fun _ kZ => st109.trans kZ) ?_
    show own_R p.tables e below _ (T109.setTop (mkF m 114 #[.val (.int p1), .val (.int p2), .val (.int p3), .val (.int p4), .val (.int p5), .val (.int (Int32.ofNat 4)), .val (.int vi), .val (.int v0), .val (.int v1), .val (.int v2), .val (.int v3), .val (.int v4), .val (.double (FP.i2d bd)), .second, .val (.int (Int32.ofNat f)), .val (.int (Int32.ofNat t)), .val (.ref bm), .unset, .unset] []))
    refine own_by (fun _ kZ => XS.iload X109.here hx rfl (hb hby at_114) rfl kZ) ?_
    show own_R p.tables e below _ (T109.setTop (mkF m 116 #[.val (.int p1), .val (.int p2), .val (.int p3), .val (.int p4), .val (.int p5), .val (.int (Int32.ofNat 4)), .val (.int vi), .val (.int v0), .val (.int v1), .val (.int v2), .val (.int v3), .val (.int v4), .val (.double (FP.i2d bd)), .second, .val (.int (Int32.ofNat f)), .val (.int (Int32.ofNat t)), .val (.ref bm), .unset, .unset] [(.int (Int32.ofNat 4))]))
    refine own_by (fun _ kZ => XS.iconst X109.here hx rfl (hb hby at_116) kZ) ?_
    show own_R p.tables e below _ (T109.setTop (mkF m 117 #[.val (.int p1), .val (.int p2), .val (.int p3), .val (.int p4), .val (.int p5), .val (.int (Int32.ofNat 4)), .val (.int vi), .val (.int v0), .val (.int v1), .val (.int v2), .val (.int v3), .val (.int v4), .val (.double (FP.i2d bd)), .second, .val (.int (Int32.ofNat f)), .val (.int (Int32.ofNat t)), .val (.ref bm), .unset, .unset] [(.int (1 : Int32)), (.int (Int32.ofNat 4))]))
    refine own_by (fun _ kZ => XS.icmpNo X109.here hx rfl (hb hby at_117) rfl (tlt (by decide : (1 : Int32) < (Int32.ofNat 4))).2.2.2 kZ) ?_
    show own_R p.tables e below _ (T109.setTop (mkF m 120 #[.val (.int p1), .val (.int p2), .val (.int p3), .val (.int p4), .val (.int p5), .val (.int (Int32.ofNat 4)), .val (.int vi), .val (.int v0), .val (.int v1), .val (.int v2), .val (.int v3), .val (.int v4), .val (.double (FP.i2d bd)), .second, .val (.int (Int32.ofNat f)), .val (.int (Int32.ofNat t)), .val (.ref bm), .unset, .unset] []))
    refine own_by (fun _ kZ => XS.aload X109.here hx rfl (hb hby at_120) rfl rfl kZ) ?_
    show own_R p.tables e below _ (T109.setTop (mkF m 122 #[.val (.int p1), .val (.int p2), .val (.int p3), .val (.int p4), .val (.int p5), .val (.int (Int32.ofNat 4)), .val (.int vi), .val (.int v0), .val (.int v1), .val (.int v2), .val (.int v3), .val (.int v4), .val (.double (FP.i2d bd)), .second, .val (.int (Int32.ofNat f)), .val (.int (Int32.ofNat t)), .val (.ref bm), .unset, .unset] [(.ref bm)]))
    refine own_by (fun _ kZ => XS.iconst X109.here hx rfl (hb hby at_122) kZ) ?_
    show own_R p.tables e below _ (T109.setTop (mkF m 123 #[.val (.int p1), .val (.int p2), .val (.int p3), .val (.int p4), .val (.int p5), .val (.int (Int32.ofNat 4)), .val (.int vi), .val (.int v0), .val (.int v1), .val (.int v2), .val (.int v3), .val (.int v4), .val (.double (FP.i2d bd)), .second, .val (.int (Int32.ofNat f)), .val (.int (Int32.ofNat t)), .val (.ref bm), .unset, .unset] [(.int (1 : Int32)), (.ref bm)]))
    refine own_by (fun _ kZ => XS.iload X109.here hx rfl (hb hby at_123) rfl kZ) ?_
    show own_R p.tables e below _ (T109.setTop (mkF m 125 #[.val (.int p1), .val (.int p2), .val (.int p3), .val (.int p4), .val (.int p5), .val (.int (Int32.ofNat 4)), .val (.int vi), .val (.int v0), .val (.int v1), .val (.int v2), .val (.int v3), .val (.int v4), .val (.double (FP.i2d bd)), .second, .val (.int (Int32.ofNat f)), .val (.int (Int32.ofNat t)), .val (.ref bm), .unset, .unset] [(.int v1), (.int (1 : Int32)), (.ref bm)]))
    refine own_by (fun _ kZ => own_i2d X109.here hx rfl (hb hby at_125) rfl kZ) ?_
    show own_R p.tables e below _ (T109.setTop (mkF m 126 #[.val (.int p1), .val (.int p2), .val (.int p3), .val (.int p4), .val (.int p5), .val (.int (Int32.ofNat 4)), .val (.int vi), .val (.int v0), .val (.int v1), .val (.int v2), .val (.int v3), .val (.int v4), .val (.double (FP.i2d bd)), .second, .val (.int (Int32.ofNat f)), .val (.int (Int32.ofNat t)), .val (.ref bm), .unset, .unset] [(.double (FP.i2d v1)), (.int (1 : Int32)), (.ref bm)]))
    obtain ⟨cq112, kq112, q112a, q112b, q112c⟩ := isOf hZ rfl f110_bm
    obtain ⟨_, _, ⟨T112, L112, k112, n112⟩, -, X112, ⟨Lc112, hQ112, l112, y112, z112⟩, st112⟩ := X109.virtualBack hx (y := (⟨"com/example/frugal_scheduler/frugalscheduler/planners/MinTree", "set", "(ID)V"⟩ : MethodName)) (z := (⟨"com/example/frugal_scheduler/frugalscheduler/planners/MinTree", "set", "(ID)V"⟩ : MethodName)) hown (mvT hZ (hw _ (List.mem_of_getElem? (i := 21) rfl))) (mvT hZ (hw _ (List.mem_of_getElem? (i := 22) rfl))) (notFace_of_selects (args := #[]) (mvT hZ (hw _ (List.mem_of_getElem? (i := 24) rfl)))) (mvT hZ (hw _ (List.mem_of_getElem? (i := 24) rfl))) (mvT hZ (hw _ (List.mem_of_getElem? (i := 23) rfl))) (by decide) (backOf (W := 0) (rm4 l Z a0 hw [] bm (1 : Int32) (FP.i2d v1) b 4 (own_setg own_min (fun _ => vi) (own_leaves 4) 0 v0) 1 v1 T109.heap n0 Z111 W109 rfl (by decide) rfl) hZ (hw _ (List.mem_of_getElem? (i := 25) rfl)) (hw _ (List.mem_of_getElem? (i := 3) rfl)) (by decide) (by decide)) q112a q112c (g := (mkF m 126 #[.val (.int p1), .val (.int p2), .val (.int p3), .val (.int p4), .val (.int p5), .val (.int (Int32.ofNat 4)), .val (.int vi), .val (.int v0), .val (.int v1), .val (.int v2), .val (.int v3), .val (.int v4), .val (.double (FP.i2d bd)), .second, .val (.int (Int32.ofNat f)), .val (.int (Int32.ofNat t)), .val (.ref bm), .unset, .unset] [(.double (FP.i2d v1)), (.int (1 : Int32)), (.ref bm)])) rfl (by rw [hml]; rfl) (Steps.refl _) (argsL := [(.int (1 : Int32)), (.double (FP.i2d v1))]) (rest := []) (lenOf own_pd2 rfl) rfl (by show 2 * 0 + _ ≤ _; exact Nat.le_of_eq rfl) (hb hby at_126) (fun _ _ => ⟨rfl, rfl, (by decide : 2 + 0 ≤ _), (by decide : 19 + 0 ≤ _)⟩)
    dsimp only [Pt.U, Pt.locs, Pt.cells, Pt.slots] at X112 l112 y112 z112 st112 hQ112
    subst l112 y112 z112
    obtain ⟨rfl, Nq112, K112, W112⟩ := hQ112
    have N112 := Fr.app N109 Nq112
    have f113_bm : Exa Z T112.heap bm "com/example/frugal_scheduler/frugalscheduler/planners/MinTree" := f110_bm.keep K112
    have Z114 : n0 ≤ T112.heap.size := Nat.le_trans Z111 K112.1
    refine own_by (fun _ kZ => st112.trans kZ) ?_
    show own_R p.tables e below _ (T112.setTop (mkF m 129 #[.val (.int p1), .val (.int p2), .val (.int p3), .val (.int p4), .val (.int p5), .val (.int (Int32.ofNat 4)), .val (.int vi), .val (.int v0), .val (.int v1), .val (.int v2), .val (.int v3), .val (.int v4), .val (.double (FP.i2d bd)), .second, .val (.int (Int32.ofNat f)), .val (.int (Int32.ofNat t)), .val (.ref bm), .unset, .unset] []))
    refine own_by (fun _ kZ => XS.iload X112.here hx rfl (hb hby at_129) rfl kZ) ?_
    show own_R p.tables e below _ (T112.setTop (mkF m 131 #[.val (.int p1), .val (.int p2), .val (.int p3), .val (.int p4), .val (.int p5), .val (.int (Int32.ofNat 4)), .val (.int vi), .val (.int v0), .val (.int v1), .val (.int v2), .val (.int v3), .val (.int v4), .val (.double (FP.i2d bd)), .second, .val (.int (Int32.ofNat f)), .val (.int (Int32.ofNat t)), .val (.ref bm), .unset, .unset] [(.int (Int32.ofNat 4))]))
    refine own_by (fun _ kZ => XS.iconst X112.here hx rfl (hb hby at_131) kZ) ?_
    show own_R p.tables e below _ (T112.setTop (mkF m 132 #[.val (.int p1), .val (.int p2), .val (.int p3), .val (.int p4), .val (.int p5), .val (.int (Int32.ofNat 4)), .val (.int vi), .val (.int v0), .val (.int v1), .val (.int v2), .val (.int v3), .val (.int v4), .val (.double (FP.i2d bd)), .second, .val (.int (Int32.ofNat f)), .val (.int (Int32.ofNat t)), .val (.ref bm), .unset, .unset] [(.int (2 : Int32)), (.int (Int32.ofNat 4))]))
    refine own_by (fun _ kZ => XS.icmpNo X112.here hx rfl (hb hby at_132) rfl (tlt (by decide : (2 : Int32) < (Int32.ofNat 4))).2.2.2 kZ) ?_
    show own_R p.tables e below _ (T112.setTop (mkF m 135 #[.val (.int p1), .val (.int p2), .val (.int p3), .val (.int p4), .val (.int p5), .val (.int (Int32.ofNat 4)), .val (.int vi), .val (.int v0), .val (.int v1), .val (.int v2), .val (.int v3), .val (.int v4), .val (.double (FP.i2d bd)), .second, .val (.int (Int32.ofNat f)), .val (.int (Int32.ofNat t)), .val (.ref bm), .unset, .unset] []))
    refine own_by (fun _ kZ => XS.aload X112.here hx rfl (hb hby at_135) rfl rfl kZ) ?_
    show own_R p.tables e below _ (T112.setTop (mkF m 137 #[.val (.int p1), .val (.int p2), .val (.int p3), .val (.int p4), .val (.int p5), .val (.int (Int32.ofNat 4)), .val (.int vi), .val (.int v0), .val (.int v1), .val (.int v2), .val (.int v3), .val (.int v4), .val (.double (FP.i2d bd)), .second, .val (.int (Int32.ofNat f)), .val (.int (Int32.ofNat t)), .val (.ref bm), .unset, .unset] [(.ref bm)]))
    refine own_by (fun _ kZ => XS.iconst X112.here hx rfl (hb hby at_137) kZ) ?_
    show own_R p.tables e below _ (T112.setTop (mkF m 138 #[.val (.int p1), .val (.int p2), .val (.int p3), .val (.int p4), .val (.int p5), .val (.int (Int32.ofNat 4)), .val (.int vi), .val (.int v0), .val (.int v1), .val (.int v2), .val (.int v3), .val (.int v4), .val (.double (FP.i2d bd)), .second, .val (.int (Int32.ofNat f)), .val (.int (Int32.ofNat t)), .val (.ref bm), .unset, .unset] [(.int (2 : Int32)), (.ref bm)]))
    refine own_by (fun _ kZ => XS.iload X112.here hx rfl (hb hby at_138) rfl kZ) ?_
    show own_R p.tables e below _ (T112.setTop (mkF m 140 #[.val (.int p1), .val (.int p2), .val (.int p3), .val (.int p4), .val (.int p5), .val (.int (Int32.ofNat 4)), .val (.int vi), .val (.int v0), .val (.int v1), .val (.int v2), .val (.int v3), .val (.int v4), .val (.double (FP.i2d bd)), .second, .val (.int (Int32.ofNat f)), .val (.int (Int32.ofNat t)), .val (.ref bm), .unset, .unset] [(.int v2), (.int (2 : Int32)), (.ref bm)]))
    refine own_by (fun _ kZ => own_i2d X112.here hx rfl (hb hby at_140) rfl kZ) ?_
    show own_R p.tables e below _ (T112.setTop (mkF m 141 #[.val (.int p1), .val (.int p2), .val (.int p3), .val (.int p4), .val (.int p5), .val (.int (Int32.ofNat 4)), .val (.int vi), .val (.int v0), .val (.int v1), .val (.int v2), .val (.int v3), .val (.int v4), .val (.double (FP.i2d bd)), .second, .val (.int (Int32.ofNat f)), .val (.int (Int32.ofNat t)), .val (.ref bm), .unset, .unset] [(.double (FP.i2d v2)), (.int (2 : Int32)), (.ref bm)]))
    obtain ⟨cq115, kq115, q115a, q115b, q115c⟩ := isOf hZ rfl f113_bm
    obtain ⟨_, _, ⟨T115, L115, k115, n115⟩, -, X115, ⟨Lc115, hQ115, l115, y115, z115⟩, st115⟩ := X112.virtualBack hx (y := (⟨"com/example/frugal_scheduler/frugalscheduler/planners/MinTree", "set", "(ID)V"⟩ : MethodName)) (z := (⟨"com/example/frugal_scheduler/frugalscheduler/planners/MinTree", "set", "(ID)V"⟩ : MethodName)) hown (mvT hZ (hw _ (List.mem_of_getElem? (i := 21) rfl))) (mvT hZ (hw _ (List.mem_of_getElem? (i := 22) rfl))) (notFace_of_selects (args := #[]) (mvT hZ (hw _ (List.mem_of_getElem? (i := 24) rfl)))) (mvT hZ (hw _ (List.mem_of_getElem? (i := 24) rfl))) (mvT hZ (hw _ (List.mem_of_getElem? (i := 23) rfl))) (by decide) (backOf (W := 0) (rm4 l Z a0 hw [] bm (2 : Int32) (FP.i2d v2) b 4 (own_setg own_min (own_setg own_min (fun _ => vi) (own_leaves 4) 0 v0) (own_leaves 4) 1 v1) 2 v2 T112.heap n0 Z114 W112 rfl (by decide) rfl) hZ (hw _ (List.mem_of_getElem? (i := 25) rfl)) (hw _ (List.mem_of_getElem? (i := 3) rfl)) (by decide) (by decide)) q115a q115c (g := (mkF m 141 #[.val (.int p1), .val (.int p2), .val (.int p3), .val (.int p4), .val (.int p5), .val (.int (Int32.ofNat 4)), .val (.int vi), .val (.int v0), .val (.int v1), .val (.int v2), .val (.int v3), .val (.int v4), .val (.double (FP.i2d bd)), .second, .val (.int (Int32.ofNat f)), .val (.int (Int32.ofNat t)), .val (.ref bm), .unset, .unset] [(.double (FP.i2d v2)), (.int (2 : Int32)), (.ref bm)])) rfl (by rw [hml]; rfl) (Steps.refl _) (argsL := [(.int (2 : Int32)), (.double (FP.i2d v2))]) (rest := []) (lenOf own_pd2 rfl) rfl (by show 2 * 0 + _ ≤ _; exact Nat.le_of_eq rfl) (hb hby at_141) (fun _ _ => ⟨rfl, rfl, (by decide : 2 + 0 ≤ _), (by decide : 19 + 0 ≤ _)⟩)
    dsimp only [Pt.U, Pt.locs, Pt.cells, Pt.slots] at X115 l115 y115 z115 st115 hQ115
    subst l115 y115 z115
    obtain ⟨rfl, Nq115, K115, W115⟩ := hQ115
    have N115 := Fr.app N112 Nq115
    have f116_bm : Exa Z T115.heap bm "com/example/frugal_scheduler/frugalscheduler/planners/MinTree" := f113_bm.keep K115
    have Z117 : n0 ≤ T115.heap.size := Nat.le_trans Z114 K115.1
    refine own_by (fun _ kZ => st115.trans kZ) ?_
    show own_R p.tables e below _ (T115.setTop (mkF m 144 #[.val (.int p1), .val (.int p2), .val (.int p3), .val (.int p4), .val (.int p5), .val (.int (Int32.ofNat 4)), .val (.int vi), .val (.int v0), .val (.int v1), .val (.int v2), .val (.int v3), .val (.int v4), .val (.double (FP.i2d bd)), .second, .val (.int (Int32.ofNat f)), .val (.int (Int32.ofNat t)), .val (.ref bm), .unset, .unset] []))
    refine own_by (fun _ kZ => XS.iload X115.here hx rfl (hb hby at_144) rfl kZ) ?_
    show own_R p.tables e below _ (T115.setTop (mkF m 146 #[.val (.int p1), .val (.int p2), .val (.int p3), .val (.int p4), .val (.int p5), .val (.int (Int32.ofNat 4)), .val (.int vi), .val (.int v0), .val (.int v1), .val (.int v2), .val (.int v3), .val (.int v4), .val (.double (FP.i2d bd)), .second, .val (.int (Int32.ofNat f)), .val (.int (Int32.ofNat t)), .val (.ref bm), .unset, .unset] [(.int (Int32.ofNat 4))]))
    refine own_by (fun _ kZ => XS.iconst X115.here hx rfl (hb hby at_146) kZ) ?_
    show own_R p.tables e below _ (T115.setTop (mkF m 147 #[.val (.int p1), .val (.int p2), .val (.int p3), .val (.int p4), .val (.int p5), .val (.int (Int32.ofNat 4)), .val (.int vi), .val (.int v0), .val (.int v1), .val (.int v2), .val (.int v3), .val (.int v4), .val (.double (FP.i2d bd)), .second, .val (.int (Int32.ofNat f)), .val (.int (Int32.ofNat t)), .val (.ref bm), .unset, .unset] [(.int (3 : Int32)), (.int (Int32.ofNat 4))]))
    refine own_by (fun _ kZ => XS.icmpNo X115.here hx rfl (hb hby at_147) rfl (tlt (by decide : (3 : Int32) < (Int32.ofNat 4))).2.2.2 kZ) ?_
    show own_R p.tables e below _ (T115.setTop (mkF m 150 #[.val (.int p1), .val (.int p2), .val (.int p3), .val (.int p4), .val (.int p5), .val (.int (Int32.ofNat 4)), .val (.int vi), .val (.int v0), .val (.int v1), .val (.int v2), .val (.int v3), .val (.int v4), .val (.double (FP.i2d bd)), .second, .val (.int (Int32.ofNat f)), .val (.int (Int32.ofNat t)), .val (.ref bm), .unset, .unset] []))
    refine own_by (fun _ kZ => XS.aload X115.here hx rfl (hb hby at_150) rfl rfl kZ) ?_
    show own_R p.tables e below _ (T115.setTop (mkF m 152 #[.val (.int p1), .val (.int p2), .val (.int p3), .val (.int p4), .val (.int p5), .val (.int (Int32.ofNat 4)), .val (.int vi), .val (.int v0), .val (.int v1), .val (.int v2), .val (.int v3), .val (.int v4), .val (.double (FP.i2d bd)), .second, .val (.int (Int32.ofNat f)), .val (.int (Int32.ofNat t)), .val (.ref bm), .unset, .unset] [(.ref bm)]))
    refine own_by (fun _ kZ => XS.iconst X115.here hx rfl (hb hby at_152) kZ) ?_
    show own_R p.tables e below _ (T115.setTop (mkF m 153 #[.val (.int p1), .val (.int p2), .val (.int p3), .val (.int p4), .val (.int p5), .val (.int (Int32.ofNat 4)), .val (.int vi), .val (.int v0), .val (.int v1), .val (.int v2), .val (.int v3), .val (.int v4), .val (.double (FP.i2d bd)), .second, .val (.int (Int32.ofNat f)), .val (.int (Int32.ofNat t)), .val (.ref bm), .unset, .unset] [(.int (3 : Int32)), (.ref bm)]))
    refine own_by (fun _ kZ => XS.iload X115.here hx rfl (hb hby at_153) rfl kZ) ?_
    show own_R p.tables e below _ (T115.setTop (mkF m 155 #[.val (.int p1), .val (.int p2), .val (.int p3), .val (.int p4), .val (.int p5), .val (.int (Int32.ofNat 4)), .val (.int vi), .val (.int v0), .val (.int v1), .val (.int v2), .val (.int v3), .val (.int v4), .val (.double (FP.i2d bd)), .second, .val (.int (Int32.ofNat f)), .val (.int (Int32.ofNat t)), .val (.ref bm), .unset, .unset] [(.int v3), (.int (3 : Int32)), (.ref bm)]))
    refine own_by (fun _ kZ => own_i2d X115.here hx rfl (hb hby at_155) rfl kZ) ?_
    show own_R p.tables e below _ (T115.setTop (mkF m 156 #[.val (.int p1), .val (.int p2), .val (.int p3), .val (.int p4), .val (.int p5), .val (.int (Int32.ofNat 4)), .val (.int vi), .val (.int v0), .val (.int v1), .val (.int v2), .val (.int v3), .val (.int v4), .val (.double (FP.i2d bd)), .second, .val (.int (Int32.ofNat f)), .val (.int (Int32.ofNat t)), .val (.ref bm), .unset, .unset] [(.double (FP.i2d v3)), (.int (3 : Int32)), (.ref bm)]))
    obtain ⟨cq118, kq118, q118a, q118b, q118c⟩ := isOf hZ rfl f116_bm
    obtain ⟨_, _, ⟨T118, L118, k118, n118⟩, -, X118, ⟨Lc118, hQ118, l118, y118, z118⟩, st118⟩ := X115.virtualBack hx (y := (⟨"com/example/frugal_scheduler/frugalscheduler/planners/MinTree", "set", "(ID)V"⟩ : MethodName)) (z := (⟨"com/example/frugal_scheduler/frugalscheduler/planners/MinTree", "set", "(ID)V"⟩ : MethodName)) hown (mvT hZ (hw _ (List.mem_of_getElem? (i := 21) rfl))) (mvT hZ (hw _ (List.mem_of_getElem? (i := 22) rfl))) (notFace_of_selects (args := #[]) (mvT hZ (hw _ (List.mem_of_getElem? (i := 24) rfl)))) (mvT hZ (hw _ (List.mem_of_getElem? (i := 24) rfl))) (mvT hZ (hw _ (List.mem_of_getElem? (i := 23) rfl))) (by decide) (backOf (W := 0) (rm4 l Z a0 hw [] bm (3 : Int32) (FP.i2d v3) b 4 (own_setg own_min (own_setg own_min (own_setg own_min (fun _ => vi) (own_leaves 4) 0 v0) (own_leaves 4) 1 v1) (own_leaves 4) 2 v2) 3 v3 T115.heap n0 Z117 W115 rfl (by decide) rfl) hZ (hw _ (List.mem_of_getElem? (i := 25) rfl)) (hw _ (List.mem_of_getElem? (i := 3) rfl)) (by decide) (by decide)) q118a q118c (g := (mkF m 156 #[.val (.int p1), .val (.int p2), .val (.int p3), .val (.int p4), .val (.int p5), .val (.int (Int32.ofNat 4)), .val (.int vi), .val (.int v0), .val (.int v1), .val (.int v2), .val (.int v3), .val (.int v4), .val (.double (FP.i2d bd)), .second, .val (.int (Int32.ofNat f)), .val (.int (Int32.ofNat t)), .val (.ref bm), .unset, .unset] [(.double (FP.i2d v3)), (.int (3 : Int32)), (.ref bm)])) rfl (by rw [hml]; rfl) (Steps.refl _) (argsL := [(.int (3 : Int32)), (.double (FP.i2d v3))]) (rest := []) (lenOf own_pd2 rfl) rfl (by show 2 * 0 + _ ≤ _; exact Nat.le_of_eq rfl) (hb hby at_156) (fun _ _ => ⟨rfl, rfl, (by decide : 2 + 0 ≤ _), (by decide : 19 + 0 ≤ _)⟩)
    dsimp only [Pt.U, Pt.locs, Pt.cells, Pt.slots] at X118 l118 y118 z118 st118 hQ118
    subst l118 y118 z118
    obtain ⟨rfl, Nq118, K118, W118⟩ := hQ118
    have N118 := Fr.app N115 Nq118
    have f119_bm : Exa Z T118.heap bm "com/example/frugal_scheduler/frugalscheduler/planners/MinTree" := f116_bm.keep K118
    have Z120 : n0 ≤ T118.heap.size := Nat.le_trans Z117 K118.1
    refine own_by (fun _ kZ => st118.trans kZ) ?_
    show own_R p.tables e below _ (T118.setTop (mkF m 159 #[.val (.int p1), .val (.int p2), .val (.int p3), .val (.int p4), .val (.int p5), .val (.int (Int32.ofNat 4)), .val (.int vi), .val (.int v0), .val (.int v1), .val (.int v2), .val (.int v3), .val (.int v4), .val (.double (FP.i2d bd)), .second, .val (.int (Int32.ofNat f)), .val (.int (Int32.ofNat t)), .val (.ref bm), .unset, .unset] []))
    refine own_by (fun _ kZ => XS.iload X118.here hx rfl (hb hby at_159) rfl kZ) ?_
    show own_R p.tables e below _ (T118.setTop (mkF m 161 #[.val (.int p1), .val (.int p2), .val (.int p3), .val (.int p4), .val (.int p5), .val (.int (Int32.ofNat 4)), .val (.int vi), .val (.int v0), .val (.int v1), .val (.int v2), .val (.int v3), .val (.int v4), .val (.double (FP.i2d bd)), .second, .val (.int (Int32.ofNat f)), .val (.int (Int32.ofNat t)), .val (.ref bm), .unset, .unset] [(.int (Int32.ofNat 4))]))
    refine own_by (fun _ kZ => XS.iconst X118.here hx rfl (hb hby at_161) kZ) ?_
    show own_R p.tables e below _ (T118.setTop (mkF m 162 #[.val (.int p1), .val (.int p2), .val (.int p3), .val (.int p4), .val (.int p5), .val (.int (Int32.ofNat 4)), .val (.int vi), .val (.int v0), .val (.int v1), .val (.int v2), .val (.int v3), .val (.int v4), .val (.double (FP.i2d bd)), .second, .val (.int (Int32.ofNat f)), .val (.int (Int32.ofNat t)), .val (.ref bm), .unset, .unset] [(.int (4 : Int32)), (.int (Int32.ofNat 4))]))
    refine own_by (fun _ kZ => XS.icmpYes X118.here hx rfl (pc0 := 162) (pc' := 174) rfl (hb hby at_162) rfl (flt (by decide : ¬ (4 : Int32) < (Int32.ofNat 4))).2.2.2 (by decide) (by decide) kZ) ?_
    show own_R p.tables e below _ (T118.setTop (mkF m 174 #[.val (.int p1), .val (.int p2), .val (.int p3), .val (.int p4), .val (.int p5), .val (.int (Int32.ofNat 4)), .val (.int vi), .val (.int v0), .val (.int v1), .val (.int v2), .val (.int v3), .val (.int v4), .val (.double (FP.i2d bd)), .second, .val (.int (Int32.ofNat f)), .val (.int (Int32.ofNat t)), .val (.ref bm), .unset, .unset] []))
    refine own_by (fun _ kZ => XS.aload X118.here hx rfl (hb hby at_174) rfl rfl kZ) ?_
    show own_R p.tables e below _ (T118.setTop (mkF m 176 #[.val (.int p1), .val (.int p2), .val (.int p3), .val (.int p4), .val (.int p5), .val (.int (Int32.ofNat 4)), .val (.int vi), .val (.int v0), .val (.int v1), .val (.int v2), .val (.int v3), .val (.int v4), .val (.double (FP.i2d bd)), .second, .val (.int (Int32.ofNat f)), .val (.int (Int32.ofNat t)), .val (.ref bm), .unset, .unset] [(.ref bm)]))
    refine own_by (fun _ kZ => XS.iload X118.here hx rfl (hb hby at_176) rfl kZ) ?_
    show own_R p.tables e below _ (T118.setTop (mkF m 178 #[.val (.int p1), .val (.int p2), .val (.int p3), .val (.int p4), .val (.int p5), .val (.int (Int32.ofNat 4)), .val (.int vi), .val (.int v0), .val (.int v1), .val (.int v2), .val (.int v3), .val (.int v4), .val (.double (FP.i2d bd)), .second, .val (.int (Int32.ofNat f)), .val (.int (Int32.ofNat t)), .val (.ref bm), .unset, .unset] [(.int (Int32.ofNat f)), (.ref bm)]))
    refine own_by (fun _ kZ => XS.iload X118.here hx rfl (hb hby at_178) rfl kZ) ?_
    show own_R p.tables e below _ (T118.setTop (mkF m 180 #[.val (.int p1), .val (.int p2), .val (.int p3), .val (.int p4), .val (.int p5), .val (.int (Int32.ofNat 4)), .val (.int vi), .val (.int v0), .val (.int v1), .val (.int v2), .val (.int v3), .val (.int v4), .val (.double (FP.i2d bd)), .second, .val (.int (Int32.ofNat f)), .val (.int (Int32.ofNat t)), .val (.ref bm), .unset, .unset] [(.int (Int32.ofNat t)), (.int (Int32.ofNat f)), (.ref bm)]))
    refine own_by (fun _ kZ => own_dload X118.here hx rfl (hb hby at_180) rfl kZ) ?_
    show own_R p.tables e below _ (T118.setTop (mkF m 182 #[.val (.int p1), .val (.int p2), .val (.int p3), .val (.int p4), .val (.int p5), .val (.int (Int32.ofNat 4)), .val (.int vi), .val (.int v0), .val (.int v1), .val (.int v2), .val (.int v3), .val (.int v4), .val (.double (FP.i2d bd)), .second, .val (.int (Int32.ofNat f)), .val (.int (Int32.ofNat t)), .val (.ref bm), .unset, .unset] [(.double (FP.i2d bd)), (.int (Int32.ofNat t)), (.int (Int32.ofNat f)), (.ref bm)]))
    have WT : own_MT Z T118.heap n0 bm b 4 (own_tree own_min 4 v0 v1 v2 v3 v4 vi) := by rw [own_tr4]; exact W118
    obtain ⟨cq121, kq121, q121a, q121b, q121c⟩ := isOf hZ rfl f119_bm
    obtain ⟨_, _, ⟨T121, L121, k121, n121⟩, -, X121, ⟨Lc121, hQ121, l121, y121, z121⟩, st121⟩ := X118.virtualBack hx (y := (⟨"com/example/frugal_scheduler/frugalscheduler/planners/MinTree", "firstAtMost", "(IID)I"⟩ : MethodName)) (z := (⟨"com/example/frugal_scheduler/frugalscheduler/planners/MinTree", "firstAtMost", "(IID)I"⟩ : MethodName)) hown (mvT hZ (hw _ (List.mem_of_getElem? (i := 26) rfl))) (mvT hZ (hw _ (List.mem_of_getElem? (i := 27) rfl))) (notFace_of_selects (args := #[]) (mvT hZ (hw _ (List.mem_of_getElem? (i := 29) rfl)))) (mvT hZ (hw _ (List.mem_of_getElem? (i := 29) rfl))) (mvT hZ (hw _ (List.mem_of_getElem? (i := 28) rfl))) (by decide) (backOf (W := 0) (rm5 l Z a0 hw [] bm (Int32.ofNat f) (Int32.ofNat t) (FP.i2d bd) b 4 (own_tree own_min 4 v0 v1 v2 v3 v4 vi) f t bd (own_want (own_le bd v0) (own_le bd v1) (own_le bd v2) (own_le bd v3) (own_le bd v4) f t) T118.heap n0 Z120 WT (by decide) rfl rfl rfl lf lt (own_famB bd v0 v1 v2 v3 v4 vi 4 f t (by decide) (by decide) lf lt)) hZ (hw _ (List.mem_of_getElem? (i := 30) rfl)) (hw _ (List.mem_of_getElem? (i := 3) rfl)) (by decide) (by decide)) q121a q121c (g := (mkF m 182 #[.val (.int p1), .val (.int p2), .val (.int p3), .val (.int p4), .val (.int p5), .val (.int (Int32.ofNat 4)), .val (.int vi), .val (.int v0), .val (.int v1), .val (.int v2), .val (.int v3), .val (.int v4), .val (.double (FP.i2d bd)), .second, .val (.int (Int32.ofNat f)), .val (.int (Int32.ofNat t)), .val (.ref bm), .unset, .unset] [(.double (FP.i2d bd)), (.int (Int32.ofNat t)), (.int (Int32.ofNat f)), (.ref bm)])) rfl (by rw [hml]; rfl) (Steps.refl _) (argsL := [(.int (Int32.ofNat f)), (.int (Int32.ofNat t)), (.double (FP.i2d bd))]) (rest := []) (lenOf own_pd3 rfl) rfl (by show 2 * 0 + _ ≤ _; exact Nat.le_of_eq rfl) (hb hby at_182) (fun _ _ => ⟨rfl, rfl, (by decide : 2 + 0 ≤ _), (by decide : 19 + 0 ≤ _)⟩)
    dsimp only [Pt.U, Pt.locs, Pt.cells, Pt.slots] at X121 l121 y121 z121 st121 hQ121
    subst l121 y121 z121
    obtain ⟨rfl, Nq121, e121⟩ := hQ121
    have N121 := Fr.app N118 Nq121
    refine own_by (fun _ kZ => st121.trans kZ) ?_
    show own_R p.tables e below _ (T121.setTop (mkF m 185 #[.val (.int p1), .val (.int p2), .val (.int p3), .val (.int p4), .val (.int p5), .val (.int (Int32.ofNat 4)), .val (.int vi), .val (.int v0), .val (.int v1), .val (.int v2), .val (.int v3), .val (.int v4), .val (.double (FP.i2d bd)), .second, .val (.int (Int32.ofNat f)), .val (.int (Int32.ofNat t)), .val (.ref bm), .unset, .unset] [(.int (own_want (own_le bd v0) (own_le bd v1) (own_le bd v2) (own_le bd v3) (own_le bd v4) f t))]))
    refine own_by (fun _ kZ => XS.istore X121.here hx rfl (hb hby at_185) rfl (l' := #[.val (.int p1), .val (.int p2), .val (.int p3), .val (.int p4), .val (.int p5), .val (.int (Int32.ofNat 4)), .val (.int vi), .val (.int v0), .val (.int v1), .val (.int v2), .val (.int v3), .val (.int v4), .val (.double (FP.i2d bd)), .second, .val (.int (Int32.ofNat f)), .val (.int (Int32.ofNat t)), .val (.ref bm), .val (.int (own_want (own_le bd v0) (own_le bd v1) (own_le bd v2) (own_le bd v3) (own_le bd v4) f t)), .unset]) rfl kZ) ?_
    show own_R p.tables e below _ (T121.setTop (mkF m 187 #[.val (.int p1), .val (.int p2), .val (.int p3), .val (.int p4), .val (.int p5), .val (.int (Int32.ofNat 4)), .val (.int vi), .val (.int v0), .val (.int v1), .val (.int v2), .val (.int v3), .val (.int v4), .val (.double (FP.i2d bd)), .second, .val (.int (Int32.ofNat f)), .val (.int (Int32.ofNat t)), .val (.ref bm), .val (.int (own_want (own_le bd v0) (own_le bd v1) (own_le bd v2) (own_le bd v3) (own_le bd v4) f t)), .unset] []))
    refine own_by (fun _ kZ => XS.iconst X121.here hx rfl (hb hby at_187) kZ) ?_
    show own_R p.tables e below _ (T121.setTop (mkF m 188 #[.val (.int p1), .val (.int p2), .val (.int p3), .val (.int p4), .val (.int p5), .val (.int (Int32.ofNat 4)), .val (.int vi), .val (.int v0), .val (.int v1), .val (.int v2), .val (.int v3), .val (.int v4), .val (.double (FP.i2d bd)), .second, .val (.int (Int32.ofNat f)), .val (.int (Int32.ofNat t)), .val (.ref bm), .val (.int (own_want (own_le bd v0) (own_le bd v1) (own_le bd v2) (own_le bd v3) (own_le bd v4) f t)), .unset] [(.int (-1 : Int32))]))
    refine own_by (fun _ kZ => XS.istore X121.here hx rfl (hb hby at_188) rfl (l' := #[.val (.int p1), .val (.int p2), .val (.int p3), .val (.int p4), .val (.int p5), .val (.int (Int32.ofNat 4)), .val (.int vi), .val (.int v0), .val (.int v1), .val (.int v2), .val (.int v3), .val (.int v4), .val (.double (FP.i2d bd)), .second, .val (.int (Int32.ofNat f)), .val (.int (Int32.ofNat t)), .val (.ref bm), .val (.int (own_want (own_le bd v0) (own_le bd v1) (own_le bd v2) (own_le bd v3) (own_le bd v4) f t)), .val (.int (-1 : Int32))]) rfl kZ) ?_
    show own_R p.tables e below _ (T121.setTop (mkF m 190 #[.val (.int p1), .val (.int p2), .val (.int p3), .val (.int p4), .val (.int p5), .val (.int (Int32.ofNat 4)), .val (.int vi), .val (.int v0), .val (.int v1), .val (.int v2), .val (.int v3), .val (.int v4), .val (.double (FP.i2d bd)), .second, .val (.int (Int32.ofNat f)), .val (.int (Int32.ofNat t)), .val (.ref bm), .val (.int (own_want (own_le bd v0) (own_le bd v1) (own_le bd v2) (own_le bd v3) (own_le bd v4) f t)), .val (.int (-1 : Int32))] []))
    refine own_by (fun _ kZ => XS.iconst X121.here hx rfl (hb hby at_190) kZ) ?_
    show own_R p.tables e below _ (T121.setTop (mkF m 191 #[.val (.int p1), .val (.int p2), .val (.int p3), .val (.int p4), .val (.int p5), .val (.int (Int32.ofNat 4)), .val (.int vi), .val (.int v0), .val (.int v1), .val (.int v2), .val (.int v3), .val (.int v4), .val (.double (FP.i2d bd)), .second, .val (.int (Int32.ofNat f)), .val (.int (Int32.ofNat t)), .val (.ref bm), .val (.int (own_want (own_le bd v0) (own_le bd v1) (own_le bd v2) (own_le bd v3) (own_le bd v4) f t)), .val (.int (-1 : Int32))] [(.int (4 : Int32))]))
    refine own_by (fun _ kZ => XS.iload X121.here hx rfl (hb hby at_191) rfl kZ) ?_
    show own_R p.tables e below _ (T121.setTop (mkF m 193 #[.val (.int p1), .val (.int p2), .val (.int p3), .val (.int p4), .val (.int p5), .val (.int (Int32.ofNat 4)), .val (.int vi), .val (.int v0), .val (.int v1), .val (.int v2), .val (.int v3), .val (.int v4), .val (.double (FP.i2d bd)), .second, .val (.int (Int32.ofNat f)), .val (.int (Int32.ofNat t)), .val (.ref bm), .val (.int (own_want (own_le bd v0) (own_le bd v1) (own_le bd v2) (own_le bd v3) (own_le bd v4) f t)), .val (.int (-1 : Int32))] [(.int v4), (.int (4 : Int32))]))
    refine own_by (fun _ kZ => XS.iload X121.here hx rfl (hb hby at_193) rfl kZ) ?_
    show own_R p.tables e below _ (T121.setTop (mkF m 195 #[.val (.int p1), .val (.int p2), .val (.int p3), .val (.int p4), .val (.int p5), .val (.int (Int32.ofNat 4)), .val (.int vi), .val (.int v0), .val (.int v1), .val (.int v2), .val (.int v3), .val (.int v4), .val (.double (FP.i2d bd)), .second, .val (.int (Int32.ofNat f)), .val (.int (Int32.ofNat t)), .val (.ref bm), .val (.int (own_want (own_le bd v0) (own_le bd v1) (own_le bd v2) (own_le bd v3) (own_le bd v4) f t)), .val (.int (-1 : Int32))] [(.int (Int32.ofNat f)), (.int v4), (.int (4 : Int32))]))
    refine own_by (fun _ kZ => XS.iload X121.here hx rfl (hb hby at_195) rfl kZ) ?_
    show own_R p.tables e below _ (T121.setTop (mkF m 197 #[.val (.int p1), .val (.int p2), .val (.int p3), .val (.int p4), .val (.int p5), .val (.int (Int32.ofNat 4)), .val (.int vi), .val (.int v0), .val (.int v1), .val (.int v2), .val (.int v3), .val (.int v4), .val (.double (FP.i2d bd)), .second, .val (.int (Int32.ofNat f)), .val (.int (Int32.ofNat t)), .val (.ref bm), .val (.int (own_want (own_le bd v0) (own_le bd v1) (own_le bd v2) (own_le bd v3) (own_le bd v4) f t)), .val (.int (-1 : Int32))] [(.int (Int32.ofNat t)), (.int (Int32.ofNat f)), (.int v4), (.int (4 : Int32))]))
    refine own_by (fun _ kZ => own_dload X121.here hx rfl (hb hby at_197) rfl kZ) ?_
    show own_R p.tables e below _ (T121.setTop (mkF m 199 #[.val (.int p1), .val (.int p2), .val (.int p3), .val (.int p4), .val (.int p5), .val (.int (Int32.ofNat 4)), .val (.int vi), .val (.int v0), .val (.int v1), .val (.int v2), .val (.int v3), .val (.int v4), .val (.double (FP.i2d bd)), .second, .val (.int (Int32.ofNat f)), .val (.int (Int32.ofNat t)), .val (.ref bm), .val (.int (own_want (own_le bd v0) (own_le bd v1) (own_le bd v2) (own_le bd v3) (own_le bd v4) f t)), .val (.int (-1 : Int32))] [(.double (FP.i2d bd)), (.int (Int32.ofNat t)), (.int (Int32.ofNat f)), (.int v4), (.int (4 : Int32))]))
    obtain ⟨_, _, ⟨T122, L122, k122, n122⟩, -, X122, ⟨Lc122, hQ122, l122, y122, z122⟩, st122⟩ := Jvm.LawKit.callS X121 hx (y := (⟨"com/example/frugal_scheduler/frugalscheduler/planners/MinTreeFirstAtMostPinLaw", "hit", "(IIIID)Z"⟩ : MethodName)) hown (mvT hZ (hw _ (List.mem_of_getElem? (i := 31) rfl))) (mvT hZ (hw _ (List.mem_of_getElem? (i := 32) rfl))) (mvT hZ (hw _ (List.mem_of_getElem? (i := 33) rfl))) (mvT hZ (hw _ (List.mem_of_getElem? (i := 34) rfl))) (by decide) (backOf (W := 0) (rm6 l Z a0 hw [] (4 : Int32) v4 (Int32.ofNat f) (Int32.ofNat t) (FP.i2d bd) bd T118.heap n0 Z120 rfl) hZ (hw _ (List.mem_of_getElem? (i := 34) rfl)) (hw _ (List.mem_of_getElem? (i := 33) rfl)) (by decide) (by decide)) (g := (mkF m 199 #[.val (.int p1), .val (.int p2), .val (.int p3), .val (.int p4), .val (.int p5), .val (.int (Int32.ofNat 4)), .val (.int vi), .val (.int v0), .val (.int v1), .val (.int v2), .val (.int v3), .val (.int v4), .val (.double (FP.i2d bd)), .second, .val (.int (Int32.ofNat f)), .val (.int (Int32.ofNat t)), .val (.ref bm), .val (.int (own_want (own_le bd v0) (own_le bd v1) (own_le bd v2) (own_le bd v3) (own_le bd v4) f t)), .val (.int (-1 : Int32))] [(.double (FP.i2d bd)), (.int (Int32.ofNat t)), (.int (Int32.ofNat f)), (.int v4), (.int (4 : Int32))])) rfl (by rw [hml]; rfl) (argsL := [(.int (4 : Int32)), (.int v4), (.int (Int32.ofNat f)), (.int (Int32.ofNat t)), (.double (FP.i2d bd))]) (rest := []) (lenOf own_pd4 rfl) rfl (by show 2 * 0 + _ ≤ _; exact Nat.le_of_eq rfl) (hb hby at_199) (fun _ _ => ⟨rfl, e121, (by decide : 2 + 0 ≤ _), (by decide : 19 + 0 ≤ _)⟩)
    dsimp only [Pt.U, Pt.locs, Pt.cells, Pt.slots] at X122 l122 y122 z122 st122 hQ122
    subst l122 y122 z122
    obtain ⟨rfl, Nq122, e122⟩ := hQ122
    have N122 := Fr.app N121 Nq122
    refine own_by st122 ?_
    show own_R p.tables e below _ (T122.setTop (mkF m 202 #[.val (.int p1), .val (.int p2), .val (.int p3), .val (.int p4), .val (.int p5), .val (.int (Int32.ofNat 4)), .val (.int vi), .val (.int v0), .val (.int v1), .val (.int v2), .val (.int v3), .val (.int v4), .val (.double (FP.i2d bd)), .second, .val (.int (Int32.ofNat f)), .val (.int (Int32.ofNat t)), .val (.ref bm), .val (.int (own_want (own_le bd v0) (own_le bd v1) (own_le bd v2) (own_le bd v3) (own_le bd v4) f t)), .val (.int (-1 : Int32))] [(.int (own_hit (4 : Int32) v4 (Int32.ofNat f) (Int32.ofNat t) bd))]))
    obtain ⟨e4, h_e4⟩ : ∃ z : Int32, z = (if (own_hit (4 : Int32) v4 (Int32.ofNat f) (Int32.ofNat t) bd) = (0 : Int32) then (-1 : Int32) else (4 : Int32)) := ⟨_, rfl⟩
    refine own_by (S' := T122.setTop (mkF m 208 #[.val (.int p1), .val (.int p2), .val (.int p3), .val (.int p4), .val (.int p5), .val (.int (Int32.ofNat 4)), .val (.int vi), .val (.int v0), .val (.int v1), .val (.int v2), .val (.int v3), .val (.int v4), .val (.double (FP.i2d bd)), .second, .val (.int (Int32.ofNat f)), .val (.int (Int32.ofNat t)), .val (.ref bm), .val (.int (own_want (own_le bd v0) (own_le bd v1) (own_le bd v2) (own_le bd v3) (own_le bd v4) f t)), .val (.int e4)] [])) (fun _ kZ => ?_) ?_
    · skip
      show Steps p.tables e below (T122.setTop (mkF m 202 #[.val (.int p1), .val (.int p2), .val (.int p3), .val (.int p4), .val (.int p5), .val (.int (Int32.ofNat 4)), .val (.int vi), .val (.int v0), .val (.int v1), .val (.int v2), .val (.int v3), .val (.int v4), .val (.double (FP.i2d bd)), .second, .val (.int (Int32.ofNat f)), .val (.int (Int32.ofNat t)), .val (.ref bm), .val (.int (own_want (own_le bd v0) (own_le bd v1) (own_le bd v2) (own_le bd v3) (own_le bd v4) f t)), .val (.int (-1 : Int32))] [(.int (own_hit (4 : Int32) v4 (Int32.ofNat f) (Int32.ofNat t) bd))])) _
      by_cases hd202 : (own_hit (4 : Int32) v4 (Int32.ofNat f) (Int32.ofNat t) bd) = (0 : Int32)
      · skip
        refine XS.ifYes X122.here hx rfl (pc0 := 202) (pc' := 208) rfl (hb hby at_202) rfl ((if0 _ _).trans (teq hd202).1) (by decide) (by decide) ?_
        show Steps p.tables e below (T122.setTop (mkF m 208 #[.val (.int p1), .val (.int p2), .val (.int p3), .val (.int p4), .val (.int p5), .val (.int (Int32.ofNat 4)), .val (.int vi), .val (.int v0), .val (.int v1), .val (.int v2), .val (.int v3), .val (.int v4), .val (.double (FP.i2d bd)), .second, .val (.int (Int32.ofNat f)), .val (.int (Int32.ofNat t)), .val (.ref bm), .val (.int (own_want (own_le bd v0) (own_le bd v1) (own_le bd v2) (own_le bd v3) (own_le bd v4) f t)), .val (.int (-1 : Int32))] [])) _
        rw [if_pos hd202] at h_e4
        subst h_e4
        exact kZ
      · skip
        refine XS.ifNo X122.here hx rfl (hb hby at_202) rfl ((if0 _ _).trans (feq hd202).1) ?_
        show Steps p.tables e below (T122.setTop (mkF m 205 #[.val (.int p1), .val (.int p2), .val (.int p3), .val (.int p4), .val (.int p5), .val (.int (Int32.ofNat 4)), .val (.int vi), .val (.int v0), .val (.int v1), .val (.int v2), .val (.int v3), .val (.int v4), .val (.double (FP.i2d bd)), .second, .val (.int (Int32.ofNat f)), .val (.int (Int32.ofNat t)), .val (.ref bm), .val (.int (own_want (own_le bd v0) (own_le bd v1) (own_le bd v2) (own_le bd v3) (own_le bd v4) f t)), .val (.int (-1 : Int32))] [])) _
        refine XS.iconst X122.here hx rfl (hb hby at_205) ?_
        show Steps p.tables e below (T122.setTop (mkF m 206 #[.val (.int p1), .val (.int p2), .val (.int p3), .val (.int p4), .val (.int p5), .val (.int (Int32.ofNat 4)), .val (.int vi), .val (.int v0), .val (.int v1), .val (.int v2), .val (.int v3), .val (.int v4), .val (.double (FP.i2d bd)), .second, .val (.int (Int32.ofNat f)), .val (.int (Int32.ofNat t)), .val (.ref bm), .val (.int (own_want (own_le bd v0) (own_le bd v1) (own_le bd v2) (own_le bd v3) (own_le bd v4) f t)), .val (.int (-1 : Int32))] [(.int (4 : Int32))])) _
        refine XS.istore X122.here hx rfl (hb hby at_206) rfl (l' := #[.val (.int p1), .val (.int p2), .val (.int p3), .val (.int p4), .val (.int p5), .val (.int (Int32.ofNat 4)), .val (.int vi), .val (.int v0), .val (.int v1), .val (.int v2), .val (.int v3), .val (.int v4), .val (.double (FP.i2d bd)), .second, .val (.int (Int32.ofNat f)), .val (.int (Int32.ofNat t)), .val (.ref bm), .val (.int (own_want (own_le bd v0) (own_le bd v1) (own_le bd v2) (own_le bd v3) (own_le bd v4) f t)), .val (.int (4 : Int32))]) rfl ?_
        show Steps p.tables e below (T122.setTop (mkF m 208 #[.val (.int p1), .val (.int p2), .val (.int p3), .val (.int p4), .val (.int p5), .val (.int (Int32.ofNat 4)), .val (.int vi), .val (.int v0), .val (.int v1), .val (.int v2), .val (.int v3), .val (.int v4), .val (.double (FP.i2d bd)), .second, .val (.int (Int32.ofNat f)), .val (.int (Int32.ofNat t)), .val (.ref bm), .val (.int (own_want (own_le bd v0) (own_le bd v1) (own_le bd v2) (own_le bd v3) (own_le bd v4) f t)), .val (.int (4 : Int32))] [])) _
        rw [if_neg hd202] at h_e4
        subst h_e4
        exact kZ
    show own_R p.tables e below _ (T122.setTop (mkF m 208 #[.val (.int p1), .val (.int p2), .val (.int p3), .val (.int p4), .val (.int p5), .val (.int (Int32.ofNat 4)), .val (.int vi), .val (.int v0), .val (.int v1), .val (.int v2), .val (.int v3), .val (.int v4), .val (.double (FP.i2d bd)), .second, .val (.int (Int32.ofNat f)), .val (.int (Int32.ofNat t)), .val (.ref bm), .val (.int (own_want (own_le bd v0) (own_le bd v1) (own_le bd v2) (own_le bd v3) (own_le bd v4) f t)), .val (.int e4)] []))
    refine own_by (fun _ kZ => XS.iconst X122.here hx rfl (hb hby at_208) kZ) ?_
    show own_R p.tables e below _ (T122.setTop (mkF m 209 #[.val (.int p1), .val (.int p2), .val (.int p3), .val (.int p4), .val (.int p5), .val (.int (Int32.ofNat 4)), .val (.int vi), .val (.int v0), .val (.int v1), .val (.int v2), .val (.int v3), .val (.int v4), .val (.double (FP.i2d bd)), .second, .val (.int (Int32.ofNat f)), .val (.int (Int32.ofNat t)), .val (.ref bm), .val (.int (own_want (own_le bd v0) (own_le bd v1) (own_le bd v2) (own_le bd v3) (own_le bd v4) f t)), .val (.int e4)] [(.int (3 : Int32))]))
    refine own_by (fun _ kZ => XS.iload X122.here hx rfl (hb hby at_209) rfl kZ) ?_
    show own_R p.tables e below _ (T122.setTop (mkF m 211 #[.val (.int p1), .val (.int p2), .val (.int p3), .val (.int p4), .val (.int p5), .val (.int (Int32.ofNat 4)), .val (.int vi), .val (.int v0), .val (.int v1), .val (.int v2), .val (.int v3), .val (.int v4), .val (.double (FP.i2d bd)), .second, .val (.int (Int32.ofNat f)), .val (.int (Int32.ofNat t)), .val (.ref bm), .val (.int (own_want (own_le bd v0) (own_le bd v1) (own_le bd v2) (own_le bd v3) (own_le bd v4) f t)), .val (.int e4)] [(.int v3), (.int (3 : Int32))]))
    refine own_by (fun _ kZ => XS.iload X122.here hx rfl (hb hby at_211) rfl kZ) ?_
    show own_R p.tables e below _ (T122.setTop (mkF m 213 #[.val (.int p1), .val (.int p2), .val (.int p3), .val (.int p4), .val (.int p5), .val (.int (Int32.ofNat 4)), .val (.int vi), .val (.int v0), .val (.int v1), .val (.int v2), .val (.int v3), .val (.int v4), .val (.double (FP.i2d bd)), .second, .val (.int (Int32.ofNat f)), .val (.int (Int32.ofNat t)), .val (.ref bm), .val (.int (own_want (own_le bd v0) (own_le bd v1) (own_le bd v2) (own_le bd v3) (own_le bd v4) f t)), .val (.int e4)] [(.int (Int32.ofNat f)), (.int v3), (.int (3 : Int32))]))
    refine own_by (fun _ kZ => XS.iload X122.here hx rfl (hb hby at_213) rfl kZ) ?_
    show own_R p.tables e below _ (T122.setTop (mkF m 215 #[.val (.int p1), .val (.int p2), .val (.int p3), .val (.int p4), .val (.int p5), .val (.int (Int32.ofNat 4)), .val (.int vi), .val (.int v0), .val (.int v1), .val (.int v2), .val (.int v3), .val (.int v4), .val (.double (FP.i2d bd)), .second, .val (.int (Int32.ofNat f)), .val (.int (Int32.ofNat t)), .val (.ref bm), .val (.int (own_want (own_le bd v0) (own_le bd v1) (own_le bd v2) (own_le bd v3) (own_le bd v4) f t)), .val (.int e4)] [(.int (Int32.ofNat t)), (.int (Int32.ofNat f)), (.int v3), (.int (3 : Int32))]))
    refine own_by (fun _ kZ => own_dload X122.here hx rfl (hb hby at_215) rfl kZ) ?_
    show own_R p.tables e below _ (T122.setTop (mkF m 217 #[.val (.int p1), .val (.int p2), .val (.int p3), .val (.int p4), .val (.int p5), .val (.int (Int32.ofNat 4)), .val (.int vi), .val (.int v0), .val (.int v1), .val (.int v2), .val (.int v3), .val (.int v4), .val (.double (FP.i2d bd)), .second, .val (.int (Int32.ofNat f)), .val (.int (Int32.ofNat t)), .val (.ref bm), .val (.int (own_want (own_le bd v0) (own_le bd v1) (own_le bd v2) (own_le bd v3) (own_le bd v4) f t)), .val (.int e4)] [(.double (FP.i2d bd)), (.int (Int32.ofNat t)), (.int (Int32.ofNat f)), (.int v3), (.int (3 : Int32))]))
    obtain ⟨_, _, ⟨T123, L123, k123, n123⟩, -, X123, ⟨Lc123, hQ123, l123, y123, z123⟩, st123⟩ := Jvm.LawKit.callS X122 hx (y := (⟨"com/example/frugal_scheduler/frugalscheduler/planners/MinTreeFirstAtMostPinLaw", "hit", "(IIIID)Z"⟩ : MethodName)) hown (mvT hZ (hw _ (List.mem_of_getElem? (i := 31) rfl))) (mvT hZ (hw _ (List.mem_of_getElem? (i := 32) rfl))) (mvT hZ (hw _ (List.mem_of_getElem? (i := 33) rfl))) (mvT hZ (hw _ (List.mem_of_getElem? (i := 34) rfl))) (by decide) (backOf (W := 0) (rm6 l Z a0 hw [] (3 : Int32) v3 (Int32.ofNat f) (Int32.ofNat t) (FP.i2d bd) bd T118.heap n0 Z120 rfl) hZ (hw _ (List.mem_of_getElem? (i := 34) rfl)) (hw _ (List.mem_of_getElem? (i := 33) rfl)) (by decide) (by decide)) (g := (mkF m 217 #[.val (.int p1), .val (.int p2), .val (.int p3), .val (.int p4), .val (.int p5), .val (.int (Int32.ofNat 4)), .val (.int vi), .val (.int v0), .val (.int v1), .val (.int v2), .val (.int v3), .val (.int v4), .val (.double (FP.i2d bd)), .second, .val (.int (Int32.ofNat f)), .val (.int (Int32.ofNat t)), .val (.ref bm), .val (.int (own_want (own_le bd v0) (own_le bd v1) (own_le bd v2) (own_le bd v3) (own_le bd v4) f t)), .val (.int e4)] [(.double (FP.i2d bd)), (.int (Int32.ofNat t)), (.int (Int32.ofNat f)), (.int v3), (.int (3 : Int32))])) rfl (by rw [hml]; rfl) (argsL := [(.int (3 : Int32)), (.int v3), (.int (Int32.ofNat f)), (.int (Int32.ofNat t)), (.double (FP.i2d bd))]) (rest := []) (lenOf own_pd4 rfl) rfl (by show 2 * 0 + _ ≤ _; exact Nat.le_of_eq rfl) (hb hby at_217) (fun _ _ => ⟨rfl, e122, (by decide : 2 + 0 ≤ _), (by decide : 19 + 0 ≤ _)⟩)
    dsimp only [Pt.U, Pt.locs, Pt.cells, Pt.slots] at X123 l123 y123 z123 st123 hQ123
    subst l123 y123 z123
    obtain ⟨rfl, Nq123, e123⟩ := hQ123
    have N123 := Fr.app N122 Nq123
    refine own_by st123 ?_
    show own_R p.tables e below _ (T123.setTop (mkF m 220 #[.val (.int p1), .val (.int p2), .val (.int p3), .val (.int p4), .val (.int p5), .val (.int (Int32.ofNat 4)), .val (.int vi), .val (.int v0), .val (.int v1), .val (.int v2), .val (.int v3), .val (.int v4), .val (.double (FP.i2d bd)), .second, .val (.int (Int32.ofNat f)), .val (.int (Int32.ofNat t)), .val (.ref bm), .val (.int (own_want (own_le bd v0) (own_le bd v1) (own_le bd v2) (own_le bd v3) (own_le bd v4) f t)), .val (.int e4)] [(.int (own_hit (3 : Int32) v3 (Int32.ofNat f) (Int32.ofNat t) bd))]))
    obtain ⟨e3, h_e3⟩ : ∃ z : Int32, z = (if (own_hit (3 : Int32) v3 (Int32.ofNat f) (Int32.ofNat t) bd) = (0 : Int32) then e4 else (3 : Int32)) := ⟨_, rfl⟩
    refine own_by (S' := T123.setTop (mkF m 226 #[.val (.int p1), .val (.int p2), .val (.int p3), .val (.int p4), .val (.int p5), .val (.int (Int32.ofNat 4)), .val (.int vi), .val (.int v0), .val (.int v1), .val (.int v2), .val (.int v3), .val (.int v4), .val (.double (FP.i2d bd)), .second, .val (.int (Int32.ofNat f)), .val (.int (Int32.ofNat t)), .val (.ref bm), .val (.int (own_want (own_le bd v0) (own_le bd v1) (own_le bd v2) (own_le bd v3) (own_le bd v4) f t)), .val (.int e3)] [])) (fun _ kZ => ?_) ?_
    · skip
      show Steps p.tables e below (T123.setTop (mkF m 220 #[.val (.int p1), .val (.int p2), .val (.int p3), .val (.int p4), .val (.int p5), .val (.int (Int32.ofNat 4)), .val (.int vi), .val (.int v0), .val (.int v1), .val (.int v2), .val (.int v3), .val (.int v4), .val (.double (FP.i2d bd)), .second, .val (.int (Int32.ofNat f)), .val (.int (Int32.ofNat t)), .val (.ref bm), .val (.int (own_want (own_le bd v0) (own_le bd v1) (own_le bd v2) (own_le bd v3) (own_le bd v4) f t)), .val (.int e4)] [(.int (own_hit (3 : Int32) v3 (Int32.ofNat f) (Int32.ofNat t) bd))])) _
      by_cases hd220 : (own_hit (3 : Int32) v3 (Int32.ofNat f) (Int32.ofNat t) bd) = (0 : Int32)
      · skip
        refine XS.ifYes X123.here hx rfl (pc0 := 220) (pc' := 226) rfl (hb hby at_220) rfl ((if0 _ _).trans (teq hd220).1) (by decide) (by decide) ?_
        show Steps p.tables e below (T123.setTop (mkF m 226 #[.val (.int p1), .val (.int p2), .val (.int p3), .val (.int p4), .val (.int p5), .val (.int (Int32.ofNat 4)), .val (.int vi), .val (.int v0), .val (.int v1), .val (.int v2), .val (.int v3), .val (.int v4), .val (.double (FP.i2d bd)), .second, .val (.int (Int32.ofNat f)), .val (.int (Int32.ofNat t)), .val (.ref bm), .val (.int (own_want (own_le bd v0) (own_le bd v1) (own_le bd v2) (own_le bd v3) (own_le bd v4) f t)), .val (.int e4)] [])) _
        rw [if_pos hd220] at h_e3
        subst h_e3
        exact kZ
      · skip
        refine XS.ifNo X123.here hx rfl (hb hby at_220) rfl ((if0 _ _).trans (feq hd220).1) ?_
        show Steps p.tables e below (T123.setTop (mkF m 223 #[.val (.int p1), .val (.int p2), .val (.int p3), .val (.int p4), .val (.int p5), .val (.int (Int32.ofNat 4)), .val (.int vi), .val (.int v0), .val (.int v1), .val (.int v2), .val (.int v3), .val (.int v4), .val (.double (FP.i2d bd)), .second, .val (.int (Int32.ofNat f)), .val (.int (Int32.ofNat t)), .val (.ref bm), .val (.int (own_want (own_le bd v0) (own_le bd v1) (own_le bd v2) (own_le bd v3) (own_le bd v4) f t)), .val (.int e4)] [])) _
        refine XS.iconst X123.here hx rfl (hb hby at_223) ?_
        show Steps p.tables e below (T123.setTop (mkF m 224 #[.val (.int p1), .val (.int p2), .val (.int p3), .val (.int p4), .val (.int p5), .val (.int (Int32.ofNat 4)), .val (.int vi), .val (.int v0), .val (.int v1), .val (.int v2), .val (.int v3), .val (.int v4), .val (.double (FP.i2d bd)), .second, .val (.int (Int32.ofNat f)), .val (.int (Int32.ofNat t)), .val (.ref bm), .val (.int (own_want (own_le bd v0) (own_le bd v1) (own_le bd v2) (own_le bd v3) (own_le bd v4) f t)), .val (.int e4)] [(.int (3 : Int32))])) _
        refine XS.istore X123.here hx rfl (hb hby at_224) rfl (l' := #[.val (.int p1), .val (.int p2), .val (.int p3), .val (.int p4), .val (.int p5), .val (.int (Int32.ofNat 4)), .val (.int vi), .val (.int v0), .val (.int v1), .val (.int v2), .val (.int v3), .val (.int v4), .val (.double (FP.i2d bd)), .second, .val (.int (Int32.ofNat f)), .val (.int (Int32.ofNat t)), .val (.ref bm), .val (.int (own_want (own_le bd v0) (own_le bd v1) (own_le bd v2) (own_le bd v3) (own_le bd v4) f t)), .val (.int (3 : Int32))]) rfl ?_
        show Steps p.tables e below (T123.setTop (mkF m 226 #[.val (.int p1), .val (.int p2), .val (.int p3), .val (.int p4), .val (.int p5), .val (.int (Int32.ofNat 4)), .val (.int vi), .val (.int v0), .val (.int v1), .val (.int v2), .val (.int v3), .val (.int v4), .val (.double (FP.i2d bd)), .second, .val (.int (Int32.ofNat f)), .val (.int (Int32.ofNat t)), .val (.ref bm), .val (.int (own_want (own_le bd v0) (own_le bd v1) (own_le bd v2) (own_le bd v3) (own_le bd v4) f t)), .val (.int (3 : Int32))] [])) _
        rw [if_neg hd220] at h_e3
        subst h_e3
        exact kZ
    show own_R p.tables e below _ (T123.setTop (mkF m 226 #[.val (.int p1), .val (.int p2), .val (.int p3), .val (.int p4), .val (.int p5), .val (.int (Int32.ofNat 4)), .val (.int vi), .val (.int v0), .val (.int v1), .val (.int v2), .val (.int v3), .val (.int v4), .val (.double (FP.i2d bd)), .second, .val (.int (Int32.ofNat f)), .val (.int (Int32.ofNat t)), .val (.ref bm), .val (.int (own_want (own_le bd v0) (own_le bd v1) (own_le bd v2) (own_le bd v3) (own_le bd v4) f t)), .val (.int e3)] []))
    refine own_by (fun _ kZ => XS.iconst X123.here hx rfl (hb hby at_226) kZ) ?_
    show own_R p.tables e below _ (T123.setTop (mkF m 227 #[.val (.int p1), .val (.int p2), .val (.int p3), .val (.int p4), .val (.int p5), .val (.int (Int32.ofNat 4)), .val (.int vi), .val (.int v0), .val (.int v1), .val (.int v2), .val (.int v3), .val (.int v4), .val (.double (FP.i2d bd)), .second, .val (.int (Int32.ofNat f)), .val (.int (Int32.ofNat t)), .val (.ref bm), .val (.int (own_want (own_le bd v0) (own_le bd v1) (own_le bd v2) (own_le bd v3) (own_le bd v4) f t)), .val (.int e3)] [(.int (2 : Int32))]))
    refine own_by (fun _ kZ => XS.iload X123.here hx rfl (hb hby at_227) rfl kZ) ?_
    show own_R p.tables e below _ (T123.setTop (mkF m 229 #[.val (.int p1), .val (.int p2), .val (.int p3), .val (.int p4), .val (.int p5), .val (.int (Int32.ofNat 4)), .val (.int vi), .val (.int v0), .val (.int v1), .val (.int v2), .val (.int v3), .val (.int v4), .val (.double (FP.i2d bd)), .second, .val (.int (Int32.ofNat f)), .val (.int (Int32.ofNat t)), .val (.ref bm), .val (.int (own_want (own_le bd v0) (own_le bd v1) (own_le bd v2) (own_le bd v3) (own_le bd v4) f t)), .val (.int e3)] [(.int v2), (.int (2 : Int32))]))
    refine own_by (fun _ kZ => XS.iload X123.here hx rfl (hb hby at_229) rfl kZ) ?_
    show own_R p.tables e below _ (T123.setTop (mkF m 231 #[.val (.int p1), .val (.int p2), .val (.int p3), .val (.int p4), .val (.int p5), .val (.int (Int32.ofNat 4)), .val (.int vi), .val (.int v0), .val (.int v1), .val (.int v2), .val (.int v3), .val (.int v4), .val (.double (FP.i2d bd)), .second, .val (.int (Int32.ofNat f)), .val (.int (Int32.ofNat t)), .val (.ref bm), .val (.int (own_want (own_le bd v0) (own_le bd v1) (own_le bd v2) (own_le bd v3) (own_le bd v4) f t)), .val (.int e3)] [(.int (Int32.ofNat f)), (.int v2), (.int (2 : Int32))]))
    refine own_by (fun _ kZ => XS.iload X123.here hx rfl (hb hby at_231) rfl kZ) ?_
    show own_R p.tables e below _ (T123.setTop (mkF m 233 #[.val (.int p1), .val (.int p2), .val (.int p3), .val (.int p4), .val (.int p5), .val (.int (Int32.ofNat 4)), .val (.int vi), .val (.int v0), .val (.int v1), .val (.int v2), .val (.int v3), .val (.int v4), .val (.double (FP.i2d bd)), .second, .val (.int (Int32.ofNat f)), .val (.int (Int32.ofNat t)), .val (.ref bm), .val (.int (own_want (own_le bd v0) (own_le bd v1) (own_le bd v2) (own_le bd v3) (own_le bd v4) f t)), .val (.int e3)] [(.int (Int32.ofNat t)), (.int (Int32.ofNat f)), (.int v2), (.int (2 : Int32))]))
    refine own_by (fun _ kZ => own_dload X123.here hx rfl (hb hby at_233) rfl kZ) ?_
    show own_R p.tables e below _ (T123.setTop (mkF m 235 #[.val (.int p1), .val (.int p2), .val (.int p3), .val (.int p4), .val (.int p5), .val (.int (Int32.ofNat 4)), .val (.int vi), .val (.int v0), .val (.int v1), .val (.int v2), .val (.int v3), .val (.int v4), .val (.double (FP.i2d bd)), .second, .val (.int (Int32.ofNat f)), .val (.int (Int32.ofNat t)), .val (.ref bm), .val (.int (own_want (own_le bd v0) (own_le bd v1) (own_le bd v2) (own_le bd v3) (own_le bd v4) f t)), .val (.int e3)] [(.double (FP.i2d bd)), (.int (Int32.ofNat t)), (.int (Int32.ofNat f)), (.int v2), (.int (2 : Int32))]))
    obtain ⟨_, _, ⟨T124, L124, k124, n124⟩, -, X124, ⟨Lc124, hQ124, l124, y124, z124⟩, st124⟩ := Jvm.LawKit.callS X123 hx (y := (⟨"com/example/frugal_scheduler/frugalscheduler/planners/MinTreeFirstAtMostPinLaw", "hit", "(IIIID)Z"⟩ : MethodName)) hown (mvT hZ (hw _ (List.mem_of_getElem? (i := 31) rfl))) (mvT hZ (hw _ (List.mem_of_getElem? (i := 32) rfl))) (mvT hZ (hw _ (List.mem_of_getElem? (i := 33) rfl))) (mvT hZ (hw _ (List.mem_of_getElem? (i := 34) rfl))) (by decide) (backOf (W := 0) (rm6 l Z a0 hw [] (2 : Int32) v2 (Int32.ofNat f) (Int32.ofNat t) (FP.i2d bd) bd T118.heap n0 Z120 rfl) hZ (hw _ (List.mem_of_getElem? (i := 34) rfl)) (hw _ (List.mem_of_getElem? (i := 33) rfl)) (by decide) (by decide)) (g := (mkF m 235 #[.val (.int p1), .val (.int p2), .val (.int p3), .val (.int p4), .val (.int p5), .val (.int (Int32.ofNat 4)), .val (.int vi), .val (.int v0), .val (.int v1), .val (.int v2), .val (.int v3), .val (.int v4), .val (.double (FP.i2d bd)), .second, .val (.int (Int32.ofNat f)), .val (.int (Int32.ofNat t)), .val (.ref bm), .val (.int (own_want (own_le bd v0) (own_le bd v1) (own_le bd v2) (own_le bd v3) (own_le bd v4) f t)), .val (.int e3)] [(.double (FP.i2d bd)), (.int (Int32.ofNat t)), (.int (Int32.ofNat f)), (.int v2), (.int (2 : Int32))])) rfl (by rw [hml]; rfl) (argsL := [(.int (2 : Int32)), (.int v2), (.int (Int32.ofNat f)), (.int (Int32.ofNat t)), (.double (FP.i2d bd))]) (rest := []) (lenOf own_pd4 rfl) rfl (by show 2 * 0 + _ ≤ _; exact Nat.le_of_eq rfl) (hb hby at_235) (fun _ _ => ⟨rfl, e123, (by decide : 2 + 0 ≤ _), (by decide : 19 + 0 ≤ _)⟩)
    dsimp only [Pt.U, Pt.locs, Pt.cells, Pt.slots] at X124 l124 y124 z124 st124 hQ124
    subst l124 y124 z124
    obtain ⟨rfl, Nq124, e124⟩ := hQ124
    have N124 := Fr.app N123 Nq124
    refine own_by st124 ?_
    show own_R p.tables e below _ (T124.setTop (mkF m 238 #[.val (.int p1), .val (.int p2), .val (.int p3), .val (.int p4), .val (.int p5), .val (.int (Int32.ofNat 4)), .val (.int vi), .val (.int v0), .val (.int v1), .val (.int v2), .val (.int v3), .val (.int v4), .val (.double (FP.i2d bd)), .second, .val (.int (Int32.ofNat f)), .val (.int (Int32.ofNat t)), .val (.ref bm), .val (.int (own_want (own_le bd v0) (own_le bd v1) (own_le bd v2) (own_le bd v3) (own_le bd v4) f t)), .val (.int e3)] [(.int (own_hit (2 : Int32) v2 (Int32.ofNat f) (Int32.ofNat t) bd))]))
    obtain ⟨e2, h_e2⟩ : ∃ z : Int32, z = (if (own_hit (2 : Int32) v2 (Int32.ofNat f) (Int32.ofNat t) bd) = (0 : Int32) then e3 else (2 : Int32)) := ⟨_, rfl⟩
    refine own_by (S' := T124.setTop (mkF m 244 #[.val (.int p1), .val (.int p2), .val (.int p3), .val (.int p4), .val (.int p5), .val (.int (Int32.ofNat 4)), .val (.int vi), .val (.int v0), .val (.int v1), .val (.int v2), .val (.int v3), .val (.int v4), .val (.double (FP.i2d bd)), .second, .val (.int (Int32.ofNat f)), .val (.int (Int32.ofNat t)), .val (.ref bm), .val (.int (own_want (own_le bd v0) (own_le bd v1) (own_le bd v2) (own_le bd v3) (own_le bd v4) f t)), .val (.int e2)] [])) (fun _ kZ => ?_) ?_
    · skip
      show Steps p.tables e below (T124.setTop (mkF m 238 #[.val (.int p1), .val (.int p2), .val (.int p3), .val (.int p4), .val (.int p5), .val (.int (Int32.ofNat 4)), .val (.int vi), .val (.int v0), .val (.int v1), .val (.int v2), .val (.int v3), .val (.int v4), .val (.double (FP.i2d bd)), .second, .val (.int (Int32.ofNat f)), .val (.int (Int32.ofNat t)), .val (.ref bm), .val (.int (own_want (own_le bd v0) (own_le bd v1) (own_le bd v2) (own_le bd v3) (own_le bd v4) f t)), .val (.int e3)] [(.int (own_hit (2 : Int32) v2 (Int32.ofNat f) (Int32.ofNat t) bd))])) _
      by_cases hd238 : (own_hit (2 : Int32) v2 (Int32.ofNat f) (Int32.ofNat t) bd) = (0 : Int32)
      · skip
        refine XS.ifYes X124.here hx rfl (pc0 := 238) (pc' := 244) rfl (hb hby at_238) rfl ((if0 _ _).trans (teq hd238).1) (by decide) (by decide) ?_
        show Steps p.tables e below (T124.setTop (mkF m 244 #[.val (.int p1), .val (.int p2), .val (.int p3), .val (.int p4), .val (.int p5), .val (.int (Int32.ofNat 4)), .val (.int vi), .val (.int v0), .val (.int v1), .val (.int v2), .val (.int v3), .val (.int v4), .val (.double (FP.i2d bd)), .second, .val (.int (Int32.ofNat f)), .val (.int (Int32.ofNat t)), .val (.ref bm), .val (.int (own_want (own_le bd v0) (own_le bd v1) (own_le bd v2) (own_le bd v3) (own_le bd v4) f t)), .val (.int e3)] [])) _
        rw [if_pos hd238] at h_e2
        subst h_e2
        exact kZ
      · skip
        refine XS.ifNo X124.here hx rfl (hb hby at_238) rfl ((if0 _ _).trans (feq hd238).1) ?_
        show Steps p.tables e below (T124.setTop (mkF m 241 #[.val (.int p1), .val (.int p2), .val (.int p3), .val (.int p4), .val (.int p5), .val (.int (Int32.ofNat 4)), .val (.int vi), .val (.int v0), .val (.int v1), .val (.int v2), .val (.int v3), .val (.int v4), .val (.double (FP.i2d bd)), .second, .val (.int (Int32.ofNat f)), .val (.int (Int32.ofNat t)), .val (.ref bm), .val (.int (own_want (own_le bd v0) (own_le bd v1) (own_le bd v2) (own_le bd v3) (own_le bd v4) f t)), .val (.int e3)] [])) _
        refine XS.iconst X124.here hx rfl (hb hby at_241) ?_
        show Steps p.tables e below (T124.setTop (mkF m 242 #[.val (.int p1), .val (.int p2), .val (.int p3), .val (.int p4), .val (.int p5), .val (.int (Int32.ofNat 4)), .val (.int vi), .val (.int v0), .val (.int v1), .val (.int v2), .val (.int v3), .val (.int v4), .val (.double (FP.i2d bd)), .second, .val (.int (Int32.ofNat f)), .val (.int (Int32.ofNat t)), .val (.ref bm), .val (.int (own_want (own_le bd v0) (own_le bd v1) (own_le bd v2) (own_le bd v3) (own_le bd v4) f t)), .val (.int e3)] [(.int (2 : Int32))])) _
        refine XS.istore X124.here hx rfl (hb hby at_242) rfl (l' := #[.val (.int p1), .val (.int p2), .val (.int p3), .val (.int p4), .val (.int p5), .val (.int (Int32.ofNat 4)), .val (.int vi), .val (.int v0), .val (.int v1), .val (.int v2), .val (.int v3), .val (.int v4), .val (.double (FP.i2d bd)), .second, .val (.int (Int32.ofNat f)), .val (.int (Int32.ofNat t)), .val (.ref bm), .val (.int (own_want (own_le bd v0) (own_le bd v1) (own_le bd v2) (own_le bd v3) (own_le bd v4) f t)), .val (.int (2 : Int32))]) rfl ?_
        show Steps p.tables e below (T124.setTop (mkF m 244 #[.val (.int p1), .val (.int p2), .val (.int p3), .val (.int p4), .val (.int p5), .val (.int (Int32.ofNat 4)), .val (.int vi), .val (.int v0), .val (.int v1), .val (.int v2), .val (.int v3), .val (.int v4), .val (.double (FP.i2d bd)), .second, .val (.int (Int32.ofNat f)), .val (.int (Int32.ofNat t)), .val (.ref bm), .val (.int (own_want (own_le bd v0) (own_le bd v1) (own_le bd v2) (own_le bd v3) (own_le bd v4) f t)), .val (.int (2 : Int32))] [])) _
        rw [if_neg hd238] at h_e2
        subst h_e2
        exact kZ
    show own_R p.tables e below _ (T124.setTop (mkF m 244 #[.val (.int p1), .val (.int p2), .val (.int p3), .val (.int p4), .val (.int p5), .val (.int (Int32.ofNat 4)), .val (.int vi), .val (.int v0), .val (.int v1), .val (.int v2), .val (.int v3), .val (.int v4), .val (.double (FP.i2d bd)), .second, .val (.int (Int32.ofNat f)), .val (.int (Int32.ofNat t)), .val (.ref bm), .val (.int (own_want (own_le bd v0) (own_le bd v1) (own_le bd v2) (own_le bd v3) (own_le bd v4) f t)), .val (.int e2)] []))
    refine own_by (fun _ kZ => XS.iconst X124.here hx rfl (hb hby at_244) kZ) ?_
    show own_R p.tables e below _ (T124.setTop (mkF m 245 #[.val (.int p1), .val (.int p2), .val (.int p3), .val (.int p4), .val (.int p5), .val (.int (Int32.ofNat 4)), .val (.int vi), .val (.int v0), .val (.int v1), .val (.int v2), .val (.int v3), .val (.int v4), .val (.double (FP.i2d bd)), .second, .val (.int (Int32.ofNat f)), .val (.int (Int32.ofNat t)), .val (.ref bm), .val (.int (own_want (own_le bd v0) (own_le bd v1) (own_le bd v2) (own_le bd v3) (own_le bd v4) f t)), .val (.int e2)] [(.int (1 : Int32))]))
    refine own_by (fun _ kZ => XS.iload X124.here hx rfl (hb hby at_245) rfl kZ) ?_
    show own_R p.tables e below _ (T124.setTop (mkF m 247 #[.val (.int p1), .val (.int p2), .val (.int p3), .val (.int p4), .val (.int p5), .val (.int (Int32.ofNat 4)), .val (.int vi), .val (.int v0), .val (.int v1), .val (.int v2), .val (.int v3), .val (.int v4), .val (.double (FP.i2d bd)), .second, .val (.int (Int32.ofNat f)), .val (.int (Int32.ofNat t)), .val (.ref bm), .val (.int (own_want (own_le bd v0) (own_le bd v1) (own_le bd v2) (own_le bd v3) (own_le bd v4) f t)), .val (.int e2)] [(.int v1), (.int (1 : Int32))]))
    refine own_by (fun _ kZ => XS.iload X124.here hx rfl (hb hby at_247) rfl kZ) ?_
    show own_R p.tables e below _ (T124.setTop (mkF m 249 #[.val (.int p1), .val (.int p2), .val (.int p3), .val (.int p4), .val (.int p5), .val (.int (Int32.ofNat 4)), .val (.int vi), .val (.int v0), .val (.int v1), .val (.int v2), .val (.int v3), .val (.int v4), .val (.double (FP.i2d bd)), .second, .val (.int (Int32.ofNat f)), .val (.int (Int32.ofNat t)), .val (.ref bm), .val (.int (own_want (own_le bd v0) (own_le bd v1) (own_le bd v2) (own_le bd v3) (own_le bd v4) f t)), .val (.int e2)] [(.int (Int32.ofNat f)), (.int v1), (.int (1 : Int32))]))
    refine own_by (fun _ kZ => XS.iload X124.here hx rfl (hb hby at_249) rfl kZ) ?_
    show own_R p.tables e below _ (T124.setTop (mkF m 251 #[.val (.int p1), .val (.int p2), .val (.int p3), .val (.int p4), .val (.int p5), .val (.int (Int32.ofNat 4)), .val (.int vi), .val (.int v0), .val (.int v1), .val (.int v2), .val (.int v3), .val (.int v4), .val (.double (FP.i2d bd)), .second, .val (.int (Int32.ofNat f)), .val (.int (Int32.ofNat t)), .val (.ref bm), .val (.int (own_want (own_le bd v0) (own_le bd v1) (own_le bd v2) (own_le bd v3) (own_le bd v4) f t)), .val (.int e2)] [(.int (Int32.ofNat t)), (.int (Int32.ofNat f)), (.int v1), (.int (1 : Int32))]))
    refine own_by (fun _ kZ => own_dload X124.here hx rfl (hb hby at_251) rfl kZ) ?_
    show own_R p.tables e below _ (T124.setTop (mkF m 253 #[.val (.int p1), .val (.int p2), .val (.int p3), .val (.int p4), .val (.int p5), .val (.int (Int32.ofNat 4)), .val (.int vi), .val (.int v0), .val (.int v1), .val (.int v2), .val (.int v3), .val (.int v4), .val (.double (FP.i2d bd)), .second, .val (.int (Int32.ofNat f)), .val (.int (Int32.ofNat t)), .val (.ref bm), .val (.int (own_want (own_le bd v0) (own_le bd v1) (own_le bd v2) (own_le bd v3) (own_le bd v4) f t)), .val (.int e2)] [(.double (FP.i2d bd)), (.int (Int32.ofNat t)), (.int (Int32.ofNat f)), (.int v1), (.int (1 : Int32))]))
    obtain ⟨_, _, ⟨T125, L125, k125, n125⟩, -, X125, ⟨Lc125, hQ125, l125, y125, z125⟩, st125⟩ := Jvm.LawKit.callS X124 hx (y := (⟨"com/example/frugal_scheduler/frugalscheduler/planners/MinTreeFirstAtMostPinLaw", "hit", "(IIIID)Z"⟩ : MethodName)) hown (mvT hZ (hw _ (List.mem_of_getElem? (i := 31) rfl))) (mvT hZ (hw _ (List.mem_of_getElem? (i := 32) rfl))) (mvT hZ (hw _ (List.mem_of_getElem? (i := 33) rfl))) (mvT hZ (hw _ (List.mem_of_getElem? (i := 34) rfl))) (by decide) (backOf (W := 0) (rm6 l Z a0 hw [] (1 : Int32) v1 (Int32.ofNat f) (Int32.ofNat t) (FP.i2d bd) bd T118.heap n0 Z120 rfl) hZ (hw _ (List.mem_of_getElem? (i := 34) rfl)) (hw _ (List.mem_of_getElem? (i := 33) rfl)) (by decide) (by decide)) (g := (mkF m 253 #[.val (.int p1), .val (.int p2), .val (.int p3), .val (.int p4), .val (.int p5), .val (.int (Int32.ofNat 4)), .val (.int vi), .val (.int v0), .val (.int v1), .val (.int v2), .val (.int v3), .val (.int v4), .val (.double (FP.i2d bd)), .second, .val (.int (Int32.ofNat f)), .val (.int (Int32.ofNat t)), .val (.ref bm), .val (.int (own_want (own_le bd v0) (own_le bd v1) (own_le bd v2) (own_le bd v3) (own_le bd v4) f t)), .val (.int e2)] [(.double (FP.i2d bd)), (.int (Int32.ofNat t)), (.int (Int32.ofNat f)), (.int v1), (.int (1 : Int32))])) rfl (by rw [hml]; rfl) (argsL := [(.int (1 : Int32)), (.int v1), (.int (Int32.ofNat f)), (.int (Int32.ofNat t)), (.double (FP.i2d bd))]) (rest := []) (lenOf own_pd4 rfl) rfl (by show 2 * 0 + _ ≤ _; exact Nat.le_of_eq rfl) (hb hby at_253) (fun _ _ => ⟨rfl, e124, (by decide : 2 + 0 ≤ _), (by decide : 19 + 0 ≤ _)⟩)
    dsimp only [Pt.U, Pt.locs, Pt.cells, Pt.slots] at X125 l125 y125 z125 st125 hQ125
    subst l125 y125 z125
    obtain ⟨rfl, Nq125, e125⟩ := hQ125
    have N125 := Fr.app N124 Nq125
    refine own_by st125 ?_
    show own_R p.tables e below _ (T125.setTop (mkF m 256 #[.val (.int p1), .val (.int p2), .val (.int p3), .val (.int p4), .val (.int p5), .val (.int (Int32.ofNat 4)), .val (.int vi), .val (.int v0), .val (.int v1), .val (.int v2), .val (.int v3), .val (.int v4), .val (.double (FP.i2d bd)), .second, .val (.int (Int32.ofNat f)), .val (.int (Int32.ofNat t)), .val (.ref bm), .val (.int (own_want (own_le bd v0) (own_le bd v1) (own_le bd v2) (own_le bd v3) (own_le bd v4) f t)), .val (.int e2)] [(.int (own_hit (1 : Int32) v1 (Int32.ofNat f) (Int32.ofNat t) bd))]))
    obtain ⟨e1, h_e1⟩ : ∃ z : Int32, z = (if (own_hit (1 : Int32) v1 (Int32.ofNat f) (Int32.ofNat t) bd) = (0 : Int32) then e2 else (1 : Int32)) := ⟨_, rfl⟩
    refine own_by (S' := T125.setTop (mkF m 262 #[.val (.int p1), .val (.int p2), .val (.int p3), .val (.int p4), .val (.int p5), .val (.int (Int32.ofNat 4)), .val (.int vi), .val (.int v0), .val (.int v1), .val (.int v2), .val (.int v3), .val (.int v4), .val (.double (FP.i2d bd)), .second, .val (.int (Int32.ofNat f)), .val (.int (Int32.ofNat t)), .val (.ref bm), .val (.int (own_want (own_le bd v0) (own_le bd v1) (own_le bd v2) (own_le bd v3) (own_le bd v4) f t)), .val (.int e1)] [])) (fun _ kZ => ?_) ?_
    · skip
      show Steps p.tables e below (T125.setTop (mkF m 256 #[.val (.int p1), .val (.int p2), .val (.int p3), .val (.int p4), .val (.int p5), .val (.int (Int32.ofNat 4)), .val (.int vi), .val (.int v0), .val (.int v1), .val (.int v2), .val (.int v3), .val (.int v4), .val (.double (FP.i2d bd)), .second, .val (.int (Int32.ofNat f)), .val (.int (Int32.ofNat t)), .val (.ref bm), .val (.int (own_want (own_le bd v0) (own_le bd v1) (own_le bd v2) (own_le bd v3) (own_le bd v4) f t)), .val (.int e2)] [(.int (own_hit (1 : Int32) v1 (Int32.ofNat f) (Int32.ofNat t) bd))])) _
      by_cases hd256 : (own_hit (1 : Int32) v1 (Int32.ofNat f) (Int32.ofNat t) bd) = (0 : Int32)
      · skip
        refine XS.ifYes X125.here hx rfl (pc0 := 256) (pc' := 262) rfl (hb hby at_256) rfl ((if0 _ _).trans (teq hd256).1) (by decide) (by decide) ?_
        show Steps p.tables e below (T125.setTop (mkF m 262 #[.val (.int p1), .val (.int p2), .val (.int p3), .val (.int p4), .val (.int p5), .val (.int (Int32.ofNat 4)), .val (.int vi), .val (.int v0), .val (.int v1), .val (.int v2), .val (.int v3), .val (.int v4), .val (.double (FP.i2d bd)), .second, .val (.int (Int32.ofNat f)), .val (.int (Int32.ofNat t)), .val (.ref bm), .val (.int (own_want (own_le bd v0) (own_le bd v1) (own_le bd v2) (own_le bd v3) (own_le bd v4) f t)), .val (.int e2)] [])) _
        rw [if_pos hd256] at h_e1
        subst h_e1
        exact kZ
      · skip
        refine XS.ifNo X125.here hx rfl (hb hby at_256) rfl ((if0 _ _).trans (feq hd256).1) ?_
        show Steps p.tables e below (T125.setTop (mkF m 259 #[.val (.int p1), .val (.int p2), .val (.int p3), .val (.int p4), .val (.int p5), .val (.int (Int32.ofNat 4)), .val (.int vi), .val (.int v0), .val (.int v1), .val (.int v2), .val (.int v3), .val (.int v4), .val (.double (FP.i2d bd)), .second, .val (.int (Int32.ofNat f)), .val (.int (Int32.ofNat t)), .val (.ref bm), .val (.int (own_want (own_le bd v0) (own_le bd v1) (own_le bd v2) (own_le bd v3) (own_le bd v4) f t)), .val (.int e2)] [])) _
        refine XS.iconst X125.here hx rfl (hb hby at_259) ?_
        show Steps p.tables e below (T125.setTop (mkF m 260 #[.val (.int p1), .val (.int p2), .val (.int p3), .val (.int p4), .val (.int p5), .val (.int (Int32.ofNat 4)), .val (.int vi), .val (.int v0), .val (.int v1), .val (.int v2), .val (.int v3), .val (.int v4), .val (.double (FP.i2d bd)), .second, .val (.int (Int32.ofNat f)), .val (.int (Int32.ofNat t)), .val (.ref bm), .val (.int (own_want (own_le bd v0) (own_le bd v1) (own_le bd v2) (own_le bd v3) (own_le bd v4) f t)), .val (.int e2)] [(.int (1 : Int32))])) _
        refine XS.istore X125.here hx rfl (hb hby at_260) rfl (l' := #[.val (.int p1), .val (.int p2), .val (.int p3), .val (.int p4), .val (.int p5), .val (.int (Int32.ofNat 4)), .val (.int vi), .val (.int v0), .val (.int v1), .val (.int v2), .val (.int v3), .val (.int v4), .val (.double (FP.i2d bd)), .second, .val (.int (Int32.ofNat f)), .val (.int (Int32.ofNat t)), .val (.ref bm), .val (.int (own_want (own_le bd v0) (own_le bd v1) (own_le bd v2) (own_le bd v3) (own_le bd v4) f t)), .val (.int (1 : Int32))]) rfl ?_
        show Steps p.tables e below (T125.setTop (mkF m 262 #[.val (.int p1), .val (.int p2), .val (.int p3), .val (.int p4), .val (.int p5), .val (.int (Int32.ofNat 4)), .val (.int vi), .val (.int v0), .val (.int v1), .val (.int v2), .val (.int v3), .val (.int v4), .val (.double (FP.i2d bd)), .second, .val (.int (Int32.ofNat f)), .val (.int (Int32.ofNat t)), .val (.ref bm), .val (.int (own_want (own_le bd v0) (own_le bd v1) (own_le bd v2) (own_le bd v3) (own_le bd v4) f t)), .val (.int (1 : Int32))] [])) _
        rw [if_neg hd256] at h_e1
        subst h_e1
        exact kZ
    show own_R p.tables e below _ (T125.setTop (mkF m 262 #[.val (.int p1), .val (.int p2), .val (.int p3), .val (.int p4), .val (.int p5), .val (.int (Int32.ofNat 4)), .val (.int vi), .val (.int v0), .val (.int v1), .val (.int v2), .val (.int v3), .val (.int v4), .val (.double (FP.i2d bd)), .second, .val (.int (Int32.ofNat f)), .val (.int (Int32.ofNat t)), .val (.ref bm), .val (.int (own_want (own_le bd v0) (own_le bd v1) (own_le bd v2) (own_le bd v3) (own_le bd v4) f t)), .val (.int e1)] []))
    refine own_by (fun _ kZ => XS.iconst X125.here hx rfl (hb hby at_262) kZ) ?_
    show own_R p.tables e below _ (T125.setTop (mkF m 263 #[.val (.int p1), .val (.int p2), .val (.int p3), .val (.int p4), .val (.int p5), .val (.int (Int32.ofNat 4)), .val (.int vi), .val (.int v0), .val (.int v1), .val (.int v2), .val (.int v3), .val (.int v4), .val (.double (FP.i2d bd)), .second, .val (.int (Int32.ofNat f)), .val (.int (Int32.ofNat t)), .val (.ref bm), .val (.int (own_want (own_le bd v0) (own_le bd v1) (own_le bd v2) (own_le bd v3) (own_le bd v4) f t)), .val (.int e1)] [(.int (0 : Int32))]))
    refine own_by (fun _ kZ => XS.iload X125.here hx rfl (hb hby at_263) rfl kZ) ?_
    show own_R p.tables e below _ (T125.setTop (mkF m 265 #[.val (.int p1), .val (.int p2), .val (.int p3), .val (.int p4), .val (.int p5), .val (.int (Int32.ofNat 4)), .val (.int vi), .val (.int v0), .val (.int v1), .val (.int v2), .val (.int v3), .val (.int v4), .val (.double (FP.i2d bd)), .second, .val (.int (Int32.ofNat f)), .val (.int (Int32.ofNat t)), .val (.ref bm), .val (.int (own_want (own_le bd v0) (own_le bd v1) (own_le bd v2) (own_le bd v3) (own_le bd v4) f t)), .val (.int e1)] [(.int v0), (.int (0 : Int32))]))
    refine own_by (fun _ kZ => XS.iload X125.here hx rfl (hb hby at_265) rfl kZ) ?_
    show own_R p.tables e below _ (T125.setTop (mkF m 267 #[.val (.int p1), .val (.int p2), .val (.int p3), .val (.int p4), .val (.int p5), .val (.int (Int32.ofNat 4)), .val (.int vi), .val (.int v0), .val (.int v1), .val (.int v2), .val (.int v3), .val (.int v4), .val (.double (FP.i2d bd)), .second, .val (.int (Int32.ofNat f)), .val (.int (Int32.ofNat t)), .val (.ref bm), .val (.int (own_want (own_le bd v0) (own_le bd v1) (own_le bd v2) (own_le bd v3) (own_le bd v4) f t)), .val (.int e1)] [(.int (Int32.ofNat f)), (.int v0), (.int (0 : Int32))]))
    refine own_by (fun _ kZ => XS.iload X125.here hx rfl (hb hby at_267) rfl kZ) ?_
    show own_R p.tables e below _ (T125.setTop (mkF m 269 #[.val (.int p1), .val (.int p2), .val (.int p3), .val (.int p4), .val (.int p5), .val (.int (Int32.ofNat 4)), .val (.int vi), .val (.int v0), .val (.int v1), .val (.int v2), .val (.int v3), .val (.int v4), .val (.double (FP.i2d bd)), .second, .val (.int (Int32.ofNat f)), .val (.int (Int32.ofNat t)), .val (.ref bm), .val (.int (own_want (own_le bd v0) (own_le bd v1) (own_le bd v2) (own_le bd v3) (own_le bd v4) f t)), .val (.int e1)] [(.int (Int32.ofNat t)), (.int (Int32.ofNat f)), (.int v0), (.int (0 : Int32))]))
    refine own_by (fun _ kZ => own_dload X125.here hx rfl (hb hby at_269) rfl kZ) ?_
    show own_R p.tables e below _ (T125.setTop (mkF m 271 #[.val (.int p1), .val (.int p2), .val (.int p3), .val (.int p4), .val (.int p5), .val (.int (Int32.ofNat 4)), .val (.int vi), .val (.int v0), .val (.int v1), .val (.int v2), .val (.int v3), .val (.int v4), .val (.double (FP.i2d bd)), .second, .val (.int (Int32.ofNat f)), .val (.int (Int32.ofNat t)), .val (.ref bm), .val (.int (own_want (own_le bd v0) (own_le bd v1) (own_le bd v2) (own_le bd v3) (own_le bd v4) f t)), .val (.int e1)] [(.double (FP.i2d bd)), (.int (Int32.ofNat t)), (.int (Int32.ofNat f)), (.int v0), (.int (0 : Int32))]))
    obtain ⟨_, _, ⟨T126, L126, k126, n126⟩, -, X126, ⟨Lc126, hQ126, l126, y126, z126⟩, st126⟩ := Jvm.LawKit.callS X125 hx (y := (⟨"com/example/frugal_scheduler/frugalscheduler/planners/MinTreeFirstAtMostPinLaw", "hit", "(IIIID)Z"⟩ : MethodName)) hown (mvT hZ (hw _ (List.mem_of_getElem? (i := 31) rfl))) (mvT hZ (hw _ (List.mem_of_getElem? (i := 32) rfl))) (mvT hZ (hw _ (List.mem_of_getElem? (i := 33) rfl))) (mvT hZ (hw _ (List.mem_of_getElem? (i := 34) rfl))) (by decide) (backOf (W := 0) (rm6 l Z a0 hw [] (0 : Int32) v0 (Int32.ofNat f) (Int32.ofNat t) (FP.i2d bd) bd T118.heap n0 Z120 rfl) hZ (hw _ (List.mem_of_getElem? (i := 34) rfl)) (hw _ (List.mem_of_getElem? (i := 33) rfl)) (by decide) (by decide)) (g := (mkF m 271 #[.val (.int p1), .val (.int p2), .val (.int p3), .val (.int p4), .val (.int p5), .val (.int (Int32.ofNat 4)), .val (.int vi), .val (.int v0), .val (.int v1), .val (.int v2), .val (.int v3), .val (.int v4), .val (.double (FP.i2d bd)), .second, .val (.int (Int32.ofNat f)), .val (.int (Int32.ofNat t)), .val (.ref bm), .val (.int (own_want (own_le bd v0) (own_le bd v1) (own_le bd v2) (own_le bd v3) (own_le bd v4) f t)), .val (.int e1)] [(.double (FP.i2d bd)), (.int (Int32.ofNat t)), (.int (Int32.ofNat f)), (.int v0), (.int (0 : Int32))])) rfl (by rw [hml]; rfl) (argsL := [(.int (0 : Int32)), (.int v0), (.int (Int32.ofNat f)), (.int (Int32.ofNat t)), (.double (FP.i2d bd))]) (rest := []) (lenOf own_pd4 rfl) rfl (by show 2 * 0 + _ ≤ _; exact Nat.le_of_eq rfl) (hb hby at_271) (fun _ _ => ⟨rfl, e125, (by decide : 2 + 0 ≤ _), (by decide : 19 + 0 ≤ _)⟩)
    dsimp only [Pt.U, Pt.locs, Pt.cells, Pt.slots] at X126 l126 y126 z126 st126 hQ126
    subst l126 y126 z126
    obtain ⟨rfl, Nq126, e126⟩ := hQ126
    have N126 := Fr.app N125 Nq126
    refine own_by st126 ?_
    show own_R p.tables e below _ (T126.setTop (mkF m 274 #[.val (.int p1), .val (.int p2), .val (.int p3), .val (.int p4), .val (.int p5), .val (.int (Int32.ofNat 4)), .val (.int vi), .val (.int v0), .val (.int v1), .val (.int v2), .val (.int v3), .val (.int v4), .val (.double (FP.i2d bd)), .second, .val (.int (Int32.ofNat f)), .val (.int (Int32.ofNat t)), .val (.ref bm), .val (.int (own_want (own_le bd v0) (own_le bd v1) (own_le bd v2) (own_le bd v3) (own_le bd v4) f t)), .val (.int e1)] [(.int (own_hit (0 : Int32) v0 (Int32.ofNat f) (Int32.ofNat t) bd))]))
    obtain ⟨e0, h_e0⟩ : ∃ z : Int32, z = (if (own_hit (0 : Int32) v0 (Int32.ofNat f) (Int32.ofNat t) bd) = (0 : Int32) then e1 else (0 : Int32)) := ⟨_, rfl⟩
    refine own_by (S' := T126.setTop (mkF m 280 #[.val (.int p1), .val (.int p2), .val (.int p3), .val (.int p4), .val (.int p5), .val (.int (Int32.ofNat 4)), .val (.int vi), .val (.int v0), .val (.int v1), .val (.int v2), .val (.int v3), .val (.int v4), .val (.double (FP.i2d bd)), .second, .val (.int (Int32.ofNat f)), .val (.int (Int32.ofNat t)), .val (.ref bm), .val (.int (own_want (own_le bd v0) (own_le bd v1) (own_le bd v2) (own_le bd v3) (own_le bd v4) f t)), .val (.int e0)] [])) (fun _ kZ => ?_) ?_
    · skip
      show Steps p.tables e below (T126.setTop (mkF m 274 #[.val (.int p1), .val (.int p2), .val (.int p3), .val (.int p4), .val (.int p5), .val (.int (Int32.ofNat 4)), .val (.int vi), .val (.int v0), .val (.int v1), .val (.int v2), .val (.int v3), .val (.int v4), .val (.double (FP.i2d bd)), .second, .val (.int (Int32.ofNat f)), .val (.int (Int32.ofNat t)), .val (.ref bm), .val (.int (own_want (own_le bd v0) (own_le bd v1) (own_le bd v2) (own_le bd v3) (own_le bd v4) f t)), .val (.int e1)] [(.int (own_hit (0 : Int32) v0 (Int32.ofNat f) (Int32.ofNat t) bd))])) _
      by_cases hd274 : (own_hit (0 : Int32) v0 (Int32.ofNat f) (Int32.ofNat t) bd) = (0 : Int32)
      · skip
        refine XS.ifYes X126.here hx rfl (pc0 := 274) (pc' := 280) rfl (hb hby at_274) rfl ((if0 _ _).trans (teq hd274).1) (by decide) (by decide) ?_
        show Steps p.tables e below (T126.setTop (mkF m 280 #[.val (.int p1), .val (.int p2), .val (.int p3), .val (.int p4), .val (.int p5), .val (.int (Int32.ofNat 4)), .val (.int vi), .val (.int v0), .val (.int v1), .val (.int v2), .val (.int v3), .val (.int v4), .val (.double (FP.i2d bd)), .second, .val (.int (Int32.ofNat f)), .val (.int (Int32.ofNat t)), .val (.ref bm), .val (.int (own_want (own_le bd v0) (own_le bd v1) (own_le bd v2) (own_le bd v3) (own_le bd v4) f t)), .val (.int e1)] [])) _
        rw [if_pos hd274] at h_e0
        subst h_e0
        exact kZ
      · skip
        refine XS.ifNo X126.here hx rfl (hb hby at_274) rfl ((if0 _ _).trans (feq hd274).1) ?_
        show Steps p.tables e below (T126.setTop (mkF m 277 #[.val (.int p1), .val (.int p2), .val (.int p3), .val (.int p4), .val (.int p5), .val (.int (Int32.ofNat 4)), .val (.int vi), .val (.int v0), .val (.int v1), .val (.int v2), .val (.int v3), .val (.int v4), .val (.double (FP.i2d bd)), .second, .val (.int (Int32.ofNat f)), .val (.int (Int32.ofNat t)), .val (.ref bm), .val (.int (own_want (own_le bd v0) (own_le bd v1) (own_le bd v2) (own_le bd v3) (own_le bd v4) f t)), .val (.int e1)] [])) _
        refine XS.iconst X126.here hx rfl (hb hby at_277) ?_
        show Steps p.tables e below (T126.setTop (mkF m 278 #[.val (.int p1), .val (.int p2), .val (.int p3), .val (.int p4), .val (.int p5), .val (.int (Int32.ofNat 4)), .val (.int vi), .val (.int v0), .val (.int v1), .val (.int v2), .val (.int v3), .val (.int v4), .val (.double (FP.i2d bd)), .second, .val (.int (Int32.ofNat f)), .val (.int (Int32.ofNat t)), .val (.ref bm), .val (.int (own_want (own_le bd v0) (own_le bd v1) (own_le bd v2) (own_le bd v3) (own_le bd v4) f t)), .val (.int e1)] [(.int (0 : Int32))])) _
        refine XS.istore X126.here hx rfl (hb hby at_278) rfl (l' := #[.val (.int p1), .val (.int p2), .val (.int p3), .val (.int p4), .val (.int p5), .val (.int (Int32.ofNat 4)), .val (.int vi), .val (.int v0), .val (.int v1), .val (.int v2), .val (.int v3), .val (.int v4), .val (.double (FP.i2d bd)), .second, .val (.int (Int32.ofNat f)), .val (.int (Int32.ofNat t)), .val (.ref bm), .val (.int (own_want (own_le bd v0) (own_le bd v1) (own_le bd v2) (own_le bd v3) (own_le bd v4) f t)), .val (.int (0 : Int32))]) rfl ?_
        show Steps p.tables e below (T126.setTop (mkF m 280 #[.val (.int p1), .val (.int p2), .val (.int p3), .val (.int p4), .val (.int p5), .val (.int (Int32.ofNat 4)), .val (.int vi), .val (.int v0), .val (.int v1), .val (.int v2), .val (.int v3), .val (.int v4), .val (.double (FP.i2d bd)), .second, .val (.int (Int32.ofNat f)), .val (.int (Int32.ofNat t)), .val (.ref bm), .val (.int (own_want (own_le bd v0) (own_le bd v1) (own_le bd v2) (own_le bd v3) (own_le bd v4) f t)), .val (.int (0 : Int32))] [])) _
        rw [if_neg hd274] at h_e0
        subst h_e0
        exact kZ
    show own_R p.tables e below _ (T126.setTop (mkF m 280 #[.val (.int p1), .val (.int p2), .val (.int p3), .val (.int p4), .val (.int p5), .val (.int (Int32.ofNat 4)), .val (.int vi), .val (.int v0), .val (.int v1), .val (.int v2), .val (.int v3), .val (.int v4), .val (.double (FP.i2d bd)), .second, .val (.int (Int32.ofNat f)), .val (.int (Int32.ofNat t)), .val (.ref bm), .val (.int (own_want (own_le bd v0) (own_le bd v1) (own_le bd v2) (own_le bd v3) (own_le bd v4) f t)), .val (.int e0)] []))
    refine own_by (fun _ kZ => XS.iload X126.here hx rfl (hb hby at_280) rfl kZ) ?_
    show own_R p.tables e below _ (T126.setTop (mkF m 282 #[.val (.int p1), .val (.int p2), .val (.int p3), .val (.int p4), .val (.int p5), .val (.int (Int32.ofNat 4)), .val (.int vi), .val (.int v0), .val (.int v1), .val (.int v2), .val (.int v3), .val (.int v4), .val (.double (FP.i2d bd)), .second, .val (.int (Int32.ofNat f)), .val (.int (Int32.ofNat t)), .val (.ref bm), .val (.int (own_want (own_le bd v0) (own_le bd v1) (own_le bd v2) (own_le bd v3) (own_le bd v4) f t)), .val (.int e0)] [(.int (own_want (own_le bd v0) (own_le bd v1) (own_le bd v2) (own_le bd v3) (own_le bd v4) f t))]))
    refine own_by (fun _ kZ => XS.iload X126.here hx rfl (hb hby at_282) rfl kZ) ?_
    show own_R p.tables e below _ (T126.setTop (mkF m 284 #[.val (.int p1), .val (.int p2), .val (.int p3), .val (.int p4), .val (.int p5), .val (.int (Int32.ofNat 4)), .val (.int vi), .val (.int v0), .val (.int v1), .val (.int v2), .val (.int v3), .val (.int v4), .val (.double (FP.i2d bd)), .second, .val (.int (Int32.ofNat f)), .val (.int (Int32.ofNat t)), .val (.ref bm), .val (.int (own_want (own_le bd v0) (own_le bd v1) (own_le bd v2) (own_le bd v3) (own_le bd v4) f t)), .val (.int e0)] [(.int e0), (.int (own_want (own_le bd v0) (own_le bd v1) (own_le bd v2) (own_le bd v3) (own_le bd v4) f t))]))
    refine own_by (fun _ kZ => XS.icmpNo X126.here hx rfl (hb hby at_284) rfl (teq (own_wfin (by omega) (by omega) h_e4 h_e3 h_e2 h_e1 h_e0 : (own_want (own_le bd v0) (own_le bd v1) (own_le bd v2) (own_le bd v3) (own_le bd v4) f t) = e0)).2 kZ) ?_
    show own_R p.tables e below _ (T126.setTop (mkF m 287 #[.val (.int p1), .val (.int p2), .val (.int p3), .val (.int p4), .val (.int p5), .val (.int (Int32.ofNat 4)), .val (.int vi), .val (.int v0), .val (.int v1), .val (.int v2), .val (.int v3), .val (.int v4), .val (.double (FP.i2d bd)), .second, .val (.int (Int32.ofNat f)), .val (.int (Int32.ofNat t)), .val (.ref bm), .val (.int (own_want (own_le bd v0) (own_le bd v1) (own_le bd v2) (own_le bd v3) (own_le bd v4) f t)), .val (.int e0)] []))
    refine own_by (fun _ kZ => XS.iconst X126.here hx rfl (hb hby at_287) kZ) ?_
    show own_R p.tables e below _ (T126.setTop (mkF m 288 #[.val (.int p1), .val (.int p2), .val (.int p3), .val (.int p4), .val (.int p5), .val (.int (Int32.ofNat 4)), .val (.int vi), .val (.int v0), .val (.int v1), .val (.int v2), .val (.int v3), .val (.int v4), .val (.double (FP.i2d bd)), .second, .val (.int (Int32.ofNat f)), .val (.int (Int32.ofNat t)), .val (.ref bm), .val (.int (own_want (own_le bd v0) (own_le bd v1) (own_le bd v2) (own_le bd v3) (own_le bd v4) f t)), .val (.int e0)] [(.int (1 : Int32))]))
    refine own_by (fun _ kZ => XS.goto X126.here hx rfl (pc0 := 288) (pc' := 292) rfl (hb hby at_288) (by decide) (by decide) kZ) ?_
    show own_R p.tables e below _ (T126.setTop (mkF m 292 #[.val (.int p1), .val (.int p2), .val (.int p3), .val (.int p4), .val (.int p5), .val (.int (Int32.ofNat 4)), .val (.int vi), .val (.int v0), .val (.int v1), .val (.int v2), .val (.int v3), .val (.int v4), .val (.double (FP.i2d bd)), .second, .val (.int (Int32.ofNat f)), .val (.int (Int32.ofNat t)), .val (.ref bm), .val (.int (own_want (own_le bd v0) (own_le bd v1) (own_le bd v2) (own_le bd v3) (own_le bd v4) f t)), .val (.int e0)] [(.int (1 : Int32))]))
    obtain ⟨fs, hr, hrun, hended, hW, hsame⟩ := X126.leave (v := some (.int (1 : Int32))) (fun h => by rw [Bd.returns] at h; cases h)
    refine own_end ⟨_, _, ?_, hrun, hended, _, _, rfl, ?_, ⟨_, rfl⟩, hW, hsame.mono (by decide) (by decide)⟩
    · exact retN X126 hx (t := .boolean) Bd.returns (by simp) (hb hby at_292) hr
    · show Q0 Z p1 p2 p3 p4 p5 h0 n0 _ T126.heap _
      rw [e126]
      exact ⟨rfl, N126⟩
  · skip
    show own_R p.tables e below _ (T70.setTop (mkF m 111 #[.val (.int p1), .val (.int p2), .val (.int p3), .val (.int p4), .val (.int p5), .val (.int (Int32.ofNat 5)), .val (.int vi), .val (.int v0), .val (.int v1), .val (.int v2), .val (.int v3), .val (.int v4), .val (.double (FP.i2d bd)), .second, .val (.int (Int32.ofNat f)), .val (.int (Int32.ofNat t)), .val (.ref bm), .unset, .unset] [(.double (FP.i2d v0)), (.int (0 : Int32)), (.ref bm)]))
    obtain ⟨cq127, kq127, q127a, q127b, q127c⟩ := isOf hZ rfl f71_bm
    obtain ⟨_, _, ⟨T127, L127, k127, n127⟩, -, X127, ⟨Lc127, hQ127, l127, y127, z127⟩, st127⟩ := X70.virtualBack hx (y := (⟨"com/example/frugal_scheduler/frugalscheduler/planners/MinTree", "set", "(ID)V"⟩ : MethodName)) (z := (⟨"com/example/frugal_scheduler/frugalscheduler/planners/MinTree", "set", "(ID)V"⟩ : MethodName)) hown (mvT hZ (hw _ (List.mem_of_getElem? (i := 21) rfl))) (mvT hZ (hw _ (List.mem_of_getElem? (i := 22) rfl))) (notFace_of_selects (args := #[]) (mvT hZ (hw _ (List.mem_of_getElem? (i := 24) rfl)))) (mvT hZ (hw _ (List.mem_of_getElem? (i := 24) rfl))) (mvT hZ (hw _ (List.mem_of_getElem? (i := 23) rfl))) (by decide) (backOf (W := 0) (rm4 l Z a0 hw [] bm (0 : Int32) (FP.i2d v0) b 5 (fun _ => vi) 0 v0 T70.heap n0 Z72 W70 rfl (by decide) rfl) hZ (hw _ (List.mem_of_getElem? (i := 25) rfl)) (hw _ (List.mem_of_getElem? (i := 3) rfl)) (by decide) (by decide)) q127a q127c (g := (mkF m 111 #[.val (.int p1), .val (.int p2), .val (.int p3), .val (.int p4), .val (.int p5), .val (.int (Int32.ofNat 5)), .val (.int vi), .val (.int v0), .val (.int v1), .val (.int v2), .val (.int v3), .val (.int v4), .val (.double (FP.i2d bd)), .second, .val (.int (Int32.ofNat f)), .val (.int (Int32.ofNat t)), .val (.ref bm), .unset, .unset] [(.double (FP.i2d v0)), (.int (0 : Int32)), (.ref bm)])) rfl (by rw [hml]; rfl) (Steps.refl _) (argsL := [(.int (0 : Int32)), (.double (FP.i2d v0))]) (rest := []) (lenOf own_pd2 rfl) rfl (by show 2 * 0 + _ ≤ _; exact Nat.le_of_eq rfl) (hb hby at_111) (fun _ _ => ⟨rfl, rfl, (by decide : 2 + 0 ≤ _), (by decide : 19 + 0 ≤ _)⟩)
    dsimp only [Pt.U, Pt.locs, Pt.cells, Pt.slots] at X127 l127 y127 z127 st127 hQ127
    subst l127 y127 z127
    obtain ⟨rfl, Nq127, K127, W127⟩ := hQ127
    have N127 := Fr.app N70 Nq127
    have f128_bm : Exa Z T127.heap bm "com/example/frugal_scheduler/frugalscheduler/planners/MinTree" := f71_bm.keep K127
    have Z129 : n0 ≤ T127.heap.size := Nat.le_trans Z72 K127.1
    refine own_by (fun _ kZ => st127.trans kZ) ?_
    show own_R p.tables e below _ (T127.setTop (mkF m 114 #[.val (.int p1), .val (.int p2), .val (.int p3), .val (.int p4), .val (.int p5), .val (.int (Int32.ofNat 5)), .val (.int vi), .val (.int v0), .val (.int v1), .val (.int v2), .val (.int v3), .val (.int v4), .val (.double (FP.i2d bd)), .second, .val (.int (Int32.ofNat f)), .val (.int (Int32.ofNat t)), .val (.ref bm), .unset, .unset] []))
    refine own_by (fun _ kZ => XS.iload X127.here hx rfl (hb hby at_114) rfl kZ) ?_
    show own_R p.tables e below _ (T127.setTop (mkF m 116 #[.val (.int p1), .val (.int p2), .val (.int p3), .val (.int p4), .val (.int p5), .val (.int (Int32.ofNat 5)), .val (.int vi), .val (.int v0), .val (.int v1), .val (.int v2), .val (.int v3), .val (.int v4), .val (.double (FP.i2d bd)), .second, .val (.int (Int32.ofNat f)), .val (.int (Int32.ofNat t)), .val (.ref bm), .unset, .unset] [(.int (Int32.ofNat 5))]))
    refine own_by (fun _ kZ => XS.iconst X127.here hx rfl (hb hby at_116) kZ) ?_
    show own_R p.tables e below _ (T127.setTop (mkF m 117 #[.val (.int p1), .val (.int p2), .val (.int p3), .val (.int p4), .val (.int p5), .val (.int (Int32.ofNat 5)), .val (.int vi), .val (.int v0), .val (.int v1), .val (.int v2), .val (.int v3), .val (.int v4), .val (.double (FP.i2d bd)), .second, .val (.int (Int32.ofNat f)), .val (.int (Int32.ofNat t)), .val (.ref bm), .unset, .unset] [(.int (1 : Int32)), (.int (Int32.ofNat 5))]))
    refine own_by (fun _ kZ => XS.icmpNo X127.here hx rfl (hb hby at_117) rfl (tlt (by decide : (1 : Int32) < (Int32.ofNat 5))).2.2.2 kZ) ?_
    show own_R p.tables e below _ (T127.setTop (mkF m 120 #[.val (.int p1), .val (.int p2), .val (.int p3), .val (.int p4), .val (.int p5), .val (.int (Int32.ofNat 5)), .val (.int vi), .val (.int v0), .val (.int v1), .val (.int v2), .val (.int v3), .val (.int v4), .val (.double (FP.i2d bd)), .second, .val (.int (Int32.ofNat f)), .val (.int (Int32.ofNat t)), .val (.ref bm), .unset, .unset] []))
    refine own_by (fun _ kZ => XS.aload X127.here hx rfl (hb hby at_120) rfl rfl kZ) ?_
    show own_R p.tables e below _ (T127.setTop (mkF m 122 #[.val (.int p1), .val (.int p2), .val (.int p3), .val (.int p4), .val (.int p5), .val (.int (Int32.ofNat 5)), .val (.int vi), .val (.int v0), .val (.int v1), .val (.int v2), .val (.int v3), .val (.int v4), .val (.double (FP.i2d bd)), .second, .val (.int (Int32.ofNat f)), .val (.int (Int32.ofNat t)), .val (.ref bm), .unset, .unset] [(.ref bm)]))
    refine own_by (fun _ kZ => XS.iconst X127.here hx rfl (hb hby at_122) kZ) ?_
    show own_R p.tables e below _ (T127.setTop (mkF m 123 #[.val (.int p1), .val (.int p2), .val (.int p3), .val (.int p4), .val (.int p5), .val (.int (Int32.ofNat 5)), .val (.int vi), .val (.int v0), .val (.int v1), .val (.int v2), .val (.int v3), .val (.int v4), .val (.double (FP.i2d bd)), .second, .val (.int (Int32.ofNat f)), .val (.int (Int32.ofNat t)), .val (.ref bm), .unset, .unset] [(.int (1 : Int32)), (.ref bm)]))
    refine own_by (fun _ kZ => XS.iload X127.here hx rfl (hb hby at_123) rfl kZ) ?_
    show own_R p.tables e below _ (T127.setTop (mkF m 125 #[.val (.int p1), .val (.int p2), .val (.int p3), .val (.int p4), .val (.int p5), .val (.int (Int32.ofNat 5)), .val (.int vi), .val (.int v0), .val (.int v1), .val (.int v2), .val (.int v3), .val (.int v4), .val (.double (FP.i2d bd)), .second, .val (.int (Int32.ofNat f)), .val (.int (Int32.ofNat t)), .val (.ref bm), .unset, .unset] [(.int v1), (.int (1 : Int32)), (.ref bm)]))
    refine own_by (fun _ kZ => own_i2d X127.here hx rfl (hb hby at_125) rfl kZ) ?_
    show own_R p.tables e below _ (T127.setTop (mkF m 126 #[.val (.int p1), .val (.int p2), .val (.int p3), .val (.int p4), .val (.int p5), .val (.int (Int32.ofNat 5)), .val (.int vi), .val (.int v0), .val (.int v1), .val (.int v2), .val (.int v3), .val (.int v4), .val (.double (FP.i2d bd)), .second, .val (.int (Int32.ofNat f)), .val (.int (Int32.ofNat t)), .val (.ref bm), .unset, .unset] [(.double (FP.i2d v1)), (.int (1 : Int32)), (.ref bm)]))
    obtain ⟨cq130, kq130, q130a, q130b, q130c⟩ := isOf hZ rfl f128_bm
    obtain ⟨_, _, ⟨T130, L130, k130, n130⟩, -, X130, ⟨Lc130, hQ130, l130, y130, z130⟩, st130⟩ := X127.virtualBack hx (y := (⟨"com/example/frugal_scheduler/frugalscheduler/planners/MinTree", "set", "(ID)V"⟩ : MethodName)) (z := (⟨"com/example/frugal_scheduler/frugalscheduler/planners/MinTree", "set", "(ID)V"⟩ : MethodName)) hown (mvT hZ (hw _ (List.mem_of_getElem? (i := 21) rfl))) (mvT hZ (hw _ (List.mem_of_getElem? (i := 22) rfl))) (notFace_of_selects (args := #[]) (mvT hZ (hw _ (List.mem_of_getElem? (i := 24) rfl)))) (mvT hZ (hw _ (List.mem_of_getElem? (i := 24) rfl))) (mvT hZ (hw _ (List.mem_of_getElem? (i := 23) rfl))) (by decide) (backOf (W := 0) (rm4 l Z a0 hw [] bm (1 : Int32) (FP.i2d v1) b 5 (own_setg own_min (fun _ => vi) (own_leaves 5) 0 v0) 1 v1 T127.heap n0 Z129 W127 rfl (by decide) rfl) hZ (hw _ (List.mem_of_getElem? (i := 25) rfl)) (hw _ (List.mem_of_getElem? (i := 3) rfl)) (by decide) (by decide)) q130a q130c (g := (mkF m 126 #[.val (.int p1), .val (.int p2), .val (.int p3), .val (.int p4), .val (.int p5), .val (.int (Int32.ofNat 5)), .val (.int vi), .val (.int v0), .val (.int v1), .val (.int v2), .val (.int v3), .val (.int v4), .val (.double (FP.i2d bd)), .second, .val (.int (Int32.ofNat f)), .val (.int (Int32.ofNat t)), .val (.ref bm), .unset, .unset] [(.double (FP.i2d v1)), (.int (1 : Int32)), (.ref bm)])) rfl (by rw [hml]; rfl) (Steps.refl _) (argsL := [(.int (1 : Int32)), (.double (FP.i2d v1))]) (rest := []) (lenOf own_pd2 rfl) rfl (by show 2 * 0 + _ ≤ _; exact Nat.le_of_eq rfl) (hb hby at_126) (fun _ _ => ⟨rfl, rfl, (by decide : 2 + 0 ≤ _), (by decide : 19 + 0 ≤ _)⟩)
    dsimp only [Pt.U, Pt.locs, Pt.cells, Pt.slots] at X130 l130 y130 z130 st130 hQ130
    subst l130 y130 z130
    obtain ⟨rfl, Nq130, K130, W130⟩ := hQ130
    have N130 := Fr.app N127 Nq130
    have f131_bm : Exa Z T130.heap bm "com/example/frugal_scheduler/frugalscheduler/planners/MinTree" := f128_bm.keep K130
    have Z132 : n0 ≤ T130.heap.size := Nat.le_trans Z129 K130.1
    refine own_by (fun _ kZ => st130.trans kZ) ?_
    show own_R p.tables e below _ (T130.setTop (mkF m 129 #[.val (.int p1), .val (.int p2), .val (.int p3), .val (.int p4), .val (.int p5), .val (.int (Int32.ofNat 5)), .val (.int vi), .val (.int v0), .val (.int v1), .val (.int v2), .val (.int v3), .val (.int v4), .val (.double (FP.i2d bd)), .second, .val (.int (Int32.ofNat f)), .val (.int (Int32.ofNat t)), .val (.ref bm), .unset, .unset] []))
    refine own_by (fun _ kZ => XS.iload X130.here hx rfl (hb hby at_129) rfl kZ) ?_
    show own_R p.tables e below _ (T130.setTop (mkF m 131 #[.val (.int p1), .val (.int p2), .val (.int p3), .val (.int p4), .val (.int p5), .val (.int (Int32.ofNat 5)), .val (.int vi), .val (.int v0), .val (.int v1), .val (.int v2), .val (.int v3), .val (.int v4), .val (.double (FP.i2d bd)), .second, .val (.int (Int32.ofNat f)), .val (.int (Int32.ofNat t)), .val (.ref bm), .unset, .unset] [(.int (Int32.ofNat 5))]))
    refine own_by (fun _ kZ => XS.iconst X130.here hx rfl (hb hby at_131) kZ) ?_
    show own_R p.tables e below _ (T130.setTop (mkF m 132 #[.val (.int p1), .val (.int p2), .val (.int p3), .val (.int p4), .val (.int p5), .val (.int (Int32.ofNat 5)), .val (.int vi), .val (.int v0), .val (.int v1), .val (.int v2), .val (.int v3), .val (.int v4), .val (.double (FP.i2d bd)), .second, .val (.int (Int32.ofNat f)), .val (.int (Int32.ofNat t)), .val (.ref bm), .unset, .unset] [(.int (2 : Int32)), (.int (Int32.ofNat 5))]))
    refine own_by (fun _ kZ => XS.icmpNo X130.here hx rfl (hb hby at_132) rfl (tlt (by decide : (2 : Int32) < (Int32.ofNat 5))).2.2.2 kZ) ?_
    show own_R p.tables e below _ (T130.setTop (mkF m 135 #[.val (.int p1), .val (.int p2), .val (.int p3), .val (.int p4), .val (.int p5), .val (.int (Int32.ofNat 5)), .val (.int vi), .val (.int v0), .val (.int v1), .val (.int v2), .val (.int v3), .val (.int v4), .val (.double (FP.i2d bd)), .second, .val (.int (Int32.ofNat f)), .val (.int (Int32.ofNat t)), .val (.ref bm), .unset, .unset] []))
    refine own_by (fun _ kZ => XS.aload X130.here hx rfl (hb hby at_135) rfl rfl kZ) ?_
    show own_R p.tables e below _ (T130.setTop (mkF m 137 #[.val (.int p1), .val (.int p2), .val (.int p3), .val (.int p4), .val (.int p5), .val (.int (Int32.ofNat 5)), .val (.int vi), .val (.int v0), .val (.int v1), .val (.int v2), .val (.int v3), .val (.int v4), .val (.double (FP.i2d bd)), .second, .val (.int (Int32.ofNat f)), .val (.int (Int32.ofNat t)), .val (.ref bm), .unset, .unset] [(.ref bm)]))
    refine own_by (fun _ kZ => XS.iconst X130.here hx rfl (hb hby at_137) kZ) ?_
    show own_R p.tables e below _ (T130.setTop (mkF m 138 #[.val (.int p1), .val (.int p2), .val (.int p3), .val (.int p4), .val (.int p5), .val (.int (Int32.ofNat 5)), .val (.int vi), .val (.int v0), .val (.int v1), .val (.int v2), .val (.int v3), .val (.int v4), .val (.double (FP.i2d bd)), .second, .val (.int (Int32.ofNat f)), .val (.int (Int32.ofNat t)), .val (.ref bm), .unset, .unset] [(.int (2 : Int32)), (.ref bm)]))
    refine own_by (fun _ kZ => XS.iload X130.here hx rfl (hb hby at_138) rfl kZ) ?_
    show own_R p.tables e below _ (T130.setTop (mkF m 140 #[.val (.int p1), .val (.int p2), .val (.int p3), .val (.int p4), .val (.int p5), .val (.int (Int32.ofNat 5)), .val (.int vi), .val (.int v0), .val (.int v1), .val (.int v2), .val (.int v3), .val (.int v4), .val (.double (FP.i2d bd)), .second, .val (.int (Int32.ofNat f)), .val (.int (Int32.ofNat t)), .val (.ref bm), .unset, .unset] [(.int v2), (.int (2 : Int32)), (.ref bm)]))
    refine own_by (fun _ kZ => own_i2d X130.here hx rfl (hb hby at_140) rfl kZ) ?_
    show own_R p.tables e below _ (T130.setTop (mkF m 141 #[.val (.int p1), .val (.int p2), .val (.int p3), .val (.int p4), .val (.int p5), .val (.int (Int32.ofNat 5)), .val (.int vi), .val (.int v0), .val (.int v1), .val (.int v2), .val (.int v3), .val (.int v4), .val (.double (FP.i2d bd)), .second, .val (.int (Int32.ofNat f)), .val (.int (Int32.ofNat t)), .val (.ref bm), .unset, .unset] [(.double (FP.i2d v2)), (.int (2 : Int32)), (.ref bm)]))
    obtain ⟨cq133, kq133, q133a, q133b, q133c⟩ := isOf hZ rfl f131_bm
    obtain ⟨_, _, ⟨T133, L133, k133, n133⟩, -, X133, ⟨Lc133, hQ133, l133, y133, z133⟩, st133⟩ := X130.virtualBack hx (y := (⟨"com/example/frugal_scheduler/frugalscheduler/planners/MinTree", "set", "(ID)V"⟩ : MethodName)) (z := (⟨"com/example/frugal_scheduler/frugalscheduler/planners/MinTree", "set", "(ID)V"⟩ : MethodName)) hown (mvT hZ (hw _ (List.mem_of_getElem? (i := 21) rfl))) (mvT hZ (hw _ (List.mem_of_getElem? (i := 22) rfl))) (notFace_of_selects (args := #[]) (mvT hZ (hw _ (List.mem_of_getElem? (i := 24) rfl)))) (mvT hZ (hw _ (List.mem_of_getElem? (i := 24) rfl))) (mvT hZ (hw _ (List.mem_of_getElem? (i := 23) rfl))) (by decide) (backOf (W := 0) (rm4 l Z a0 hw [] bm (2 : Int32) (FP.i2d v2) b 5 (own_setg own_min (own_setg own_min (fun _ => vi) (own_leaves 5) 0 v0) (own_leaves 5) 1 v1) 2 v2 T130.heap n0 Z132 W130 rfl (by decide) rfl) hZ (hw _ (List.mem_of_getElem? (i := 25) rfl)) (hw _ (List.mem_of_getElem? (i := 3) rfl)) (by decide) (by decide)) q133a q133c (g := (mkF m 141 #[.val (.int p1), .val (.int p2), .val (.int p3), .val (.int p4), .val (.int p5), .val (.int (Int32.ofNat 5)), .val (.int vi), .val (.int v0), .val (.int v1), .val (.int v2), .val (.int v3), .val (.int v4), .val (.double (FP.i2d bd)), .second, .val (.int (Int32.ofNat f)), .val (.int (Int32.ofNat t)), .val (.ref bm), .unset, .unset] [(.double (FP.i2d v2)), (.int (2 : Int32)), (.ref bm)])) rfl (by rw [hml]; rfl) (Steps.refl _) (argsL := [(.int (2 : Int32)), (.double (FP.i2d v2))]) (rest := []) (lenOf own_pd2 rfl) rfl (by show 2 * 0 + _ ≤ _; exact Nat.le_of_eq rfl) (hb hby at_141) (fun _ _ => ⟨rfl, rfl, (by decide : 2 + 0 ≤ _), (by decide : 19 + 0 ≤ _)⟩)
    dsimp only [Pt.U, Pt.locs, Pt.cells, Pt.slots] at X133 l133 y133 z133 st133 hQ133
    subst l133 y133 z133
    obtain ⟨rfl, Nq133, K133, W133⟩ := hQ133
    have N133 := Fr.app N130 Nq133
    have f134_bm : Exa Z T133.heap bm "com/example/frugal_scheduler/frugalscheduler/planners/MinTree" := f131_bm.keep K133
    have Z135 : n0 ≤ T133.heap.size := Nat.le_trans Z132 K133.1
    refine own_by (fun _ kZ => st133.trans kZ) ?_
    show own_R p.tables e below _ (T133.setTop (mkF m 144 #[.val (.int p1), .val (.int p2), .val (.int p3), .val (.int p4), .val (.int p5), .val (.int (Int32.ofNat 5)), .val (.int vi), .val (.int v0), .val (.int v1), .val (.int v2), .val (.int v3), .val (.int v4), .val (.double (FP.i2d bd)), .second, .val (.int (Int32.ofNat f)), .val (.int (Int32.ofNat t)), .val (.ref bm), .unset, .unset] []))
    refine own_by (fun _ kZ => XS.iload X133.here hx rfl (hb hby at_144) rfl kZ) ?_
    show own_R p.tables e below _ (T133.setTop (mkF m 146 #[.val (.int p1), .val (.int p2), .val (.int p3), .val (.int p4), .val (.int p5), .val (.int (Int32.ofNat 5)), .val (.int vi), .val (.int v0), .val (.int v1), .val (.int v2), .val (.int v3), .val (.int v4), .val (.double (FP.i2d bd)), .second, .val (.int (Int32.ofNat f)), .val (.int (Int32.ofNat t)), .val (.ref bm), .unset, .unset] [(.int (Int32.ofNat 5))]))
    refine own_by (fun _ kZ => XS.iconst X133.here hx rfl (hb hby at_146) kZ) ?_
    show own_R p.tables e below _ (T133.setTop (mkF m 147 #[.val (.int p1), .val (.int p2), .val (.int p3), .val (.int p4), .val (.int p5), .val (.int (Int32.ofNat 5)), .val (.int vi), .val (.int v0), .val (.int v1), .val (.int v2), .val (.int v3), .val (.int v4), .val (.double (FP.i2d bd)), .second, .val (.int (Int32.ofNat f)), .val (.int (Int32.ofNat t)), .val (.ref bm), .unset, .unset] [(.int (3 : Int32)), (.int (Int32.ofNat 5))]))
    refine own_by (fun _ kZ => XS.icmpNo X133.here hx rfl (hb hby at_147) rfl (tlt (by decide : (3 : Int32) < (Int32.ofNat 5))).2.2.2 kZ) ?_
    show own_R p.tables e below _ (T133.setTop (mkF m 150 #[.val (.int p1), .val (.int p2), .val (.int p3), .val (.int p4), .val (.int p5), .val (.int (Int32.ofNat 5)), .val (.int vi), .val (.int v0), .val (.int v1), .val (.int v2), .val (.int v3), .val (.int v4), .val (.double (FP.i2d bd)), .second, .val (.int (Int32.ofNat f)), .val (.int (Int32.ofNat t)), .val (.ref bm), .unset, .unset] []))
    refine own_by (fun _ kZ => XS.aload X133.here hx rfl (hb hby at_150) rfl rfl kZ) ?_
    show own_R p.tables e below _ (T133.setTop (mkF m 152 #[.val (.int p1), .val (.int p2), .val (.int p3), .val (.int p4), .val (.int p5), .val (.int (Int32.ofNat 5)), .val (.int vi), .val (.int v0), .val (.int v1), .val (.int v2), .val (.int v3), .val (.int v4), .val (.double (FP.i2d bd)), .second, .val (.int (Int32.ofNat f)), .val (.int (Int32.ofNat t)), .val (.ref bm), .unset, .unset] [(.ref bm)]))
    refine own_by (fun _ kZ => XS.iconst X133.here hx rfl (hb hby at_152) kZ) ?_
    show own_R p.tables e below _ (T133.setTop (mkF m 153 #[.val (.int p1), .val (.int p2), .val (.int p3), .val (.int p4), .val (.int p5), .val (.int (Int32.ofNat 5)), .val (.int vi), .val (.int v0), .val (.int v1), .val (.int v2), .val (.int v3), .val (.int v4), .val (.double (FP.i2d bd)), .second, .val (.int (Int32.ofNat f)), .val (.int (Int32.ofNat t)), .val (.ref bm), .unset, .unset] [(.int (3 : Int32)), (.ref bm)]))
    refine own_by (fun _ kZ => XS.iload X133.here hx rfl (hb hby at_153) rfl kZ) ?_
    show own_R p.tables e below _ (T133.setTop (mkF m 155 #[.val (.int p1), .val (.int p2), .val (.int p3), .val (.int p4), .val (.int p5), .val (.int (Int32.ofNat 5)), .val (.int vi), .val (.int v0), .val (.int v1), .val (.int v2), .val (.int v3), .val (.int v4), .val (.double (FP.i2d bd)), .second, .val (.int (Int32.ofNat f)), .val (.int (Int32.ofNat t)), .val (.ref bm), .unset, .unset] [(.int v3), (.int (3 : Int32)), (.ref bm)]))
    refine own_by (fun _ kZ => own_i2d X133.here hx rfl (hb hby at_155) rfl kZ) ?_
    show own_R p.tables e below _ (T133.setTop (mkF m 156 #[.val (.int p1), .val (.int p2), .val (.int p3), .val (.int p4), .val (.int p5), .val (.int (Int32.ofNat 5)), .val (.int vi), .val (.int v0), .val (.int v1), .val (.int v2), .val (.int v3), .val (.int v4), .val (.double (FP.i2d bd)), .second, .val (.int (Int32.ofNat f)), .val (.int (Int32.ofNat t)), .val (.ref bm), .unset, .unset] [(.double (FP.i2d v3)), (.int (3 : Int32)), (.ref bm)]))
    obtain ⟨cq136, kq136, q136a, q136b, q136c⟩ := isOf hZ rfl f134_bm
    obtain ⟨_, _, ⟨T136, L136, k136, n136⟩, -, X136, ⟨Lc136, hQ136, l136, y136, z136⟩, st136⟩ := X133.virtualBack hx (y := (⟨"com/example/frugal_scheduler/frugalscheduler/planners/MinTree", "set", "(ID)V"⟩ : MethodName)) (z := (⟨"com/example/frugal_scheduler/frugalscheduler/planners/MinTree", "set", "(ID)V"⟩ : MethodName)) hown (mvT hZ (hw _ (List.mem_of_getElem? (i := 21) rfl))) (mvT hZ (hw _ (List.mem_of_getElem? (i := 22) rfl))) (notFace_of_selects (args := #[]) (mvT hZ (hw _ (List.mem_of_getElem? (i := 24) rfl)))) (mvT hZ (hw _ (List.mem_of_getElem? (i := 24) rfl))) (mvT hZ (hw _ (List.mem_of_getElem? (i := 23) rfl))) (by decide) (backOf (W := 0) (rm4 l Z a0 hw [] bm (3 : Int32) (FP.i2d v3) b 5 (own_setg own_min (own_setg own_min (own_setg own_min (fun _ => vi) (own_leaves 5) 0 v0) (own_leaves 5) 1 v1) (own_leaves 5) 2 v2) 3 v3 T133.heap n0 Z135 W133 rfl (by decide) rfl) hZ (hw _ (List.mem_of_getElem? (i := 25) rfl)) (hw _ (List.mem_of_getElem? (i := 3) rfl)) (by decide) (by decide)) q136a q136c (g := (mkF m 156 #[.val (.int p1), .val (.int p2), .val (.int p3), .val (.int p4), .val (.int p5), .val (.int (Int32.ofNat 5)), .val (.int vi), .val (.int v0), .val (.int v1), .val (.int v2), .val (.int v3), .val (.int v4), .val (.double (FP.i2d bd)), .second, .val (.int (Int32.ofNat f)), .val (.int (Int32.ofNat t)), .val (.ref bm), .unset, .unset] [(.double (FP.i2d v3)), (.int (3 : Int32)), (.ref bm)])) rfl (by rw [hml]; rfl) (Steps.refl _) (argsL := [(.int (3 : Int32)), (.double (FP.i2d v3))]) (rest := []) (lenOf own_pd2 rfl) rfl (by show 2 * 0 + _ ≤ _; exact Nat.le_of_eq rfl) (hb hby at_156) (fun _ _ => ⟨rfl, rfl, (by decide : 2 + 0 ≤ _), (by decide : 19 + 0 ≤ _)⟩)
    dsimp only [Pt.U, Pt.locs, Pt.cells, Pt.slots] at X136 l136 y136 z136 st136 hQ136
    subst l136 y136 z136
    obtain ⟨rfl, Nq136, K136, W136⟩ := hQ136
    have N136 := Fr.app N133 Nq136
    have f137_bm : Exa Z T136.heap bm "com/example/frugal_scheduler/frugalscheduler/planners/MinTree" := f134_bm.keep K136
    have Z138 : n0 ≤ T136.heap.size := Nat.le_trans Z135 K136.1
    refine own_by (fun _ kZ => st136.trans kZ) ?_
    show own_R p.tables e below _ (T136.setTop (mkF m 159 #[.val (.int p1), .val (.int p2), .val (.int p3), .val (.int p4), .val (.int p5), .val (.int (Int32.ofNat 5)), .val (.int vi), .val (.int v0), .val (.int v1), .val (.int v2), .val (.int v3), .val (.int v4), .val (.double (FP.i2d bd)), .second, .val (.int (Int32.ofNat f)), .val (.int (Int32.ofNat t)), .val (.ref bm), .unset, .unset] []))
    refine own_by (fun _ kZ => XS.iload X136.here hx rfl (hb hby at_159) rfl kZ) ?_
    show own_R p.tables e below _ (T136.setTop (mkF m 161 #[.val (.int p1), .val (.int p2), .val (.int p3), .val (.int p4), .val (.int p5), .val (.int (Int32.ofNat 5)), .val (.int vi), .val (.int v0), .val (.int v1), .val (.int v2), .val (.int v3), .val (.int v4), .val (.double (FP.i2d bd)), .second, .val (.int (Int32.ofNat f)), .val (.int (Int32.ofNat t)), .val (.ref bm), .unset, .unset] [(.int (Int32.ofNat 5))]))
    refine own_by (fun _ kZ => XS.iconst X136.here hx rfl (hb hby at_161) kZ) ?_
    show own_R p.tables e below _ (T136.setTop (mkF m 162 #[.val (.int p1), .val (.int p2), .val (.int p3), .val (.int p4), .val (.int p5), .val (.int (Int32.ofNat 5)), .val (.int vi), .val (.int v0), .val (.int v1), .val (.int v2), .val (.int v3), .val (.int v4), .val (.double (FP.i2d bd)), .second, .val (.int (Int32.ofNat f)), .val (.int (Int32.ofNat t)), .val (.ref bm), .unset, .unset] [(.int (4 : Int32)), (.int (Int32.ofNat 5))]))
    refine own_by (fun _ kZ => XS.icmpNo X136.here hx rfl (hb hby at_162) rfl (tlt (by decide : (4 : Int32) < (Int32.ofNat 5))).2.2.2 kZ) ?_
    show own_R p.tables e below _ (T136.setTop (mkF m 165 #[.val (.int p1), .val (.int p2), .val (.int p3), .val (.int p4), .val (.int p5), .val (.int (Int32.ofNat 5)), .val (.int vi), .val (.int v0), .val (.int v1), .val (.int v2), .val (.int v3), .val (.int v4), .val (.double (FP.i2d bd)), .second, .val (.int (Int32.ofNat f)), .val (.int (Int32.ofNat t)), .val (.ref bm), .unset, .unset] []))
    refine own_by (fun _ kZ => XS.aload X136.here hx rfl (hb hby at_165) rfl rfl kZ) ?_
    show own_R p.tables e below _ (T136.setTop (mkF m 167 #[.val (.int p1), .val (.int p2), .val (.int p3), .val (.int p4), .val (.int p5), .val (.int (Int32.ofNat 5)), .val (.int vi), .val (.int v0), .val (.int v1), .val (.int v2), .val (.int v3), .val (.int v4), .val (.double (FP.i2d bd)), .second, .val (.int (Int32.ofNat f)), .val (.int (Int32.ofNat t)), .val (.ref bm), .unset, .unset] [(.ref bm)]))
    refine own_by (fun _ kZ => XS.iconst X136.here hx rfl (hb hby at_167) kZ) ?_
    show own_R p.tables e below _ (T136.setTop (mkF m 168 #[.val (.int p1), .val (.int p2), .val (.int p3), .val (.int p4), .val (.int p5), .val (.int (Int32.ofNat 5)), .val (.int vi), .val (.int v0), .val (.int v1), .val (.int v2), .val (.int v3), .val (.int v4), .val (.double (FP.i2d bd)), .second, .val (.int (Int32.ofNat f)), .val (.int (Int32.ofNat t)), .val (.ref bm), .unset, .unset] [(.int (4 : Int32)), (.ref bm)]))
    refine own_by (fun _ kZ => XS.iload X136.here hx rfl (hb hby at_168) rfl kZ) ?_
    show own_R p.tables e below _ (T136.setTop (mkF m 170 #[.val (.int p1), .val (.int p2), .val (.int p3), .val (.int p4), .val (.int p5), .val (.int (Int32.ofNat 5)), .val (.int vi), .val (.int v0), .val (.int v1), .val (.int v2), .val (.int v3), .val (.int v4), .val (.double (FP.i2d bd)), .second, .val (.int (Int32.ofNat f)), .val (.int (Int32.ofNat t)), .val (.ref bm), .unset, .unset] [(.int v4), (.int (4 : Int32)), (.ref bm)]))
    refine own_by (fun _ kZ => own_i2d X136.here hx rfl (hb hby at_170) rfl kZ) ?_
    show own_R p.tables e below _ (T136.setTop (mkF m 171 #[.val (.int p1), .val (.int p2), .val (.int p3), .val (.int p4), .val (.int p5), .val (.int (Int32.ofNat 5)), .val (.int vi), .val (.int v0), .val (.int v1), .val (.int v2), .val (.int v3), .val (.int v4), .val (.double (FP.i2d bd)), .second, .val (.int (Int32.ofNat f)), .val (.int (Int32.ofNat t)), .val (.ref bm), .unset, .unset] [(.double (FP.i2d v4)), (.int (4 : Int32)), (.ref bm)]))
    obtain ⟨cq139, kq139, q139a, q139b, q139c⟩ := isOf hZ rfl f137_bm
    obtain ⟨_, _, ⟨T139, L139, k139, n139⟩, -, X139, ⟨Lc139, hQ139, l139, y139, z139⟩, st139⟩ := X136.virtualBack hx (y := (⟨"com/example/frugal_scheduler/frugalscheduler/planners/MinTree", "set", "(ID)V"⟩ : MethodName)) (z := (⟨"com/example/frugal_scheduler/frugalscheduler/planners/MinTree", "set", "(ID)V"⟩ : MethodName)) hown (mvT hZ (hw _ (List.mem_of_getElem? (i := 21) rfl))) (mvT hZ (hw _ (List.mem_of_getElem? (i := 22) rfl))) (notFace_of_selects (args := #[]) (mvT hZ (hw _ (List.mem_of_getElem? (i := 24) rfl)))) (mvT hZ (hw _ (List.mem_of_getElem? (i := 24) rfl))) (mvT hZ (hw _ (List.mem_of_getElem? (i := 23) rfl))) (by decide) (backOf (W := 0) (rm4 l Z a0 hw [] bm (4 : Int32) (FP.i2d v4) b 5 (own_setg own_min (own_setg own_min (own_setg own_min (own_setg own_min (fun _ => vi) (own_leaves 5) 0 v0) (own_leaves 5) 1 v1) (own_leaves 5) 2 v2) (own_leaves 5) 3 v3) 4 v4 T136.heap n0 Z138 W136 rfl (by decide) rfl) hZ (hw _ (List.mem_of_getElem? (i := 25) rfl)) (hw _ (List.mem_of_getElem? (i := 3) rfl)) (by decide) (by decide)) q139a q139c (g := (mkF m 171 #[.val (.int p1), .val (.int p2), .val (.int p3), .val (.int p4), .val (.int p5), .val (.int (Int32.ofNat 5)), .val (.int vi), .val (.int v0), .val (.int v1), .val (.int v2), .val (.int v3), .val (.int v4), .val (.double (FP.i2d bd)), .second, .val (.int (Int32.ofNat f)), .val (.int (Int32.ofNat t)), .val (.ref bm), .unset, .unset] [(.double (FP.i2d v4)), (.int (4 : Int32)), (.ref bm)])) rfl (by rw [hml]; rfl) (Steps.refl _) (argsL := [(.int (4 : Int32)), (.double (FP.i2d v4))]) (rest := []) (lenOf own_pd2 rfl) rfl (by show 2 * 0 + _ ≤ _; exact Nat.le_of_eq rfl) (hb hby at_171) (fun _ _ => ⟨rfl, rfl, (by decide : 2 + 0 ≤ _), (by decide : 19 + 0 ≤ _)⟩)
    dsimp only [Pt.U, Pt.locs, Pt.cells, Pt.slots] at X139 l139 y139 z139 st139 hQ139
    subst l139 y139 z139
    obtain ⟨rfl, Nq139, K139, W139⟩ := hQ139
    have N139 := Fr.app N136 Nq139
    have f140_bm : Exa Z T139.heap bm "com/example/frugal_scheduler/frugalscheduler/planners/MinTree" := f137_bm.keep K139
    have Z141 : n0 ≤ T139.heap.size := Nat.le_trans Z138 K139.1
    refine own_by (fun _ kZ => st139.trans kZ) ?_
    show own_R p.tables e below _ (T139.setTop (mkF m 174 #[.val (.int p1), .val (.int p2), .val (.int p3), .val (.int p4), .val (.int p5), .val (.int (Int32.ofNat 5)), .val (.int vi), .val (.int v0), .val (.int v1), .val (.int v2), .val (.int v3), .val (.int v4), .val (.double (FP.i2d bd)), .second, .val (.int (Int32.ofNat f)), .val (.int (Int32.ofNat t)), .val (.ref bm), .unset, .unset] []))
    refine own_by (fun _ kZ => XS.aload X139.here hx rfl (hb hby at_174) rfl rfl kZ) ?_
    show own_R p.tables e below _ (T139.setTop (mkF m 176 #[.val (.int p1), .val (.int p2), .val (.int p3), .val (.int p4), .val (.int p5), .val (.int (Int32.ofNat 5)), .val (.int vi), .val (.int v0), .val (.int v1), .val (.int v2), .val (.int v3), .val (.int v4), .val (.double (FP.i2d bd)), .second, .val (.int (Int32.ofNat f)), .val (.int (Int32.ofNat t)), .val (.ref bm), .unset, .unset] [(.ref bm)]))
    refine own_by (fun _ kZ => XS.iload X139.here hx rfl (hb hby at_176) rfl kZ) ?_
    show own_R p.tables e below _ (T139.setTop (mkF m 178 #[.val (.int p1), .val (.int p2), .val (.int p3), .val (.int p4), .val (.int p5), .val (.int (Int32.ofNat 5)), .val (.int vi), .val (.int v0), .val (.int v1), .val (.int v2), .val (.int v3), .val (.int v4), .val (.double (FP.i2d bd)), .second, .val (.int (Int32.ofNat f)), .val (.int (Int32.ofNat t)), .val (.ref bm), .unset, .unset] [(.int (Int32.ofNat f)), (.ref bm)]))
    refine own_by (fun _ kZ => XS.iload X139.here hx rfl (hb hby at_178) rfl kZ) ?_
    show own_R p.tables e below _ (T139.setTop (mkF m 180 #[.val (.int p1), .val (.int p2), .val (.int p3), .val (.int p4), .val (.int p5), .val (.int (Int32.ofNat 5)), .val (.int vi), .val (.int v0), .val (.int v1), .val (.int v2), .val (.int v3), .val (.int v4), .val (.double (FP.i2d bd)), .second, .val (.int (Int32.ofNat f)), .val (.int (Int32.ofNat t)), .val (.ref bm), .unset, .unset] [(.int (Int32.ofNat t)), (.int (Int32.ofNat f)), (.ref bm)]))
    refine own_by (fun _ kZ => own_dload X139.here hx rfl (hb hby at_180) rfl kZ) ?_
    show own_R p.tables e below _ (T139.setTop (mkF m 182 #[.val (.int p1), .val (.int p2), .val (.int p3), .val (.int p4), .val (.int p5), .val (.int (Int32.ofNat 5)), .val (.int vi), .val (.int v0), .val (.int v1), .val (.int v2), .val (.int v3), .val (.int v4), .val (.double (FP.i2d bd)), .second, .val (.int (Int32.ofNat f)), .val (.int (Int32.ofNat t)), .val (.ref bm), .unset, .unset] [(.double (FP.i2d bd)), (.int (Int32.ofNat t)), (.int (Int32.ofNat f)), (.ref bm)]))
    have WT : own_MT Z T139.heap n0 bm b 5 (own_tree own_min 5 v0 v1 v2 v3 v4 vi) := by rw [own_tr5]; exact W139
    obtain ⟨cq142, kq142, q142a, q142b, q142c⟩ := isOf hZ rfl f140_bm
    obtain ⟨_, _, ⟨T142, L142, k142, n142⟩, -, X142, ⟨Lc142, hQ142, l142, y142, z142⟩, st142⟩ := X139.virtualBack hx (y := (⟨"com/example/frugal_scheduler/frugalscheduler/planners/MinTree", "firstAtMost", "(IID)I"⟩ : MethodName)) (z := (⟨"com/example/frugal_scheduler/frugalscheduler/planners/MinTree", "firstAtMost", "(IID)I"⟩ : MethodName)) hown (mvT hZ (hw _ (List.mem_of_getElem? (i := 26) rfl))) (mvT hZ (hw _ (List.mem_of_getElem? (i := 27) rfl))) (notFace_of_selects (args := #[]) (mvT hZ (hw _ (List.mem_of_getElem? (i := 29) rfl)))) (mvT hZ (hw _ (List.mem_of_getElem? (i := 29) rfl))) (mvT hZ (hw _ (List.mem_of_getElem? (i := 28) rfl))) (by decide) (backOf (W := 0) (rm5 l Z a0 hw [] bm (Int32.ofNat f) (Int32.ofNat t) (FP.i2d bd) b 5 (own_tree own_min 5 v0 v1 v2 v3 v4 vi) f t bd (own_want (own_le bd v0) (own_le bd v1) (own_le bd v2) (own_le bd v3) (own_le bd v4) f t) T139.heap n0 Z141 WT (by decide) rfl rfl rfl lf lt (own_famB bd v0 v1 v2 v3 v4 vi 5 f t (by decide) (by decide) lf lt)) hZ (hw _ (List.mem_of_getElem? (i := 30) rfl)) (hw _ (List.mem_of_getElem? (i := 3) rfl)) (by decide) (by decide)) q142a q142c (g := (mkF m 182 #[.val (.int p1), .val (.int p2), .val (.int p3), .val (.int p4), .val (.int p5), .val (.int (Int32.ofNat 5)), .val (.int vi), .val (.int v0), .val (.int v1), .val (.int v2), .val (.int v3), .val (.int v4), .val (.double (FP.i2d bd)), .second, .val (.int (Int32.ofNat f)), .val (.int (Int32.ofNat t)), .val (.ref bm), .unset, .unset] [(.double (FP.i2d bd)), (.int (Int32.ofNat t)), (.int (Int32.ofNat f)), (.ref bm)])) rfl (by rw [hml]; rfl) (Steps.refl _) (argsL := [(.int (Int32.ofNat f)), (.int (Int32.ofNat t)), (.double (FP.i2d bd))]) (rest := []) (lenOf own_pd3 rfl) rfl (by show 2 * 0 + _ ≤ _; exact Nat.le_of_eq rfl) (hb hby at_182) (fun _ _ => ⟨rfl, rfl, (by decide : 2 + 0 ≤ _), (by decide : 19 + 0 ≤ _)⟩)
    dsimp only [Pt.U, Pt.locs, Pt.cells, Pt.slots] at X142 l142 y142 z142 st142 hQ142
    subst l142 y142 z142
    obtain ⟨rfl, Nq142, e142⟩ := hQ142
    have N142 := Fr.app N139 Nq142
    refine own_by (fun _ kZ => st142.trans kZ) ?_
    show own_R p.tables e below _ (T142.setTop (mkF m 185 #[.val (.int p1), .val (.int p2), .val (.int p3), .val (.int p4), .val (.int p5), .val (.int (Int32.ofNat 5)), .val (.int vi), .val (.int v0), .val (.int v1), .val (.int v2), .val (.int v3), .val (.int v4), .val (.double (FP.i2d bd)), .second, .val (.int (Int32.ofNat f)), .val (.int (Int32.ofNat t)), .val (.ref bm), .unset, .unset] [(.int (own_want (own_le bd v0) (own_le bd v1) (own_le bd v2) (own_le bd v3) (own_le bd v4) f t))]))
    refine own_by (fun _ kZ => XS.istore X142.here hx rfl (hb hby at_185) rfl (l' := #[.val (.int p1), .val (.int p2), .val (.int p3), .val (.int p4), .val (.int p5), .val (.int (Int32.ofNat 5)), .val (.int vi), .val (.int v0), .val (.int v1), .val (.int v2), .val (.int v3), .val (.int v4), .val (.double (FP.i2d bd)), .second, .val (.int (Int32.ofNat f)), .val (.int (Int32.ofNat t)), .val (.ref bm), .val (.int (own_want (own_le bd v0) (own_le bd v1) (own_le bd v2) (own_le bd v3) (own_le bd v4) f t)), .unset]) rfl kZ) ?_
    show own_R p.tables e below _ (T142.setTop (mkF m 187 #[.val (.int p1), .val (.int p2), .val (.int p3), .val (.int p4), .val (.int p5), .val (.int (Int32.ofNat 5)), .val (.int vi), .val (.int v0), .val (.int v1), .val (.int v2), .val (.int v3), .val (.int v4), .val (.double (FP.i2d bd)), .second, .val (.int (Int32.ofNat f)), .val (.int (Int32.ofNat t)), .val (.ref bm), .val (.int (own_want (own_le bd v0) (own_le bd v1) (own_le bd v2) (own_le bd v3) (own_le bd v4) f t)), .unset] []))
    refine own_by (fun _ kZ => XS.iconst X142.here hx rfl (hb hby at_187) kZ) ?_
    show own_R p.tables e below _ (T142.setTop (mkF m 188 #[.val (.int p1), .val (.int p2), .val (.int p3), .val (.int p4), .val (.int p5), .val (.int (Int32.ofNat 5)), .val (.int vi), .val (.int v0), .val (.int v1), .val (.int v2), .val (.int v3), .val (.int v4), .val (.double (FP.i2d bd)), .second, .val (.int (Int32.ofNat f)), .val (.int (Int32.ofNat t)), .val (.ref bm), .val (.int (own_want (own_le bd v0) (own_le bd v1) (own_le bd v2) (own_le bd v3) (own_le bd v4) f t)), .unset] [(.int (-1 : Int32))]))
    refine own_by (fun _ kZ => XS.istore X142.here hx rfl (hb hby at_188) rfl (l' := #[.val (.int p1), .val (.int p2), .val (.int p3), .val (.int p4), .val (.int p5), .val (.int (Int32.ofNat 5)), .val (.int vi), .val (.int v0), .val (.int v1), .val (.int v2), .val (.int v3), .val (.int v4), .val (.double (FP.i2d bd)), .second, .val (.int (Int32.ofNat f)), .val (.int (Int32.ofNat t)), .val (.ref bm), .val (.int (own_want (own_le bd v0) (own_le bd v1) (own_le bd v2) (own_le bd v3) (own_le bd v4) f t)), .val (.int (-1 : Int32))]) rfl kZ) ?_
    show own_R p.tables e below _ (T142.setTop (mkF m 190 #[.val (.int p1), .val (.int p2), .val (.int p3), .val (.int p4), .val (.int p5), .val (.int (Int32.ofNat 5)), .val (.int vi), .val (.int v0), .val (.int v1), .val (.int v2), .val (.int v3), .val (.int v4), .val (.double (FP.i2d bd)), .second, .val (.int (Int32.ofNat f)), .val (.int (Int32.ofNat t)), .val (.ref bm), .val (.int (own_want (own_le bd v0) (own_le bd v1) (own_le bd v2) (own_le bd v3) (own_le bd v4) f t)), .val (.int (-1 : Int32))] []))
    refine own_by (fun _ kZ => XS.iconst X142.here hx rfl (hb hby at_190) kZ) ?_
    show own_R p.tables e below _ (T142.setTop (mkF m 191 #[.val (.int p1), .val (.int p2), .val (.int p3), .val (.int p4), .val (.int p5), .val (.int (Int32.ofNat 5)), .val (.int vi), .val (.int v0), .val (.int v1), .val (.int v2), .val (.int v3), .val (.int v4), .val (.double (FP.i2d bd)), .second, .val (.int (Int32.ofNat f)), .val (.int (Int32.ofNat t)), .val (.ref bm), .val (.int (own_want (own_le bd v0) (own_le bd v1) (own_le bd v2) (own_le bd v3) (own_le bd v4) f t)), .val (.int (-1 : Int32))] [(.int (4 : Int32))]))
    refine own_by (fun _ kZ => XS.iload X142.here hx rfl (hb hby at_191) rfl kZ) ?_
    show own_R p.tables e below _ (T142.setTop (mkF m 193 #[.val (.int p1), .val (.int p2), .val (.int p3), .val (.int p4), .val (.int p5), .val (.int (Int32.ofNat 5)), .val (.int vi), .val (.int v0), .val (.int v1), .val (.int v2), .val (.int v3), .val (.int v4), .val (.double (FP.i2d bd)), .second, .val (.int (Int32.ofNat f)), .val (.int (Int32.ofNat t)), .val (.ref bm), .val (.int (own_want (own_le bd v0) (own_le bd v1) (own_le bd v2) (own_le bd v3) (own_le bd v4) f t)), .val (.int (-1 : Int32))] [(.int v4), (.int (4 : Int32))]))
    refine own_by (fun _ kZ => XS.iload X142.here hx rfl (hb hby at_193) rfl kZ) ?_
    show own_R p.tables e below _ (T142.setTop (mkF m 195 #[.val (.int p1), .val (.int p2), .val (.int p3), .val (.int p4), .val (.int p5), .val (.int (Int32.ofNat 5)), .val (.int vi), .val (.int v0), .val (.int v1), .val (.int v2), .val (.int v3), .val (.int v4), .val (.double (FP.i2d bd)), .second, .val (.int (Int32.ofNat f)), .val (.int (Int32.ofNat t)), .val (.ref bm), .val (.int (own_want (own_le bd v0) (own_le bd v1) (own_le bd v2) (own_le bd v3) (own_le bd v4) f t)), .val (.int (-1 : Int32))] [(.int (Int32.ofNat f)), (.int v4), (.int (4 : Int32))]))
    refine own_by (fun _ kZ => XS.iload X142.here hx rfl (hb hby at_195) rfl kZ) ?_
    show own_R p.tables e below _ (T142.setTop (mkF m 197 #[.val (.int p1), .val (.int p2), .val (.int p3), .val (.int p4), .val (.int p5), .val (.int (Int32.ofNat 5)), .val (.int vi), .val (.int v0), .val (.int v1), .val (.int v2), .val (.int v3), .val (.int v4), .val (.double (FP.i2d bd)), .second, .val (.int (Int32.ofNat f)), .val (.int (Int32.ofNat t)), .val (.ref bm), .val (.int (own_want (own_le bd v0) (own_le bd v1) (own_le bd v2) (own_le bd v3) (own_le bd v4) f t)), .val (.int (-1 : Int32))] [(.int (Int32.ofNat t)), (.int (Int32.ofNat f)), (.int v4), (.int (4 : Int32))]))
    refine own_by (fun _ kZ => own_dload X142.here hx rfl (hb hby at_197) rfl kZ) ?_
    show own_R p.tables e below _ (T142.setTop (mkF m 199 #[.val (.int p1), .val (.int p2), .val (.int p3), .val (.int p4), .val (.int p5), .val (.int (Int32.ofNat 5)), .val (.int vi), .val (.int v0), .val (.int v1), .val (.int v2), .val (.int v3), .val (.int v4), .val (.double (FP.i2d bd)), .second, .val (.int (Int32.ofNat f)), .val (.int (Int32.ofNat t)), .val (.ref bm), .val (.int (own_want (own_le bd v0) (own_le bd v1) (own_le bd v2) (own_le bd v3) (own_le bd v4) f t)), .val (.int (-1 : Int32))] [(.double (FP.i2d bd)), (.int (Int32.ofNat t)), (.int (Int32.ofNat f)), (.int v4), (.int (4 : Int32))]))
    obtain ⟨_, _, ⟨T143, L143, k143, n143⟩, -, X143, ⟨Lc143, hQ143, l143, y143, z143⟩, st143⟩ := Jvm.LawKit.callS X142 hx (y := (⟨"com/example/frugal_scheduler/frugalscheduler/planners/MinTreeFirstAtMostPinLaw", "hit", "(IIIID)Z"⟩ : MethodName)) hown (mvT hZ (hw _ (List.mem_of_getElem? (i := 31) rfl))) (mvT hZ (hw _ (List.mem_of_getElem? (i := 32) rfl))) (mvT hZ (hw _ (List.mem_of_getElem? (i := 33) rfl))) (mvT hZ (hw _ (List.mem_of_getElem? (i := 34) rfl))) (by decide) (backOf (W := 0) (rm6 l Z a0 hw [] (4 : Int32) v4 (Int32.ofNat f) (Int32.ofNat t) (FP.i2d bd) bd T139.heap n0 Z141 rfl) hZ (hw _ (List.mem_of_getElem? (i := 34) rfl)) (hw _ (List.mem_of_getElem? (i := 33) rfl)) (by decide) (by decide)) (g := (mkF m 199 #[.val (.int p1), .val (.int p2), .val (.int p3), .val (.int p4), .val (.int p5), .val (.int (Int32.ofNat 5)), .val (.int vi), .val (.int v0), .val (.int v1), .val (.int v2), .val (.int v3), .val (.int v4), .val (.double (FP.i2d bd)), .second, .val (.int (Int32.ofNat f)), .val (.int (Int32.ofNat t)), .val (.ref bm), .val (.int (own_want (own_le bd v0) (own_le bd v1) (own_le bd v2) (own_le bd v3) (own_le bd v4) f t)), .val (.int (-1 : Int32))] [(.double (FP.i2d bd)), (.int (Int32.ofNat t)), (.int (Int32.ofNat f)), (.int v4), (.int (4 : Int32))])) rfl (by rw [hml]; rfl) (argsL := [(.int (4 : Int32)), (.int v4), (.int (Int32.ofNat f)), (.int (Int32.ofNat t)), (.double (FP.i2d bd))]) (rest := []) (lenOf own_pd4 rfl) rfl (by show 2 * 0 + _ ≤ _; exact Nat.le_of_eq rfl) (hb hby at_199) (fun _ _ => ⟨rfl, e142, (by decide : 2 + 0 ≤ _), (by decide : 19 + 0 ≤ _)⟩)
    dsimp only [Pt.U, Pt.locs, Pt.cells, Pt.slots] at X143 l143 y143 z143 st143 hQ143
    subst l143 y143 z143
    obtain ⟨rfl, Nq143, e143⟩ := hQ143
    have N143 := Fr.app N142 Nq143
    refine own_by st143 ?_
    show own_R p.tables e below _ (T143.setTop (mkF m 202 #[.val (.int p1), .val (.int p2), .val (.int p3), .val (.int p4), .val (.int p5), .val (.int (Int32.ofNat 5)), .val (.int vi), .val (.int v0), .val (.int v1), .val (.int v2), .val (.int v3), .val (.int v4), .val (.double (FP.i2d bd)), .second, .val (.int (Int32.ofNat f)), .val (.int (Int32.ofNat t)), .val (.ref bm), .val (.int (own_want (own_le bd v0) (own_le bd v1) (own_le bd v2) (own_le bd v3) (own_le bd v4) f t)), .val (.int (-1 : Int32))] [(.int (own_hit (4 : Int32) v4 (Int32.ofNat f) (Int32.ofNat t) bd))]))
    obtain ⟨e4, h_e4⟩ : ∃ z : Int32, z = (if (own_hit (4 : Int32) v4 (Int32.ofNat f) (Int32.ofNat t) bd) = (0 : Int32) then (-1 : Int32) else (4 : Int32)) := ⟨_, rfl⟩
    refine own_by (S' := T143.setTop (mkF m 208 #[.val (.int p1), .val (.int p2), .val (.int p3), .val (.int p4), .val (.int p5), .val (.int (Int32.ofNat 5)), .val (.int vi), .val (.int v0), .val (.int v1), .val (.int v2), .val (.int v3), .val (.int v4), .val (.double (FP.i2d bd)), .second, .val (.int (Int32.ofNat f)), .val (.int (Int32.ofNat t)), .val (.ref bm), .val (.int (own_want (own_le bd v0) (own_le bd v1) (own_le bd v2) (own_le bd v3) (own_le bd v4) f t)), .val (.int e4)] [])) (fun _ kZ => ?_) ?_
    · skip
      show Steps p.tables e below (T143.setTop (mkF m 202 #[.val (.int p1), .val (.int p2), .val (.int p3), .val (.int p4), .val (.int p5), .val (.int (Int32.ofNat 5)), .val (.int vi), .val (.int v0), .val (.int v1), .val (.int v2), .val (.int v3), .val (.int v4), .val (.double (FP.i2d bd)), .second, .val (.int (Int32.ofNat f)), .val (.int (Int32.ofNat t)), .val (.ref bm), .val (.int (own_want (own_le bd v0) (own_le bd v1) (own_le bd v2) (own_le bd v3) (own_le bd v4) f t)), .val (.int (-1 : Int32))] [(.int (own_hit (4 : Int32) v4 (Int32.ofNat f) (Int32.ofNat t) bd))])) _
      by_cases hd202 : (own_hit (4 : Int32) v4 (Int32.ofNat f) (Int32.ofNat t) bd) = (0 : Int32)
      · skip
        refine XS.ifYes X143.here hx rfl (pc0 := 202) (pc' := 208) rfl (hb hby at_202) rfl ((if0 _ _).trans (teq hd202).1) (by decide) (by decide) ?_
        show Steps p.tables e below (T143.setTop (mkF m 208 #[.val (.int p1), .val (.int p2), .val (.int p3), .val (.int p4), .val (.int p5), .val (.int (Int32.ofNat 5)), .val (.int vi), .val (.int v0), .val (.int v1), .val (.int v2), .val (.int v3), .val (.int v4), .val (.double (FP.i2d bd)), .second, .val (.int (Int32.ofNat f)), .val (.int (Int32.ofNat t)), .val (.ref bm), .val (.int (own_want (own_le bd v0) (own_le bd v1) (own_le bd v2) (own_le bd v3) (own_le bd v4) f t)), .val (.int (-1 : Int32))] [])) _
        rw [if_pos hd202] at h_e4
        subst h_e4
        exact kZ
      · skip
        refine XS.ifNo X143.here hx rfl (hb hby at_202) rfl ((if0 _ _).trans (feq hd202).1) ?_
        show Steps p.tables e below (T143.setTop (mkF m 205 #[.val (.int p1), .val (.int p2), .val (.int p3), .val (.int p4), .val (.int p5), .val (.int (Int32.ofNat 5)), .val (.int vi), .val (.int v0), .val (.int v1), .val (.int v2), .val (.int v3), .val (.int v4), .val (.double (FP.i2d bd)), .second, .val (.int (Int32.ofNat f)), .val (.int (Int32.ofNat t)), .val (.ref bm), .val (.int (own_want (own_le bd v0) (own_le bd v1) (own_le bd v2) (own_le bd v3) (own_le bd v4) f t)), .val (.int (-1 : Int32))] [])) _
        refine XS.iconst X143.here hx rfl (hb hby at_205) ?_
        show Steps p.tables e below (T143.setTop (mkF m 206 #[.val (.int p1), .val (.int p2), .val (.int p3), .val (.int p4), .val (.int p5), .val (.int (Int32.ofNat 5)), .val (.int vi), .val (.int v0), .val (.int v1), .val (.int v2), .val (.int v3), .val (.int v4), .val (.double (FP.i2d bd)), .second, .val (.int (Int32.ofNat f)), .val (.int (Int32.ofNat t)), .val (.ref bm), .val (.int (own_want (own_le bd v0) (own_le bd v1) (own_le bd v2) (own_le bd v3) (own_le bd v4) f t)), .val (.int (-1 : Int32))] [(.int (4 : Int32))])) _
        refine XS.istore X143.here hx rfl (hb hby at_206) rfl (l' := #[.val (.int p1), .val (.int p2), .val (.int p3), .val (.int p4), .val (.int p5), .val (.int (Int32.ofNat 5)), .val (.int vi), .val (.int v0), .val (.int v1), .val (.int v2), .val (.int v3), .val (.int v4), .val (.double (FP.i2d bd)), .second, .val (.int (Int32.ofNat f)), .val (.int (Int32.ofNat t)), .val (.ref bm), .val (.int (own_want (own_le bd v0) (own_le bd v1) (own_le bd v2) (own_le bd v3) (own_le bd v4) f t)), .val (.int (4 : Int32))]) rfl ?_
        show Steps p.tables e below (T143.setTop (mkF m 208 #[.val (.int p1), .val (.int p2), .val (.int p3), .val (.int p4), .val (.int p5), .val (.int (Int32.ofNat 5)), .val (.int vi), .val (.int v0), .val (.int v1), .val (.int v2), .val (.int v3), .val (.int v4), .val (.double (FP.i2d bd)), .second, .val (.int (Int32.ofNat f)), .val (.int (Int32.ofNat t)), .val (.ref bm), .val (.int (own_want (own_le bd v0) (own_le bd v1) (own_le bd v2) (own_le bd v3) (own_le bd v4) f t)), .val (.int (4 : Int32))] [])) _
        rw [if_neg hd202] at h_e4
        subst h_e4
        exact kZ
    show own_R p.tables e below _ (T143.setTop (mkF m 208 #[.val (.int p1), .val (.int p2), .val (.int p3), .val (.int p4), .val (.int p5), .val (.int (Int32.ofNat 5)), .val (.int vi), .val (.int v0), .val (.int v1), .val (.int v2), .val (.int v3), .val (.int v4), .val (.double (FP.i2d bd)), .second, .val (.int (Int32.ofNat f)), .val (.int (Int32.ofNat t)), .val (.ref bm), .val (.int (own_want (own_le bd v0) (own_le bd v1) (own_le bd v2) (own_le bd v3) (own_le bd v4) f t)), .val (.int e4)] []))
    refine own_by (fun _ kZ => XS.iconst X143.here hx rfl (hb hby at_208) kZ) ?_
    show own_R p.tables e below _ (T143.setTop (mkF m 209 #[.val (.int p1), .val (.int p2), .val (.int p3), .val (.int p4), .val (.int p5), .val (.int (Int32.ofNat 5)), .val (.int vi), .val (.int v0), .val (.int v1), .val (.int v2), .val (.int v3), .val (.int v4), .val (.double (FP.i2d bd)), .second, .val (.int (Int32.ofNat f)), .val (.int (Int32.ofNat t)), .val (.ref bm), .val (.int (own_want (own_le bd v0) (own_le bd v1) (own_le bd v2) (own_le bd v3) (own_le bd v4) f t)), .val (.int e4)] [(.int (3 : Int32))]))
    refine own_by (fun _ kZ => XS.iload X143.here hx rfl (hb hby at_209) rfl kZ) ?_
    show own_R p.tables e below _ (T143.setTop (mkF m 211 #[.val (.int p1), .val (.int p2), .val (.int p3), .val (.int p4), .val (.int p5), .val (.int (Int32.ofNat 5)), .val (.int vi), .val (.int v0), .val (.int v1), .val (.int v2), .val (.int v3), .val (.int v4), .val (.double (FP.i2d bd)), .second, .val (.int (Int32.ofNat f)), .val (.int (Int32.ofNat t)), .val (.ref bm), .val (.int (own_want (own_le bd v0) (own_le bd v1) (own_le bd v2) (own_le bd v3) (own_le bd v4) f t)), .val (.int e4)] [(.int v3), (.int (3 : Int32))]))
    refine own_by (fun _ kZ => XS.iload X143.here hx rfl (hb hby at_211) rfl kZ) ?_
    show own_R p.tables e below _ (T143.setTop (mkF m 213 #[.val (.int p1), .val (.int p2), .val (.int p3), .val (.int p4), .val (.int p5), .val (.int (Int32.ofNat 5)), .val (.int vi), .val (.int v0), .val (.int v1), .val (.int v2), .val (.int v3), .val (.int v4), .val (.double (FP.i2d bd)), .second, .val (.int (Int32.ofNat f)), .val (.int (Int32.ofNat t)), .val (.ref bm), .val (.int (own_want (own_le bd v0) (own_le bd v1) (own_le bd v2) (own_le bd v3) (own_le bd v4) f t)), .val (.int e4)] [(.int (Int32.ofNat f)), (.int v3), (.int (3 : Int32))]))
    refine own_by (fun _ kZ => XS.iload X143.here hx rfl (hb hby at_213) rfl kZ) ?_
    show own_R p.tables e below _ (T143.setTop (mkF m 215 #[.val (.int p1), .val (.int p2), .val (.int p3), .val (.int p4), .val (.int p5), .val (.int (Int32.ofNat 5)), .val (.int vi), .val (.int v0), .val (.int v1), .val (.int v2), .val (.int v3), .val (.int v4), .val (.double (FP.i2d bd)), .second, .val (.int (Int32.ofNat f)), .val (.int (Int32.ofNat t)), .val (.ref bm), .val (.int (own_want (own_le bd v0) (own_le bd v1) (own_le bd v2) (own_le bd v3) (own_le bd v4) f t)), .val (.int e4)] [(.int (Int32.ofNat t)), (.int (Int32.ofNat f)), (.int v3), (.int (3 : Int32))]))
    refine own_by (fun _ kZ => own_dload X143.here hx rfl (hb hby at_215) rfl kZ) ?_
    show own_R p.tables e below _ (T143.setTop (mkF m 217 #[.val (.int p1), .val (.int p2), .val (.int p3), .val (.int p4), .val (.int p5), .val (.int (Int32.ofNat 5)), .val (.int vi), .val (.int v0), .val (.int v1), .val (.int v2), .val (.int v3), .val (.int v4), .val (.double (FP.i2d bd)), .second, .val (.int (Int32.ofNat f)), .val (.int (Int32.ofNat t)), .val (.ref bm), .val (.int (own_want (own_le bd v0) (own_le bd v1) (own_le bd v2) (own_le bd v3) (own_le bd v4) f t)), .val (.int e4)] [(.double (FP.i2d bd)), (.int (Int32.ofNat t)), (.int (Int32.ofNat f)), (.int v3), (.int (3 : Int32))]))
    obtain ⟨_, _, ⟨T144, L144, k144, n144⟩, -, X144, ⟨Lc144, hQ144, l144, y144, z144⟩, st144⟩ := Jvm.LawKit.callS X143 hx (y := (⟨"com/example/frugal_scheduler/frugalscheduler/planners/MinTreeFirstAtMostPinLaw", "hit", "(IIIID)Z"⟩ : MethodName)) hown (mvT hZ (hw _ (List.mem_of_getElem? (i := 31) rfl))) (mvT hZ (hw _ (List.mem_of_getElem? (i := 32) rfl))) (mvT hZ (hw _ (List.mem_of_getElem? (i := 33) rfl))) (mvT hZ (hw _ (List.mem_of_getElem? (i := 34) rfl))) (by decide) (backOf (W := 0) (rm6 l Z a0 hw [] (3 : Int32) v3 (Int32.ofNat f) (Int32.ofNat t) (FP.i2d bd) bd T139.heap n0 Z141 rfl) hZ (hw _ (List.mem_of_getElem? (i := 34) rfl)) (hw _ (List.mem_of_getElem? (i := 33) rfl)) (by decide) (by decide)) (g := (mkF m 217 #[.val (.int p1), .val (.int p2), .val (.int p3), .val (.int p4), .val (.int p5), .val (.int (Int32.ofNat 5)), .val (.int vi), .val (.int v0), .val (.int v1), .val (.int v2), .val (.int v3), .val (.int v4), .val (.double (FP.i2d bd)), .second, .val (.int (Int32.ofNat f)), .val (.int (Int32.ofNat t)), .val (.ref bm), .val (.int (own_want (own_le bd v0) (own_le bd v1) (own_le bd v2) (own_le bd v3) (own_le bd v4) f t)), .val (.int e4)] [(.double (FP.i2d bd)), (.int (Int32.ofNat t)), (.int (Int32.ofNat f)), (.int v3), (.int (3 : Int32))])) rfl (by rw [hml]; rfl) (argsL := [(.int (3 : Int32)), (.int v3), (.int (Int32.ofNat f)), (.int (Int32.ofNat t)), (.double (FP.i2d bd))]) (rest := []) (lenOf own_pd4 rfl) rfl (by show 2 * 0 + _ ≤ _; exact Nat.le_of_eq rfl) (hb hby at_217) (fun _ _ => ⟨rfl, e143, (by decide : 2 + 0 ≤ _), (by decide : 19 + 0 ≤ _)⟩)
    dsimp only [Pt.U, Pt.locs, Pt.cells, Pt.slots] at X144 l144 y144 z144 st144 hQ144
    subst l144 y144 z144
    obtain ⟨rfl, Nq144, e144⟩ := hQ144
    have N144 := Fr.app N143 Nq144
    refine own_by st144 ?_
    show own_R p.tables e below _ (T144.setTop (mkF m 220 #[.val (.int p1), .val (.int p2), .val (.int p3), .val (.int p4), .val (.int p5), .val (.int (Int32.ofNat 5)), .val (.int vi), .val (.int v0), .val (.int v1), .val (.int v2), .val (.int v3), .val (.int v4), .val (.double (FP.i2d bd)), .second, .val (.int (Int32.ofNat f)), .val (.int (Int32.ofNat t)), .val (.ref bm), .val (.int (own_want (own_le bd v0) (own_le bd v1) (own_le bd v2) (own_le bd v3) (own_le bd v4) f t)), .val (.int e4)] [(.int (own_hit (3 : Int32) v3 (Int32.ofNat f) (Int32.ofNat t) bd))]))
    obtain ⟨e3, h_e3⟩ : ∃ z : Int32, z = (if (own_hit (3 : Int32) v3 (Int32.ofNat f) (Int32.ofNat t) bd) = (0 : Int32) then e4 else (3 : Int32)) := ⟨_, rfl⟩
    refine own_by (S' := T144.setTop (mkF m 226 #[.val (.int p1), .val (.int p2), .val (.int p3), .val (.int p4), .val (.int p5), .val (.int (Int32.ofNat 5)), .val (.int vi), .val (.int v0), .val (.int v1), .val (.int v2), .val (.int v3), .val (.int v4), .val (.double (FP.i2d bd)), .second, .val (.int (Int32.ofNat f)), .val (.int (Int32.ofNat t)), .val (.ref bm), .val (.int (own_want (own_le bd v0) (own_le bd v1) (own_le bd v2) (own_le bd v3) (own_le bd v4) f t)), .val (.int e3)] [])) (fun _ kZ => ?_) ?_
    · skip
      show Steps p.tables e below (T144.setTop (mkF m 220 #[.val (.int p1), .val (.int p2), .val (.int p3), .val (.int p4), .val (.int p5), .val (.int (Int32.ofNat 5)), .val (.int vi), .val (.int v0), .val (.int v1), .val (.int v2), .val (.int v3), .val (.int v4), .val (.double (FP.i2d bd)), .second, .val (.int (Int32.ofNat f)), .val (.int (Int32.ofNat t)), .val (.ref bm), .val (.int (own_want (own_le bd v0) (own_le bd v1) (own_le bd v2) (own_le bd v3) (own_le bd v4) f t)), .val (.int e4)] [(.int (own_hit (3 : Int32) v3 (Int32.ofNat f) (Int32.ofNat t) bd))])) _
      by_cases hd220 : (own_hit (3 : Int32) v3 (Int32.ofNat f) (Int32.ofNat t) bd) = (0 : Int32)
      · skip
        refine XS.ifYes X144.here hx rfl (pc0 := 220) (pc' := 226) rfl (hb hby at_220) rfl ((if0 _ _).trans (teq hd220).1) (by decide) (by decide) ?_
        show Steps p.tables e below (T144.setTop (mkF m 226 #[.val (.int p1), .val (.int p2), .val (.int p3), .val (.int p4), .val (.int p5), .val (.int (Int32.ofNat 5)), .val (.int vi), .val (.int v0), .val (.int v1), .val (.int v2), .val (.int v3), .val (.int v4), .val (.double (FP.i2d bd)), .second, .val (.int (Int32.ofNat f)), .val (.int (Int32.ofNat t)), .val (.ref bm), .val (.int (own_want (own_le bd v0) (own_le bd v1) (own_le bd v2) (own_le bd v3) (own_le bd v4) f t)), .val (.int e4)] [])) _
        rw [if_pos hd220] at h_e3
        subst h_e3
        exact kZ
      · skip
        refine XS.ifNo X144.here hx rfl (hb hby at_220) rfl ((if0 _ _).trans (feq hd220).1) ?_
        show Steps p.tables e below (T144.setTop (mkF m 223 #[.val (.int p1), .val (.int p2), .val (.int p3), .val (.int p4), .val (.int p5), .val (.int (Int32.ofNat 5)), .val (.int vi), .val (.int v0), .val (.int v1), .val (.int v2), .val (.int v3), .val (.int v4), .val (.double (FP.i2d bd)), .second, .val (.int (Int32.ofNat f)), .val (.int (Int32.ofNat t)), .val (.ref bm), .val (.int (own_want (own_le bd v0) (own_le bd v1) (own_le bd v2) (own_le bd v3) (own_le bd v4) f t)), .val (.int e4)] [])) _
        refine XS.iconst X144.here hx rfl (hb hby at_223) ?_
        show Steps p.tables e below (T144.setTop (mkF m 224 #[.val (.int p1), .val (.int p2), .val (.int p3), .val (.int p4), .val (.int p5), .val (.int (Int32.ofNat 5)), .val (.int vi), .val (.int v0), .val (.int v1), .val (.int v2), .val (.int v3), .val (.int v4), .val (.double (FP.i2d bd)), .second, .val (.int (Int32.ofNat f)), .val (.int (Int32.ofNat t)), .val (.ref bm), .val (.int (own_want (own_le bd v0) (own_le bd v1) (own_le bd v2) (own_le bd v3) (own_le bd v4) f t)), .val (.int e4)] [(.int (3 : Int32))])) _
        refine XS.istore X144.here hx rfl (hb hby at_224) rfl (l' := #[.val (.int p1), .val (.int p2), .val (.int p3), .val (.int p4), .val (.int p5), .val (.int (Int32.ofNat 5)), .val (.int vi), .val (.int v0), .val (.int v1), .val (.int v2), .val (.int v3), .val (.int v4), .val (.double (FP.i2d bd)), .second, .val (.int (Int32.ofNat f)), .val (.int (Int32.ofNat t)), .val (.ref bm), .val (.int (own_want (own_le bd v0) (own_le bd v1) (own_le bd v2) (own_le bd v3) (own_le bd v4) f t)), .val (.int (3 : Int32))]) rfl ?_
        show Steps p.tables e below (T144.setTop (mkF m 226 #[.val (.int p1), .val (.int p2), .val (.int p3), .val (.int p4), .val (.int p5), .val (.int (Int32.ofNat 5)), .val (.int vi), .val (.int v0), .val (.int v1), .val (.int v2), .val (.int v3), .val (.int v4), .val (.double (FP.i2d bd)), .second, .val (.int (Int32.ofNat f)), .val (.int (Int32.ofNat t)), .val (.ref bm), .val (.int (own_want (own_le bd v0) (own_le bd v1) (own_le bd v2) (own_le bd v3) (own_le bd v4) f t)), .val (.int (3 : Int32))] [])) _
        rw [if_neg hd220] at h_e3
        subst h_e3
        exact kZ
    show own_R p.tables e below _ (T144.setTop (mkF m 226 #[.val (.int p1), .val (.int p2), .val (.int p3), .val (.int p4), .val (.int p5), .val (.int (Int32.ofNat 5)), .val (.int vi), .val (.int v0), .val (.int v1), .val (.int v2), .val (.int v3), .val (.int v4), .val (.double (FP.i2d bd)), .second, .val (.int (Int32.ofNat f)), .val (.int (Int32.ofNat t)), .val (.ref bm), .val (.int (own_want (own_le bd v0) (own_le bd v1) (own_le bd v2) (own_le bd v3) (own_le bd v4) f t)), .val (.int e3)] []))
    refine own_by (fun _ kZ => XS.iconst X144.here hx rfl (hb hby at_226) kZ) ?_
    show own_R p.tables e below _ (T144.setTop (mkF m 227 #[.val (.int p1), .val (.int p2), .val (.int p3), .val (.int p4), .val (.int p5), .val (.int (Int32.ofNat 5)), .val (.int vi), .val (.int v0), .val (.int v1), .val (.int v2), .val (.int v3), .val (.int v4), .val (.double (FP.i2d bd)), .second, .val (.int (Int32.ofNat f)), .val (.int (Int32.ofNat t)), .val (.ref bm), .val (.int (own_want (own_le bd v0) (own_le bd v1) (own_le bd v2) (own_le bd v3) (own_le bd v4) f t)), .val (.int e3)] [(.int (2 : Int32))]))
    refine own_by (fun _ kZ => XS.iload X144.here hx rfl (hb hby at_227) rfl kZ) ?_
    show own_R p.tables e below _ (T144.setTop (mkF m 229 #[.val (.int p1), .val (.int p2), .val (.int p3), .val (.int p4), .val (.int p5), .val (.int (Int32.ofNat 5)), .val (.int vi), .val (.int v0), .val (.int v1), .val (.int v2), .val (.int v3), .val (.int v4), .val (.double (FP.i2d bd)), .second, .val (.int (Int32.ofNat f)), .val (.int (Int32.ofNat t)), .val (.ref bm), .val (.int (own_want (own_le bd v0) (own_le bd v1) (own_le bd v2) (own_le bd v3) (own_le bd v4) f t)), .val (.int e3)] [(.int v2), (.int (2 : Int32))]))
    refine own_by (fun _ kZ => XS.iload X144.here hx rfl (hb hby at_229) rfl kZ) ?_
    show own_R p.tables e below _ (T144.setTop (mkF m 231 #[.val (.int p1), .val (.int p2), .val (.int p3), .val (.int p4), .val (.int p5), .val (.int (Int32.ofNat 5)), .val (.int vi), .val (.int v0), .val (.int v1), .val (.int v2), .val (.int v3), .val (.int v4), .val (.double (FP.i2d bd)), .second, .val (.int (Int32.ofNat f)), .val (.int (Int32.ofNat t)), .val (.ref bm), .val (.int (own_want (own_le bd v0) (own_le bd v1) (own_le bd v2) (own_le bd v3) (own_le bd v4) f t)), .val (.int e3)] [(.int (Int32.ofNat f)), (.int v2), (.int (2 : Int32))]))
    refine own_by (fun _ kZ => XS.iload X144.here hx rfl (hb hby at_231) rfl kZ) ?_
    show own_R p.tables e below _ (T144.setTop (mkF m 233 #[.val (.int p1), .val (.int p2), .val (.int p3), .val (.int p4), .val (.int p5), .val (.int (Int32.ofNat 5)), .val (.int vi), .val (.int v0), .val (.int v1), .val (.int v2), .val (.int v3), .val (.int v4), .val (.double (FP.i2d bd)), .second, .val (.int (Int32.ofNat f)), .val (.int (Int32.ofNat t)), .val (.ref bm), .val (.int (own_want (own_le bd v0) (own_le bd v1) (own_le bd v2) (own_le bd v3) (own_le bd v4) f t)), .val (.int e3)] [(.int (Int32.ofNat t)), (.int (Int32.ofNat f)), (.int v2), (.int (2 : Int32))]))
    refine own_by (fun _ kZ => own_dload X144.here hx rfl (hb hby at_233) rfl kZ) ?_
    show own_R p.tables e below _ (T144.setTop (mkF m 235 #[.val (.int p1), .val (.int p2), .val (.int p3), .val (.int p4), .val (.int p5), .val (.int (Int32.ofNat 5)), .val (.int vi), .val (.int v0), .val (.int v1), .val (.int v2), .val (.int v3), .val (.int v4), .val (.double (FP.i2d bd)), .second, .val (.int (Int32.ofNat f)), .val (.int (Int32.ofNat t)), .val (.ref bm), .val (.int (own_want (own_le bd v0) (own_le bd v1) (own_le bd v2) (own_le bd v3) (own_le bd v4) f t)), .val (.int e3)] [(.double (FP.i2d bd)), (.int (Int32.ofNat t)), (.int (Int32.ofNat f)), (.int v2), (.int (2 : Int32))]))
    obtain ⟨_, _, ⟨T145, L145, k145, n145⟩, -, X145, ⟨Lc145, hQ145, l145, y145, z145⟩, st145⟩ := Jvm.LawKit.callS X144 hx (y := (⟨"com/example/frugal_scheduler/frugalscheduler/planners/MinTreeFirstAtMostPinLaw", "hit", "(IIIID)Z"⟩ : MethodName)) hown (mvT hZ (hw _ (List.mem_of_getElem? (i := 31) rfl))) (mvT hZ (hw _ (List.mem_of_getElem? (i := 32) rfl))) (mvT hZ (hw _ (List.mem_of_getElem? (i := 33) rfl))) (mvT hZ (hw _ (List.mem_of_getElem? (i := 34) rfl))) (by decide) (backOf (W := 0) (rm6 l Z a0 hw [] (2 : Int32) v2 (Int32.ofNat f) (Int32.ofNat t) (FP.i2d bd) bd T139.heap n0 Z141 rfl) hZ (hw _ (List.mem_of_getElem? (i := 34) rfl)) (hw _ (List.mem_of_getElem? (i := 33) rfl)) (by decide) (by decide)) (g := (mkF m 235 #[.val (.int p1), .val (.int p2), .val (.int p3), .val (.int p4), .val (.int p5), .val (.int (Int32.ofNat 5)), .val (.int vi), .val (.int v0), .val (.int v1), .val (.int v2), .val (.int v3), .val (.int v4), .val (.double (FP.i2d bd)), .second, .val (.int (Int32.ofNat f)), .val (.int (Int32.ofNat t)), .val (.ref bm), .val (.int (own_want (own_le bd v0) (own_le bd v1) (own_le bd v2) (own_le bd v3) (own_le bd v4) f t)), .val (.int e3)] [(.double (FP.i2d bd)), (.int (Int32.ofNat t)), (.int (Int32.ofNat f)), (.int v2), (.int (2 : Int32))])) rfl (by rw [hml]; rfl) (argsL := [(.int (2 : Int32)), (.int v2), (.int (Int32.ofNat f)), (.int (Int32.ofNat t)), (.double (FP.i2d bd))]) (rest := []) (lenOf own_pd4 rfl) rfl (by show 2 * 0 + _ ≤ _; exact Nat.le_of_eq rfl) (hb hby at_235) (fun _ _ => ⟨rfl, e144, (by decide : 2 + 0 ≤ _), (by decide : 19 + 0 ≤ _)⟩)
    dsimp only [Pt.U, Pt.locs, Pt.cells, Pt.slots] at X145 l145 y145 z145 st145 hQ145
    subst l145 y145 z145
    obtain ⟨rfl, Nq145, e145⟩ := hQ145
    have N145 := Fr.app N144 Nq145
    refine own_by st145 ?_
    show own_R p.tables e below _ (T145.setTop (mkF m 238 #[.val (.int p1), .val (.int p2), .val (.int p3), .val (.int p4), .val (.int p5), .val (.int (Int32.ofNat 5)), .val (.int vi), .val (.int v0), .val (.int v1), .val (.int v2), .val (.int v3), .val (.int v4), .val (.double (FP.i2d bd)), .second, .val (.int (Int32.ofNat f)), .val (.int (Int32.ofNat t)), .val (.ref bm), .val (.int (own_want (own_le bd v0) (own_le bd v1) (own_le bd v2) (own_le bd v3) (own_le bd v4) f t)), .val (.int e3)] [(.int (own_hit (2 : Int32) v2 (Int32.ofNat f) (Int32.ofNat t) bd))]))
    obtain ⟨e2, h_e2⟩ : ∃ z : Int32, z = (if (own_hit (2 : Int32) v2 (Int32.ofNat f) (Int32.ofNat t) bd) = (0 : Int32) then e3 else (2 : Int32)) := ⟨_, rfl⟩
    refine own_by (S' := T145.setTop (mkF m 244 #[.val (.int p1), .val (.int p2), .val (.int p3), .val (.int p4), .val (.int p5), .val (.int (Int32.ofNat 5)), .val (.int vi), .val (.int v0), .val (.int v1), .val (.int v2), .val (.int v3), .val (.int v4), .val (.double (FP.i2d bd)), .second, .val (.int (Int32.ofNat f)), .val (.int (Int32.ofNat t)), .val (.ref bm), .val (.int (own_want (own_le bd v0) (own_le bd v1) (own_le bd v2) (own_le bd v3) (own_le bd v4) f t)), .val (.int e2)] [])) (fun _ kZ => ?_) ?_
    · skip
      show Steps p.tables e below (T145.setTop (mkF m 238 #[.val (.int p1), .val (.int p2), .val (.int p3), .val (.int p4), .val (.int p5), .val (.int (Int32.ofNat 5)), .val (.int vi), .val (.int v0), .val (.int v1), .val (.int v2), .val (.int v3), .val (.int v4), .val (.double (FP.i2d bd)), .second, .val (.int (Int32.ofNat f)), .val (.int (Int32.ofNat t)), .val (.ref bm), .val (.int (own_want (own_le bd v0) (own_le bd v1) (own_le bd v2) (own_le bd v3) (own_le bd v4) f t)), .val (.int e3)] [(.int (own_hit (2 : Int32) v2 (Int32.ofNat f) (Int32.ofNat t) bd))])) _
      by_cases hd238 : (own_hit (2 : Int32) v2 (Int32.ofNat f) (Int32.ofNat t) bd) = (0 : Int32)
      · skip
        refine XS.ifYes X145.here hx rfl (pc0 := 238) (pc' := 244) rfl (hb hby at_238) rfl ((if0 _ _).trans (teq hd238).1) (by decide) (by decide) ?_
        show Steps p.tables e below (T145.setTop (mkF m 244 #[.val (.int p1), .val (.int p2), .val (.int p3), .val (.int p4), .val (.int p5), .val (.int (Int32.ofNat 5)), .val (.int vi), .val (.int v0), .val (.int v1), .val (.int v2), .val (.int v3), .val (.int v4), .val (.double (FP.i2d bd)), .second, .val (.int (Int32.ofNat f)), .val (.int (Int32.ofNat t)), .val (.ref bm), .val (.int (own_want (own_le bd v0) (own_le bd v1) (own_le bd v2) (own_le bd v3) (own_le bd v4) f t)), .val (.int e3)] [])) _
        rw [if_pos hd238] at h_e2
        subst h_e2
        exact kZ
      · skip
        refine XS.ifNo X145.here hx rfl (hb hby at_238) rfl ((if0 _ _).trans (feq hd238).1) ?_
        show Steps p.tables e below (T145.setTop (mkF m 241 #[.val (.int p1), .val (.int p2), .val (.int p3), .val (.int p4), .val (.int p5), .val (.int (Int32.ofNat 5)), .val (.int vi), .val (.int v0), .val (.int v1), .val (.int v2), .val (.int v3), .val (.int v4), .val (.double (FP.i2d bd)), .second, .val (.int (Int32.ofNat f)), .val (.int (Int32.ofNat t)), .val (.ref bm), .val (.int (own_want (own_le bd v0) (own_le bd v1) (own_le bd v2) (own_le bd v3) (own_le bd v4) f t)), .val (.int e3)] [])) _
        refine XS.iconst X145.here hx rfl (hb hby at_241) ?_
        show Steps p.tables e below (T145.setTop (mkF m 242 #[.val (.int p1), .val (.int p2), .val (.int p3), .val (.int p4), .val (.int p5), .val (.int (Int32.ofNat 5)), .val (.int vi), .val (.int v0), .val (.int v1), .val (.int v2), .val (.int v3), .val (.int v4), .val (.double (FP.i2d bd)), .second, .val (.int (Int32.ofNat f)), .val (.int (Int32.ofNat t)), .val (.ref bm), .val (.int (own_want (own_le bd v0) (own_le bd v1) (own_le bd v2) (own_le bd v3) (own_le bd v4) f t)), .val (.int e3)] [(.int (2 : Int32))])) _
        refine XS.istore X145.here hx rfl (hb hby at_242) rfl (l' := #[.val (.int p1), .val (.int p2), .val (.int p3), .val (.int p4), .val (.int p5), .val (.int (Int32.ofNat 5)), .val (.int vi), .val (.int v0), .val (.int v1), .val (.int v2), .val (.int v3), .val (.int v4), .val (.double (FP.i2d bd)), .second, .val (.int (Int32.ofNat f)), .val (.int (Int32.ofNat t)), .val (.ref bm), .val (.int (own_want (own_le bd v0) (own_le bd v1) (own_le bd v2) (own_le bd v3) (own_le bd v4) f t)), .val (.int (2 : Int32))]) rfl ?_
        show Steps p.tables e below (T145.setTop (mkF m 244 #[.val (.int p1), .val (.int p2), .val (.int p3), .val (.int p4), .val (.int p5), .val (.int (Int32.ofNat 5)), .val (.int vi), .val (.int v0), .val (.int v1), .val (.int v2), .val (.int v3), .val (.int v4), .val (.double (FP.i2d bd)), .second, .val (.int (Int32.ofNat f)), .val (.int (Int32.ofNat t)), .val (.ref bm), .val (.int (own_want (own_le bd v0) (own_le bd v1) (own_le bd v2) (own_le bd v3) (own_le bd v4) f t)), .val (.int (2 : Int32))] [])) _
        rw [if_neg hd238] at h_e2
        subst h_e2
        exact kZ
    show own_R p.tables e below _ (T145.setTop (mkF m 244 #[.val (.int p1), .val (.int p2), .val (.int p3), .val (.int p4), .val (.int p5), .val (.int (Int32.ofNat 5)), .val (.int vi), .val (.int v0), .val (.int v1), .val (.int v2), .val (.int v3), .val (.int v4), .val (.double (FP.i2d bd)), .second, .val (.int (Int32.ofNat f)), .val (.int (Int32.ofNat t)), .val (.ref bm), .val (.int (own_want (own_le bd v0) (own_le bd v1) (own_le bd v2) (own_le bd v3) (own_le bd v4) f t)), .val (.int e2)] []))
    refine own_by (fun _ kZ => XS.iconst X145.here hx rfl (hb hby at_244) kZ) ?_
    show own_R p.tables e below _ (T145.setTop (mkF m 245 #[.val (.int p1), .val (.int p2), .val (.int p3), .val (.int p4), .val (.int p5), .val (.int (Int32.ofNat 5)), .val (.int vi), .val (.int v0), .val (.int v1), .val (.int v2), .val (.int v3), .val (.int v4), .val (.double (FP.i2d bd)), .second, .val (.int (Int32.ofNat f)), .val (.int (Int32.ofNat t)), .val (.ref bm), .val (.int (own_want (own_le bd v0) (own_le bd v1) (own_le bd v2) (own_le bd v3) (own_le bd v4) f t)), .val (.int e2)] [(.int (1 : Int32))]))
    refine own_by (fun _ kZ => XS.iload X145.here hx rfl (hb hby at_245) rfl kZ) ?_
    show own_R p.tables e below _ (T145.setTop (mkF m 247 #[.val (.int p1), .val (.int p2), .val (.int p3), .val (.int p4), .val (.int p5), .val (.int (Int32.ofNat 5)), .val (.int vi), .val (.int v0), .val (.int v1), .val (.int v2), .val (.int v3), .val (.int v4), .val (.double (FP.i2d bd)), .second, .val (.int (Int32.ofNat f)), .val (.int (Int32.ofNat t)), .val (.ref bm), .val (.int (own_want (own_le bd v0) (own_le bd v1) (own_le bd v2) (own_le bd v3) (own_le bd v4) f t)), .val (.int e2)] [(.int v1), (.int (1 : Int32))]))
    refine own_by (fun _ kZ => XS.iload X145.here hx rfl (hb hby at_247) rfl kZ) ?_
    show own_R p.tables e below _ (T145.setTop (mkF m 249 #[.val (.int p1), .val (.int p2), .val (.int p3), .val (.int p4), .val (.int p5), .val (.int (Int32.ofNat 5)), .val (.int vi), .val (.int v0), .val (.int v1), .val (.int v2), .val (.int v3), .val (.int v4), .val (.double (FP.i2d bd)), .second, .val (.int (Int32.ofNat f)), .val (.int (Int32.ofNat t)), .val (.ref bm), .val (.int (own_want (own_le bd v0) (own_le bd v1) (own_le bd v2) (own_le bd v3) (own_le bd v4) f t)), .val (.int e2)] [(.int (Int32.ofNat f)), (.int v1), (.int (1 : Int32))]))
    refine own_by (fun _ kZ => XS.iload X145.here hx rfl (hb hby at_249) rfl kZ) ?_
    show own_R p.tables e below _ (T145.setTop (mkF m 251 #[.val (.int p1), .val (.int p2), .val (.int p3), .val (.int p4), .val (.int p5), .val (.int (Int32.ofNat 5)), .val (.int vi), .val (.int v0), .val (.int v1), .val (.int v2), .val (.int v3), .val (.int v4), .val (.double (FP.i2d bd)), .second, .val (.int (Int32.ofNat f)), .val (.int (Int32.ofNat t)), .val (.ref bm), .val (.int (own_want (own_le bd v0) (own_le bd v1) (own_le bd v2) (own_le bd v3) (own_le bd v4) f t)), .val (.int e2)] [(.int (Int32.ofNat t)), (.int (Int32.ofNat f)), (.int v1), (.int (1 : Int32))]))
    refine own_by (fun _ kZ => own_dload X145.here hx rfl (hb hby at_251) rfl kZ) ?_
    show own_R p.tables e below _ (T145.setTop (mkF m 253 #[.val (.int p1), .val (.int p2), .val (.int p3), .val (.int p4), .val (.int p5), .val (.int (Int32.ofNat 5)), .val (.int vi), .val (.int v0), .val (.int v1), .val (.int v2), .val (.int v3), .val (.int v4), .val (.double (FP.i2d bd)), .second, .val (.int (Int32.ofNat f)), .val (.int (Int32.ofNat t)), .val (.ref bm), .val (.int (own_want (own_le bd v0) (own_le bd v1) (own_le bd v2) (own_le bd v3) (own_le bd v4) f t)), .val (.int e2)] [(.double (FP.i2d bd)), (.int (Int32.ofNat t)), (.int (Int32.ofNat f)), (.int v1), (.int (1 : Int32))]))
    obtain ⟨_, _, ⟨T146, L146, k146, n146⟩, -, X146, ⟨Lc146, hQ146, l146, y146, z146⟩, st146⟩ := Jvm.LawKit.callS X145 hx (y := (⟨"com/example/frugal_scheduler/frugalscheduler/planners/MinTreeFirstAtMostPinLaw", "hit", "(IIIID)Z"⟩ : MethodName)) hown (mvT hZ (hw _ (List.mem_of_getElem? (i := 31) rfl))) (mvT hZ (hw _ (List.mem_of_getElem? (i := 32) rfl))) (mvT hZ (hw _ (List.mem_of_getElem? (i := 33) rfl))) (mvT hZ (hw _ (List.mem_of_getElem? (i := 34) rfl))) (by decide) (backOf (W := 0) (rm6 l Z a0 hw [] (1 : Int32) v1 (Int32.ofNat f) (Int32.ofNat t) (FP.i2d bd) bd T139.heap n0 Z141 rfl) hZ (hw _ (List.mem_of_getElem? (i := 34) rfl)) (hw _ (List.mem_of_getElem? (i := 33) rfl)) (by decide) (by decide)) (g := (mkF m 253 #[.val (.int p1), .val (.int p2), .val (.int p3), .val (.int p4), .val (.int p5), .val (.int (Int32.ofNat 5)), .val (.int vi), .val (.int v0), .val (.int v1), .val (.int v2), .val (.int v3), .val (.int v4), .val (.double (FP.i2d bd)), .second, .val (.int (Int32.ofNat f)), .val (.int (Int32.ofNat t)), .val (.ref bm), .val (.int (own_want (own_le bd v0) (own_le bd v1) (own_le bd v2) (own_le bd v3) (own_le bd v4) f t)), .val (.int e2)] [(.double (FP.i2d bd)), (.int (Int32.ofNat t)), (.int (Int32.ofNat f)), (.int v1), (.int (1 : Int32))])) rfl (by rw [hml]; rfl) (argsL := [(.int (1 : Int32)), (.int v1), (.int (Int32.ofNat f)), (.int (Int32.ofNat t)), (.double (FP.i2d bd))]) (rest := []) (lenOf own_pd4 rfl) rfl (by show 2 * 0 + _ ≤ _; exact Nat.le_of_eq rfl) (hb hby at_253) (fun _ _ => ⟨rfl, e145, (by decide : 2 + 0 ≤ _), (by decide : 19 + 0 ≤ _)⟩)
    dsimp only [Pt.U, Pt.locs, Pt.cells, Pt.slots] at X146 l146 y146 z146 st146 hQ146
    subst l146 y146 z146
    obtain ⟨rfl, Nq146, e146⟩ := hQ146
    have N146 := Fr.app N145 Nq146
    refine own_by st146 ?_
    show own_R p.tables e below _ (T146.setTop (mkF m 256 #[.val (.int p1), .val (.int p2), .val (.int p3), .val (.int p4), .val (.int p5), .val (.int (Int32.ofNat 5)), .val (.int vi), .val (.int v0), .val (.int v1), .val (.int v2), .val (.int v3), .val (.int v4), .val (.double (FP.i2d bd)), .second, .val (.int (Int32.ofNat f)), .val (.int (Int32.ofNat t)), .val (.ref bm), .val (.int (own_want (own_le bd v0) (own_le bd v1) (own_le bd v2) (own_le bd v3) (own_le bd v4) f t)), .val (.int e2)] [(.int (own_hit (1 : Int32) v1 (Int32.ofNat f) (Int32.ofNat t) bd))]))
    obtain ⟨e1, h_e1⟩ : ∃ z : Int32, z = (if (own_hit (1 : Int32) v1 (Int32.ofNat f) (Int32.ofNat t) bd) = (0 : Int32) then e2 else (1 : Int32)) := ⟨_, rfl⟩
    refine own_by (S' := T146.setTop (mkF m 262 #[.val (.int p1), .val (.int p2), .val (.int p3), .val (.int p4), .val (.int p5), .val (.int (Int32.ofNat 5)), .val (.int vi), .val (.int v0), .val (.int v1), .val (.int v2), .val (.int v3), .val (.int v4), .val (.double (FP.i2d bd)), .second, .val (.int (Int32.ofNat f)), .val (.int (Int32.ofNat t)), .val (.ref bm), .val (.int (own_want (own_le bd v0) (own_le bd v1) (own_le bd v2) (own_le bd v3) (own_le bd v4) f t)), .val (.int e1)] [])) (fun _ kZ => ?_) ?_
    · skip
      show Steps p.tables e below (T146.setTop (mkF m 256 #[.val (.int p1), .val (.int p2), .val (.int p3), .val (.int p4), .val (.int p5), .val (.int (Int32.ofNat 5)), .val (.int vi), .val (.int v0), .val (.int v1), .val (.int v2), .val (.int v3), .val (.int v4), .val (.double (FP.i2d bd)), .second, .val (.int (Int32.ofNat f)), .val (.int (Int32.ofNat t)), .val (.ref bm), .val (.int (own_want (own_le bd v0) (own_le bd v1) (own_le bd v2) (own_le bd v3) (own_le bd v4) f t)), .val (.int e2)] [(.int (own_hit (1 : Int32) v1 (Int32.ofNat f) (Int32.ofNat t) bd))])) _
      by_cases hd256 : (own_hit (1 : Int32) v1 (Int32.ofNat f) (Int32.ofNat t) bd) = (0 : Int32)
      · skip
        refine XS.ifYes X146.here hx rfl (pc0 := 256) (pc' := 262) rfl (hb hby at_256) rfl ((if0 _ _).trans (teq hd256).1) (by decide) (by decide) ?_
        show Steps p.tables e below (T146.setTop (mkF m 262 #[.val (.int p1), .val (.int p2), .val (.int p3), .val (.int p4), .val (.int p5), .val (.int (Int32.ofNat 5)), .val (.int vi), .val (.int v0), .val (.int v1), .val (.int v2), .val (.int v3), .val (.int v4), .val (.double (FP.i2d bd)), .second, .val (.int (Int32.ofNat f)), .val (.int (Int32.ofNat t)), .val (.ref bm), .val (.int (own_want (own_le bd v0) (own_le bd v1) (own_le bd v2) (own_le bd v3) (own_le bd v4) f t)), .val (.int e2)] [])) _
        rw [if_pos hd256] at h_e1
        subst h_e1
        exact kZ
      · skip
        refine XS.ifNo X146.here hx rfl (hb hby at_256) rfl ((if0 _ _).trans (feq hd256).1) ?_
        show Steps p.tables e below (T146.setTop (mkF m 259 #[.val (.int p1), .val (.int p2), .val (.int p3), .val (.int p4), .val (.int p5), .val (.int (Int32.ofNat 5)), .val (.int vi), .val (.int v0), .val (.int v1), .val (.int v2), .val (.int v3), .val (.int v4), .val (.double (FP.i2d bd)), .second, .val (.int (Int32.ofNat f)), .val (.int (Int32.ofNat t)), .val (.ref bm), .val (.int (own_want (own_le bd v0) (own_le bd v1) (own_le bd v2) (own_le bd v3) (own_le bd v4) f t)), .val (.int e2)] [])) _
        refine XS.iconst X146.here hx rfl (hb hby at_259) ?_
        show Steps p.tables e below (T146.setTop (mkF m 260 #[.val (.int p1), .val (.int p2), .val (.int p3), .val (.int p4), .val (.int p5), .val (.int (Int32.ofNat 5)), .val (.int vi), .val (.int v0), .val (.int v1), .val (.int v2), .val (.int v3), .val (.int v4), .val (.double (FP.i2d bd)), .second, .val (.int (Int32.ofNat f)), .val (.int (Int32.ofNat t)), .val (.ref bm), .val (.int (own_want (own_le bd v0) (own_le bd v1) (own_le bd v2) (own_le bd v3) (own_le bd v4) f t)), .val (.int e2)] [(.int (1 : Int32))])) _
        refine XS.istore X146.here hx rfl (hb hby at_260) rfl (l' := #[.val (.int p1), .val (.int p2), .val (.int p3), .val (.int p4), .val (.int p5), .val (.int (Int32.ofNat 5)), .val (.int vi), .val (.int v0), .val (.int v1), .val (.int v2), .val (.int v3), .val (.int v4), .val (.double (FP.i2d bd)), .second, .val (.int (Int32.ofNat f)), .val (.int (Int32.ofNat t)), .val (.ref bm), .val (.int (own_want (own_le bd v0) (own_le bd v1) (own_le bd v2) (own_le bd v3) (own_le bd v4) f t)), .val (.int (1 : Int32))]) rfl ?_
        show Steps p.tables e below (T146.setTop (mkF m 262 #[.val (.int p1), .val (.int p2), .val (.int p3), .val (.int p4), .val (.int p5), .val (.int (Int32.ofNat 5)), .val (.int vi), .val (.int v0), .val (.int v1), .val (.int v2), .val (.int v3), .val (.int v4), .val (.double (FP.i2d bd)), .second, .val (.int (Int32.ofNat f)), .val (.int (Int32.ofNat t)), .val (.ref bm), .val (.int (own_want (own_le bd v0) (own_le bd v1) (own_le bd v2) (own_le bd v3) (own_le bd v4) f t)), .val (.int (1 : Int32))] [])) _
        rw [if_neg hd256] at h_e1
        subst h_e1
        exact kZ
    show own_R p.tables e below _ (T146.setTop (mkF m 262 #[.val (.int p1), .val (.int p2), .val (.int p3), .val (.int p4), .val (.int p5), .val (.int (Int32.ofNat 5)), .val (.int vi), .val (.int v0), .val (.int v1), .val (.int v2), .val (.int v3), .val (.int v4), .val (.double (FP.i2d bd)), .second, .val (.int (Int32.ofNat f)), .val (.int (Int32.ofNat t)), .val (.ref bm), .val (.int (own_want (own_le bd v0) (own_le bd v1) (own_le bd v2) (own_le bd v3) (own_le bd v4) f t)), .val (.int e1)] []))
    refine own_by (fun _ kZ => XS.iconst X146.here hx rfl (hb hby at_262) kZ) ?_
    show own_R p.tables e below _ (T146.setTop (mkF m 263 #[.val (.int p1), .val (.int p2), .val (.int p3), .val (.int p4), .val (.int p5), .val (.int (Int32.ofNat 5)), .val (.int vi), .val (.int v0), .val (.int v1), .val (.int v2), .val (.int v3), .val (.int v4), .val (.double (FP.i2d bd)), .second, .val (.int (Int32.ofNat f)), .val (.int (Int32.ofNat t)), .val (.ref bm), .val (.int (own_want (own_le bd v0) (own_le bd v1) (own_le bd v2) (own_le bd v3) (own_le bd v4) f t)), .val (.int e1)] [(.int (0 : Int32))]))
    refine own_by (fun _ kZ => XS.iload X146.here hx rfl (hb hby at_263) rfl kZ) ?_
    show own_R p.tables e below _ (T146.setTop (mkF m 265 #[.val (.int p1), .val (.int p2), .val (.int p3), .val (.int p4), .val (.int p5), .val (.int (Int32.ofNat 5)), .val (.int vi), .val (.int v0), .val (.int v1), .val (.int v2), .val (.int v3), .val (.int v4), .val (.double (FP.i2d bd)), .second, .val (.int (Int32.ofNat f)), .val (.int (Int32.ofNat t)), .val (.ref bm), .val (.int (own_want (own_le bd v0) (own_le bd v1) (own_le bd v2) (own_le bd v3) (own_le bd v4) f t)), .val (.int e1)] [(.int v0), (.int (0 : Int32))]))
    refine own_by (fun _ kZ => XS.iload X146.here hx rfl (hb hby at_265) rfl kZ) ?_
    show own_R p.tables e below _ (T146.setTop (mkF m 267 #[.val (.int p1), .val (.int p2), .val (.int p3), .val (.int p4), .val (.int p5), .val (.int (Int32.ofNat 5)), .val (.int vi), .val (.int v0), .val (.int v1), .val (.int v2), .val (.int v3), .val (.int v4), .val (.double (FP.i2d bd)), .second, .val (.int (Int32.ofNat f)), .val (.int (Int32.ofNat t)), .val (.ref bm), .val (.int (own_want (own_le bd v0) (own_le bd v1) (own_le bd v2) (own_le bd v3) (own_le bd v4) f t)), .val (.int e1)] [(.int (Int32.ofNat f)), (.int v0), (.int (0 : Int32))]))
    refine own_by (fun _ kZ => XS.iload X146.here hx rfl (hb hby at_267) rfl kZ) ?_
    show own_R p.tables e below _ (T146.setTop (mkF m 269 #[.val (.int p1), .val (.int p2), .val (.int p3), .val (.int p4), .val (.int p5), .val (.int (Int32.ofNat 5)), .val (.int vi), .val (.int v0), .val (.int v1), .val (.int v2), .val (.int v3), .val (.int v4), .val (.double (FP.i2d bd)), .second, .val (.int (Int32.ofNat f)), .val (.int (Int32.ofNat t)), .val (.ref bm), .val (.int (own_want (own_le bd v0) (own_le bd v1) (own_le bd v2) (own_le bd v3) (own_le bd v4) f t)), .val (.int e1)] [(.int (Int32.ofNat t)), (.int (Int32.ofNat f)), (.int v0), (.int (0 : Int32))]))
    refine own_by (fun _ kZ => own_dload X146.here hx rfl (hb hby at_269) rfl kZ) ?_
    show own_R p.tables e below _ (T146.setTop (mkF m 271 #[.val (.int p1), .val (.int p2), .val (.int p3), .val (.int p4), .val (.int p5), .val (.int (Int32.ofNat 5)), .val (.int vi), .val (.int v0), .val (.int v1), .val (.int v2), .val (.int v3), .val (.int v4), .val (.double (FP.i2d bd)), .second, .val (.int (Int32.ofNat f)), .val (.int (Int32.ofNat t)), .val (.ref bm), .val (.int (own_want (own_le bd v0) (own_le bd v1) (own_le bd v2) (own_le bd v3) (own_le bd v4) f t)), .val (.int e1)] [(.double (FP.i2d bd)), (.int (Int32.ofNat t)), (.int (Int32.ofNat f)), (.int v0), (.int (0 : Int32))]))
    obtain ⟨_, _, ⟨T147, L147, k147, n147⟩, -, X147, ⟨Lc147, hQ147, l147, y147, z147⟩, st147⟩ := Jvm.LawKit.callS X146 hx (y := (⟨"com/example/frugal_scheduler/frugalscheduler/planners/MinTreeFirstAtMostPinLaw", "hit", "(IIIID)Z"⟩ : MethodName)) hown (mvT hZ (hw _ (List.mem_of_getElem? (i := 31) rfl))) (mvT hZ (hw _ (List.mem_of_getElem? (i := 32) rfl))) (mvT hZ (hw _ (List.mem_of_getElem? (i := 33) rfl))) (mvT hZ (hw _ (List.mem_of_getElem? (i := 34) rfl))) (by decide) (backOf (W := 0) (rm6 l Z a0 hw [] (0 : Int32) v0 (Int32.ofNat f) (Int32.ofNat t) (FP.i2d bd) bd T139.heap n0 Z141 rfl) hZ (hw _ (List.mem_of_getElem? (i := 34) rfl)) (hw _ (List.mem_of_getElem? (i := 33) rfl)) (by decide) (by decide)) (g := (mkF m 271 #[.val (.int p1), .val (.int p2), .val (.int p3), .val (.int p4), .val (.int p5), .val (.int (Int32.ofNat 5)), .val (.int vi), .val (.int v0), .val (.int v1), .val (.int v2), .val (.int v3), .val (.int v4), .val (.double (FP.i2d bd)), .second, .val (.int (Int32.ofNat f)), .val (.int (Int32.ofNat t)), .val (.ref bm), .val (.int (own_want (own_le bd v0) (own_le bd v1) (own_le bd v2) (own_le bd v3) (own_le bd v4) f t)), .val (.int e1)] [(.double (FP.i2d bd)), (.int (Int32.ofNat t)), (.int (Int32.ofNat f)), (.int v0), (.int (0 : Int32))])) rfl (by rw [hml]; rfl) (argsL := [(.int (0 : Int32)), (.int v0), (.int (Int32.ofNat f)), (.int (Int32.ofNat t)), (.double (FP.i2d bd))]) (rest := []) (lenOf own_pd4 rfl) rfl (by show 2 * 0 + _ ≤ _; exact Nat.le_of_eq rfl) (hb hby at_271) (fun _ _ => ⟨rfl, e146, (by decide : 2 + 0 ≤ _), (by decide : 19 + 0 ≤ _)⟩)
    dsimp only [Pt.U, Pt.locs, Pt.cells, Pt.slots] at X147 l147 y147 z147 st147 hQ147
    subst l147 y147 z147
    obtain ⟨rfl, Nq147, e147⟩ := hQ147
    have N147 := Fr.app N146 Nq147
    refine own_by st147 ?_
    show own_R p.tables e below _ (T147.setTop (mkF m 274 #[.val (.int p1), .val (.int p2), .val (.int p3), .val (.int p4), .val (.int p5), .val (.int (Int32.ofNat 5)), .val (.int vi), .val (.int v0), .val (.int v1), .val (.int v2), .val (.int v3), .val (.int v4), .val (.double (FP.i2d bd)), .second, .val (.int (Int32.ofNat f)), .val (.int (Int32.ofNat t)), .val (.ref bm), .val (.int (own_want (own_le bd v0) (own_le bd v1) (own_le bd v2) (own_le bd v3) (own_le bd v4) f t)), .val (.int e1)] [(.int (own_hit (0 : Int32) v0 (Int32.ofNat f) (Int32.ofNat t) bd))]))
    obtain ⟨e0, h_e0⟩ : ∃ z : Int32, z = (if (own_hit (0 : Int32) v0 (Int32.ofNat f) (Int32.ofNat t) bd) = (0 : Int32) then e1 else (0 : Int32)) := ⟨_, rfl⟩
    refine own_by (S' := T147.setTop (mkF m 280 #[.val (.int p1), .val (.int p2), .val (.int p3), .val (.int p4), .val (.int p5), .val (.int (Int32.ofNat 5)), .val (.int vi), .val (.int v0), .val (.int v1), .val (.int v2), .val (.int v3), .val (.int v4), .val (.double (FP.i2d bd)), .second, .val (.int (Int32.ofNat f)), .val (.int (Int32.ofNat t)), .val (.ref bm), .val (.int (own_want (own_le bd v0) (own_le bd v1) (own_le bd v2) (own_le bd v3) (own_le bd v4) f t)), .val (.int e0)] [])) (fun _ kZ => ?_) ?_
    · skip
      show Steps p.tables e below (T147.setTop (mkF m 274 #[.val (.int p1), .val (.int p2), .val (.int p3), .val (.int p4), .val (.int p5), .val (.int (Int32.ofNat 5)), .val (.int vi), .val (.int v0), .val (.int v1), .val (.int v2), .val (.int v3), .val (.int v4), .val (.double (FP.i2d bd)), .second, .val (.int (Int32.ofNat f)), .val (.int (Int32.ofNat t)), .val (.ref bm), .val (.int (own_want (own_le bd v0) (own_le bd v1) (own_le bd v2) (own_le bd v3) (own_le bd v4) f t)), .val (.int e1)] [(.int (own_hit (0 : Int32) v0 (Int32.ofNat f) (Int32.ofNat t) bd))])) _
      by_cases hd274 : (own_hit (0 : Int32) v0 (Int32.ofNat f) (Int32.ofNat t) bd) = (0 : Int32)
      · skip
        refine XS.ifYes X147.here hx rfl (pc0 := 274) (pc' := 280) rfl (hb hby at_274) rfl ((if0 _ _).trans (teq hd274).1) (by decide) (by decide) ?_
        show Steps p.tables e below (T147.setTop (mkF m 280 #[.val (.int p1), .val (.int p2), .val (.int p3), .val (.int p4), .val (.int p5), .val (.int (Int32.ofNat 5)), .val (.int vi), .val (.int v0), .val (.int v1), .val (.int v2), .val (.int v3), .val (.int v4), .val (.double (FP.i2d bd)), .second, .val (.int (Int32.ofNat f)), .val (.int (Int32.ofNat t)), .val (.ref bm), .val (.int (own_want (own_le bd v0) (own_le bd v1) (own_le bd v2) (own_le bd v3) (own_le bd v4) f t)), .val (.int e1)] [])) _
        rw [if_pos hd274] at h_e0
        subst h_e0
        exact kZ
      · skip
        refine XS.ifNo X147.here hx rfl (hb hby at_274) rfl ((if0 _ _).trans (feq hd274).1) ?_
        show Steps p.tables e below (T147.setTop (mkF m 277 #[.val (.int p1), .val (.int p2), .val (.int p3), .val (.int p4), .val (.int p5), .val (.int (Int32.ofNat 5)), .val (.int vi), .val (.int v0), .val (.int v1), .val (.int v2), .val (.int v3), .val (.int v4), .val (.double (FP.i2d bd)), .second, .val (.int (Int32.ofNat f)), .val (.int (Int32.ofNat t)), .val (.ref bm), .val (.int (own_want (own_le bd v0) (own_le bd v1) (own_le bd v2) (own_le bd v3) (own_le bd v4) f t)), .val (.int e1)] [])) _
        refine XS.iconst X147.here hx rfl (hb hby at_277) ?_
        show Steps p.tables e below (T147.setTop (mkF m 278 #[.val (.int p1), .val (.int p2), .val (.int p3), .val (.int p4), .val (.int p5), .val (.int (Int32.ofNat 5)), .val (.int vi), .val (.int v0), .val (.int v1), .val (.int v2), .val (.int v3), .val (.int v4), .val (.double (FP.i2d bd)), .second, .val (.int (Int32.ofNat f)), .val (.int (Int32.ofNat t)), .val (.ref bm), .val (.int (own_want (own_le bd v0) (own_le bd v1) (own_le bd v2) (own_le bd v3) (own_le bd v4) f t)), .val (.int e1)] [(.int (0 : Int32))])) _
        refine XS.istore X147.here hx rfl (hb hby at_278) rfl (l' := #[.val (.int p1), .val (.int p2), .val (.int p3), .val (.int p4), .val (.int p5), .val (.int (Int32.ofNat 5)), .val (.int vi), .val (.int v0), .val (.int v1), .val (.int v2), .val (.int v3), .val (.int v4), .val (.double (FP.i2d bd)), .second, .val (.int (Int32.ofNat f)), .val (.int (Int32.ofNat t)), .val (.ref bm), .val (.int (own_want (own_le bd v0) (own_le bd v1) (own_le bd v2) (own_le bd v3) (own_le bd v4) f t)), .val (.int (0 : Int32))]) rfl ?_
        show Steps p.tables e below (T147.setTop (mkF m 280 #[.val (.int p1), .val (.int p2), .val (.int p3), .val (.int p4), .val (.int p5), .val (.int (Int32.ofNat 5)), .val (.int vi), .val (.int v0), .val (.int v1), .val (.int v2), .val (.int v3), .val (.int v4), .val (.double (FP.i2d bd)), .second, .val (.int (Int32.ofNat f)), .val (.int (Int32.ofNat t)), .val (.ref bm), .val (.int (own_want (own_le bd v0) (own_le bd v1) (own_le bd v2) (own_le bd v3) (own_le bd v4) f t)), .val (.int (0 : Int32))] [])) _
        rw [if_neg hd274] at h_e0
        subst h_e0
        exact kZ
    show own_R p.tables e below _ (T147.setTop (mkF m 280 #[.val (.int p1), .val (.int p2), .val (.int p3), .val (.int p4), .val (.int p5), .val (.int (Int32.ofNat 5)), .val (.int vi), .val (.int v0), .val (.int v1), .val (.int v2), .val (.int v3), .val (.int v4), .val (.double (FP.i2d bd)), .second, .val (.int (Int32.ofNat f)), .val (.int (Int32.ofNat t)), .val (.ref bm), .val (.int (own_want (own_le bd v0) (own_le bd v1) (own_le bd v2) (own_le bd v3) (own_le bd v4) f t)), .val (.int e0)] []))
    refine own_by (fun _ kZ => XS.iload X147.here hx rfl (hb hby at_280) rfl kZ) ?_
    show own_R p.tables e below _ (T147.setTop (mkF m 282 #[.val (.int p1), .val (.int p2), .val (.int p3), .val (.int p4), .val (.int p5), .val (.int (Int32.ofNat 5)), .val (.int vi), .val (.int v0), .val (.int v1), .val (.int v2), .val (.int v3), .val (.int v4), .val (.double (FP.i2d bd)), .second, .val (.int (Int32.ofNat f)), .val (.int (Int32.ofNat t)), .val (.ref bm), .val (.int (own_want (own_le bd v0) (own_le bd v1) (own_le bd v2) (own_le bd v3) (own_le bd v4) f t)), .val (.int e0)] [(.int (own_want (own_le bd v0) (own_le bd v1) (own_le bd v2) (own_le bd v3) (own_le bd v4) f t))]))
    refine own_by (fun _ kZ => XS.iload X147.here hx rfl (hb hby at_282) rfl kZ) ?_
    show own_R p.tables e below _ (T147.setTop (mkF m 284 #[.val (.int p1), .val (.int p2), .val (.int p3), .val (.int p4), .val (.int p5), .val (.int (Int32.ofNat 5)), .val (.int vi), .val (.int v0), .val (.int v1), .val (.int v2), .val (.int v3), .val (.int v4), .val (.double (FP.i2d bd)), .second, .val (.int (Int32.ofNat f)), .val (.int (Int32.ofNat t)), .val (.ref bm), .val (.int (own_want (own_le bd v0) (own_le bd v1) (own_le bd v2) (own_le bd v3) (own_le bd v4) f t)), .val (.int e0)] [(.int e0), (.int (own_want (own_le bd v0) (own_le bd v1) (own_le bd v2) (own_le bd v3) (own_le bd v4) f t))]))
    refine own_by (fun _ kZ => XS.icmpNo X147.here hx rfl (hb hby at_284) rfl (teq (own_wfin (by omega) (by omega) h_e4 h_e3 h_e2 h_e1 h_e0 : (own_want (own_le bd v0) (own_le bd v1) (own_le bd v2) (own_le bd v3) (own_le bd v4) f t) = e0)).2 kZ) ?_
    show own_R p.tables e below _ (T147.setTop (mkF m 287 #[.val (.int p1), .val (.int p2), .val (.int p3), .val (.int p4), .val (.int p5), .val (.int (Int32.ofNat 5)), .val (.int vi), .val (.int v0), .val (.int v1), .val (.int v2), .val (.int v3), .val (.int v4), .val (.double (FP.i2d bd)), .second, .val (.int (Int32.ofNat f)), .val (.int (Int32.ofNat t)), .val (.ref bm), .val (.int (own_want (own_le bd v0) (own_le bd v1) (own_le bd v2) (own_le bd v3) (own_le bd v4) f t)), .val (.int e0)] []))
    refine own_by (fun _ kZ => XS.iconst X147.here hx rfl (hb hby at_287) kZ) ?_
    show own_R p.tables e below _ (T147.setTop (mkF m 288 #[.val (.int p1), .val (.int p2), .val (.int p3), .val (.int p4), .val (.int p5), .val (.int (Int32.ofNat 5)), .val (.int vi), .val (.int v0), .val (.int v1), .val (.int v2), .val (.int v3), .val (.int v4), .val (.double (FP.i2d bd)), .second, .val (.int (Int32.ofNat f)), .val (.int (Int32.ofNat t)), .val (.ref bm), .val (.int (own_want (own_le bd v0) (own_le bd v1) (own_le bd v2) (own_le bd v3) (own_le bd v4) f t)), .val (.int e0)] [(.int (1 : Int32))]))
    refine own_by (fun _ kZ => XS.goto X147.here hx rfl (pc0 := 288) (pc' := 292) rfl (hb hby at_288) (by decide) (by decide) kZ) ?_
    show own_R p.tables e below _ (T147.setTop (mkF m 292 #[.val (.int p1), .val (.int p2), .val (.int p3), .val (.int p4), .val (.int p5), .val (.int (Int32.ofNat 5)), .val (.int vi), .val (.int v0), .val (.int v1), .val (.int v2), .val (.int v3), .val (.int v4), .val (.double (FP.i2d bd)), .second, .val (.int (Int32.ofNat f)), .val (.int (Int32.ofNat t)), .val (.ref bm), .val (.int (own_want (own_le bd v0) (own_le bd v1) (own_le bd v2) (own_le bd v3) (own_le bd v4) f t)), .val (.int e0)] [(.int (1 : Int32))]))
    obtain ⟨fs, hr, hrun, hended, hW, hsame⟩ := X147.leave (v := some (.int (1 : Int32))) (fun h => by rw [Bd.returns] at h; cases h)
    refine own_end ⟨_, _, ?_, hrun, hended, _, _, rfl, ?_, ⟨_, rfl⟩, hW, hsame.mono (by decide) (by decide)⟩
    · exact retN X147 hx (t := .boolean) Bd.returns (by simp) (hb hby at_292) hr
    · show Q0 Z p1 p2 p3 p4 p5 h0 n0 _ T147.heap _
      rw [e147]
      exact ⟨rfl, N147⟩
set_option maxRecDepth 65536 in
set_option maxHeartbeats 40000000 in
theorem comes_1 {Post : Tables → Env → Array Value → State → Outcome → State → Prop} (hpost : ∀ tb e args s v u, (limb_1_1.after args s (.returned v) u = true ∧ limb_1_2.after args s (.returned v) u = true) → FrameEnd s (.returned v) u (Jvm.fieldLocs frame_1_writes args s ++ Jvm.arrayLocs frame_1_arrays args s ++ Jvm.staticLocs frame_1_statics s) 16 128 → Post tb e args s (.returned v) u) :
    ArmFor flags0 classFile x code maxLocals ret World_1 tables_1 room_1 Calls_1 rest_1 Pre_1 Post := by
  intro l hfl _ _ p e ha hc hk s m args below hf hA hF happ hP
  obtain ⟨hcalls, hrest, hpre⟩ := hP
  obtain ⟨-, -, -, hnamed, -, -, -, hat⟩ := (Spec.applies_iff hf).mp happ
  obtain ⟨hg, hn⟩ := and_e (Cond.before_iff.mp (show (Jvm.Cond.and given_1 narrow_1).before args s = true from hpre))
  obtain ⟨g0, q0⟩ := and_e hg
  obtain ⟨g1, q1⟩ := and_e q0
  obtain ⟨g2, q2⟩ := and_e q1
  obtain ⟨g3, q3⟩ := and_e q2
  obtain ⟨g4, q4⟩ := and_e q3
  have g5 := q4
  obtain ⟨w0, w1, w2, w3, w4, rfl⟩ : ∃ w0 w1 w2 w3 w4 : Value, args = #[w0, w1, w2, w3, w4] := by
    have hs : args.size = 5 := by simpa [Cond.value, given_1] using g0
    obtain ⟨L⟩ := args
    match L, hs with
    | [w0, w1, w2, w3, w4], _ => exact ⟨w0, w1, w2, w3, w4, rfl⟩
  have hw := fun d (hd : d ∈ tables_1) => atoms_spec (ws := Jvm.Cond.code x code maxLocals ret :: tables_1) hat d (List.mem_cons_of_mem _ hd)
  have hfit : Fit s := fun {y c} hc i hi => by
    obtain ⟨ha, rfl⟩ := Array.getElem?_eq_some_iff.mp hc
    have q := List.all_eq_true.mp ((Array.all_eq_true_iff_forall_mem.mp hF) _ (Array.getElem_mem ha)) i (List.mem_range.mpr hi)
    simpa [Array.getElem?_eq_getElem hi] using q
  obtain ⟨i0, ei0⟩ := is_v g1
  obtain rfl : w0 = (.int i0) := Option.some.inj ei0
  obtain ⟨i1, ei1⟩ := is_v g2
  obtain rfl : w1 = (.int i1) := Option.some.inj ei1
  obtain ⟨i2, ei2⟩ := is_v g3
  obtain rfl : w2 = (.int i2) := Option.some.inj ei2
  obtain ⟨i3, ei3⟩ := is_v g4
  obtain rfl : w3 = (.int i3) := Option.some.inj ei3
  obtain ⟨i4, ei4⟩ := is_v g5
  obtain rfl : w4 = (.int i4) := Option.some.inj ei4
  obtain ⟨n, o, h1, h2, h3, _, L, rfl, ⟨rfl, N⟩, hq⟩ := rm0 l s _ hw tables_1 i0 i1 i2 i3 i4  s.heap s.heap.size (Nat.le_refl _)  p e ha hc hk s m _ below hf ((Spec.applies_iff_loose hf).mp happ).1 ⟨rfl, State.Warmed39.refl s, rfl⟩ trivial
  refine ⟨n, _, h1, h2, h3, hpost _ _ _ _ _ _ ⟨Cond.after_iff.mpr rfl, Cond.after_iff.mpr (eq_i res_at (Term.int_eval (1)) rfl)⟩ ⟨hq.1, hq.2.1, (hq.2.2.sift fun y hy => Or.inr (N y hy)).mono (by decide) (by decide)⟩⟩
theorem main_1_1 : Claimed_1_1 := comes_1 fun _ _ _ _ _ _ h hF => ⟨h.1, hF⟩
theorem main_1_2 : Claimed_1_2 := comes_1 fun _ _ _ _ _ _ h hF => ⟨h.2, hF⟩
end Jvm.Pilot.@@N@@
namespace Jvm.Pilot.@@N@@
open Jvm Jvm.ClassFile Sem Op Lib Jvm.Free Jvm.Stand Jvm.Pilot.@@N@@.Jvm.D
/-! MADE BY PROGRAM (witnessworld.py) out of the Statement's table words and the real class files: 13 classes; the members and pool entries that the words name. The judged class is class 1, her method 1. -/
namespace start1
open Jvm.ClassFile
def u (s : String) : CpInfo := .utf8 (stringToUtf16 s)
/-- a pool by its gaps: so many unusable entries, then the entry; so many at the end -/
def gap : Nat → List CpInfo → List CpInfo
  | 0, r => r
  | n + 1, r => .unusable :: gap n r
def poolList (es : List (Nat × CpInfo)) (last : Nat) : List CpInfo := es.foldr (fun e r => gap e.1 (e.2 :: r)) (gap last [])
def pool (es : List (Nat × CpInfo)) (last : Nat) : Array CpInfo := ⟨poolList es last⟩
def fileOf (pool : Array CpInfo) (this : Nat) (attrs : Array Attribute := #[]) (ms : Array MethodInfo := #[]) (fl : Nat := 33) (sup : Nat := 0) (ifs : Array Nat := #[]) (fds : Array FieldInfo := #[]) : ClassFile where
  minorVersion := 0
  majorVersion := 65
  constantPool := pool
  accessFlags := fl
  thisClass := this
  superClass := sup
  interfaces := ifs
  fields := fds
  methods := ms
  attributes := attrs
def plain (name : String) (sup : Option ClassId) : Class where
  name := name
  kind := .ordinary
  loader := none
  accessFlags := 33
  super := sup
  interfaces := #[]
  cf := none
  fields := #[]
  methods := #[]
  instanceTypes := #[]
  staticTypes := #[]
  resolved := #[]
  callSites := []
  init := .initialized
  statics := none
  mirror := none

def pool0 : Array CpInfo := pool [(5, u "<init>"), (0, u "()V"), (1, .class_ 10), (1, u "java/lang/Object")] 113

def k0c0 : Code := { maxStack := 0, maxLocals := 1, code := object_method_1_code, exceptionTable := #[], attributes := #[] }
def k0m0 : Method := { name := "<init>", desc := "()V", sig := { parameters := [], returnType := none }, accessFlags := 1, code := some k0c0 }
/-- java/lang/Object -/
def k0 : Class := { plain "java/lang/Object" none with
  accessFlags := 33
  interfaces := #[]
  cf := some (fileOf pool0 8 #[] #[{ accessFlags := 1, nameIndex := 5, descriptorIndex := 6, attributes := #[] }] 33 0 #[] #[])
  fields := #[]
  methods := #[k0m0]
  instanceTypes := #[]
  staticTypes := #[]
  resolved := Array.replicate 124 none
  statics := none }

def pool1 : Array CpInfo := pool [(2, .class_ 4), (1, u "java/lang/Object"), (0, u "<init>"), (0, u "()V"), (0, .integer 2147483647), (0, .class_ 9), (0, u "com/example/frugal_scheduler/frugalscheduler/planners/MinTree"), (0, .methodref 8 11), (0, .nameAndType 5 12), (0, u "(ID)V"), (0, .methodref 8 14), (0, .nameAndType 15 12), (0, u "set"), (0, .methodref 8 17), (0, .nameAndType 18 19), (0, u "firstAtMost"), (0, u "(IID)I"), (0, .methodref 21 22), (0, .class_ 23), (0, .nameAndType 24 25), (0, u "com/example/frugal_scheduler/frugalscheduler/planners/MinTreeFirstAtMostPinLaw"), (0, u "hit"), (0, u "(IIIID)Z"), (2, u "law"), (0, u "(IIIII)Z")] 3

def k1m0 : Method := { name := "<init>", desc := "()V", sig := { parameters := [], returnType := none }, accessFlags := 1, code := none }
def k1c1 : Code := { maxStack := 6, maxLocals := 19, code := code, exceptionTable := #[], attributes := #[] }
def k1m1 : Method := { name := "law", desc := "(IIIII)Z", sig := { parameters := [.int, .int, .int, .int, .int], returnType := some .boolean }, accessFlags := 9, code := some k1c1 }
def k1c2 : Code := { maxStack := 4, maxLocals := 6, code := method_3_code, exceptionTable := #[], attributes := #[] }
def k1m2 : Method := { name := "hit", desc := "(IIIID)Z", sig := { parameters := [.int, .int, .int, .int, .double], returnType := some .boolean }, accessFlags := 10, code := some k1c2 }
/-- com/example/frugal_scheduler/frugalscheduler/planners/MinTreeFirstAtMostPinLaw -/
def k1 : Class := { plain "com/example/frugal_scheduler/frugalscheduler/planners/MinTreeFirstAtMostPinLaw" (some 0) with
  accessFlags := 49
  interfaces := #[]
  cf := some (fileOf pool1 21 #[] #[{ accessFlags := 1, nameIndex := 5, descriptorIndex := 6, attributes := #[] }, { accessFlags := 9, nameIndex := 28, descriptorIndex := 29, attributes := #[] }, { accessFlags := 10, nameIndex := 24, descriptorIndex := 25, attributes := #[] }] 49 2 #[] #[])
  fields := #[]
  methods := #[k1m0, k1m1, k1m2]
  instanceTypes := #[]
  staticTypes := #[]
  resolved := Array.replicate 33 none
  statics := none }

def pool2 : Array CpInfo := pool [(1, .methodref 2 3), (0, .class_ 4), (0, .nameAndType 5 6), (0, u "java/lang/Object"), (0, u "<init>"), (0, u "()V"), (0, .fieldref 8 9), (0, .class_ 10), (0, .nameAndType 11 12), (0, u "com/example/frugal_scheduler/frugalscheduler/planners/MinTree"), (0, u "leaves"), (0, u "I"), (0, .fieldref 8 14), (0, .nameAndType 15 16), (0, u "mins"), (0, u "[D"), (0, .methodref 18 19), (0, .class_ 20), (0, .nameAndType 21 22), (0, u "java/util/Arrays"), (0, u "fill"), (0, u "([DD)V"), (0, .fieldref 8 24), (0, .nameAndType 25 12), (0, u "size"), (0, .methodref 27 28), (0, .class_ 29), (0, .nameAndType 30 31), (0, u "java/lang/Math"), (0, u "min"), (0, u "(DD)D"), (17, u "(ID)V"), (3, u "set"), (4, u "firstAtMost"), (0, u "(IID)I")] 2

def k2c0 : Code := { maxStack := 3, maxLocals := 5, code := prog_58_method_1_code, exceptionTable := #[], attributes := #[] }
def k2m0 : Method := { name := "<init>", desc := "(ID)V", sig := { parameters := [.int, .double], returnType := none }, accessFlags := 0, code := some k2c0 }
def k2c1 : Code := { maxStack := 7, maxLocals := 5, code := prog_58_method_2_code, exceptionTable := #[], attributes := #[] }
def k2m1 : Method := { name := "set", desc := "(ID)V", sig := { parameters := [.int, .double], returnType := none }, accessFlags := 0, code := some k2c1 }
def k2c2 : Code := { maxStack := 4, maxLocals := 7, code := prog_58_method_6_code, exceptionTable := #[], attributes := #[] }
def k2m2 : Method := { name := "firstAtMost", desc := "(IID)I", sig := { parameters := [.int, .int, .double], returnType := some .int }, accessFlags := 0, code := some k2c2 }
/-- com/example/frugal_scheduler/frugalscheduler/planners/MinTree -/
def k2 : Class := { plain "com/example/frugal_scheduler/frugalscheduler/planners/MinTree" (some 0) with
  accessFlags := 32
  interfaces := #[]
  cf := some (fileOf pool2 8 #[] #[{ accessFlags := 0, nameIndex := 5, descriptorIndex := 49, attributes := #[] }, { accessFlags := 0, nameIndex := 53, descriptorIndex := 49, attributes := #[] }, { accessFlags := 0, nameIndex := 58, descriptorIndex := 59, attributes := #[] }] 32 2 #[] #[{ accessFlags := 2, nameIndex := 11, descriptorIndex := 12, attributes := #[] }, { accessFlags := 2, nameIndex := 15, descriptorIndex := 16, attributes := #[] }, { accessFlags := 2, nameIndex := 25, descriptorIndex := 12, attributes := #[] }])
  fields := #[{ name := "leaves", type := .int, accessFlags := 2, slot := 0, constantValue := 0 }, { name := "mins", type := (.array .double), accessFlags := 2, slot := 1, constantValue := 0 }, { name := "size", type := .int, accessFlags := 2, slot := 2, constantValue := 0 }]
  methods := #[k2m0, k2m1, k2m2]
  instanceTypes := #[.int, (.array .double), .int]
  staticTypes := #[]
  resolved := Array.replicate 62 none
  statics := none }

def pool3 : Array CpInfo := pool [(2, .class_ 4), (1, u "java/lang/Object"), (0, u "<init>"), (0, u "()V"), (7, .class_ 16), (1, u "java/util/Arrays"), (57, .class_ 76), (1, u "java/util/Arrays$NaturalOrder"), (36, .class_ 115), (1, u "java/util/Arrays$LegacyMergeSort"), (1, u "Z"), (257, .class_ 376), (0, u "java/util/Arrays$ArrayList"), (68, u "$assertionsDisabled"), (269, u "MIN_ARRAY_SORT_GRAN"), (0, u "I"), (2, u "INSERTIONSORT_THRESHOLD"), (120, u "fill"), (13, u "([DD)V"), (120, .class_ 976), (0, u "java/util/Arrays$ArrayItr")] 52

def k3m0 : Method := { name := "<init>", desc := "()V", sig := { parameters := [], returnType := none }, accessFlags := 2, code := none }
def k3c1 : Code := { maxStack := 4, maxLocals := 5, code := jdk_65_method_113_code, exceptionTable := #[], attributes := #[] }
def k3m1 : Method := { name := "fill", desc := "([DD)V", sig := { parameters := [(.array .double), .double], returnType := none }, accessFlags := 9, code := some k3c1 }
/-- java/util/Arrays -/
def k3 : Class := { plain "java/util/Arrays" (some 0) with
  accessFlags := 49
  interfaces := #[]
  cf := some (fileOf pool3 14 #[.nestMembers #[975, 375, 113, 74]] #[{ accessFlags := 2, nameIndex := 5, descriptorIndex := 6, attributes := #[] }, { accessFlags := 9, nameIndex := 840, descriptorIndex := 854, attributes := #[] }] 49 2 #[] #[{ accessFlags := 26, nameIndex := 715, descriptorIndex := 716, attributes := #[] }, { accessFlags := 26, nameIndex := 719, descriptorIndex := 716, attributes := #[] }, { accessFlags := 4120, nameIndex := 445, descriptorIndex := 117, attributes := #[] }])
  fields := #[{ name := "MIN_ARRAY_SORT_GRAN", type := .int, accessFlags := 26, slot := 0, constantValue := 0 }, { name := "INSERTIONSORT_THRESHOLD", type := .int, accessFlags := 26, slot := 1, constantValue := 0 }, { name := "$assertionsDisabled", type := .boolean, accessFlags := 4120, slot := 2, constantValue := 0 }]
  methods := #[k3m0, k3m1]
  instanceTypes := #[]
  staticTypes := #[.int, .int, .boolean]
  resolved := Array.replicate 1029 none
  statics := none }

def pool4 : Array CpInfo := pool [(1, .class_ 2), (0, u "java/lang/Math"), (1, .class_ 6), (1, u "java/lang/Object"), (0, u "<init>"), (0, u "()V"), (43, u "(DD)D"), (45, .class_ 100), (1, u "java/lang/Math$RandomNumberGeneratorHolder"), (71, u "negativeZeroFloatBits"), (0, u "J"), (2, u "negativeZeroDoubleBits"), (24, u "min"), (43, u "$assertionsDisabled"), (0, u "Z"), (91, u "twoToTheDoubleScaleDown"), (0, u "D"), (4, u "twoToTheDoubleScaleUp"), (9, u "E"), (3, u "PI"), (2, u "TAU"), (2, u "DEGREES_TO_RADIANS"), (0, u "RADIANS_TO_DEGREES")] 94

def k4m0 : Method := { name := "<init>", desc := "()V", sig := { parameters := [], returnType := none }, accessFlags := 2, code := none }
def k4c1 : Code := { maxStack := 4, maxLocals := 4, code := jdk_29_method_72_code, exceptionTable := #[], attributes := #[] }
def k4m1 : Method := { name := "min", desc := "(DD)D", sig := { parameters := [.double, .double], returnType := some .double }, accessFlags := 9, code := some k4c1 }
/-- java/lang/Math -/
def k4 : Class := { plain "java/lang/Math" (some 0) with
  accessFlags := 49
  interfaces := #[]
  cf := some (fileOf pool4 1 #[.nestMembers #[98]] #[{ accessFlags := 2, nameIndex := 7, descriptorIndex := 8, attributes := #[] }, { accessFlags := 9, nameIndex := 201, descriptorIndex := 52, attributes := #[] }] 49 4 #[] #[{ accessFlags := 25, nameIndex := 354, descriptorIndex := 339, attributes := #[] }, { accessFlags := 25, nameIndex := 358, descriptorIndex := 339, attributes := #[] }, { accessFlags := 25, nameIndex := 361, descriptorIndex := 339, attributes := #[] }, { accessFlags := 26, nameIndex := 364, descriptorIndex := 339, attributes := #[] }, { accessFlags := 26, nameIndex := 365, descriptorIndex := 339, attributes := #[] }, { accessFlags := 26, nameIndex := 172, descriptorIndex := 173, attributes := #[] }, { accessFlags := 26, nameIndex := 176, descriptorIndex := 173, attributes := #[] }, { accessFlags := 8, nameIndex := 344, descriptorIndex := 339, attributes := #[] }, { accessFlags := 8, nameIndex := 338, descriptorIndex := 339, attributes := #[] }, { accessFlags := 4120, nameIndex := 245, descriptorIndex := 246, attributes := #[] }])
  fields := #[{ name := "E", type := .double, accessFlags := 25, slot := 0, constantValue := 0 }, { name := "PI", type := .double, accessFlags := 25, slot := 1, constantValue := 0 }, { name := "TAU", type := .double, accessFlags := 25, slot := 2, constantValue := 0 }, { name := "DEGREES_TO_RADIANS", type := .double, accessFlags := 26, slot := 3, constantValue := 0 }, { name := "RADIANS_TO_DEGREES", type := .double, accessFlags := 26, slot := 4, constantValue := 0 }, { name := "negativeZeroFloatBits", type := .long, accessFlags := 26, slot := 5, constantValue := 0 }, { name := "negativeZeroDoubleBits", type := .long, accessFlags := 26, slot := 6, constantValue := 0 }, { name := "twoToTheDoubleScaleUp", type := .double, accessFlags := 8, slot := 7, constantValue := 0 }, { name := "twoToTheDoubleScaleDown", type := .double, accessFlags := 8, slot := 8, constantValue := 0 }, { name := "$assertionsDisabled", type := .boolean, accessFlags := 4120, slot := 9, constantValue := 0 }]
  methods := #[k4m0, k4m1]
  instanceTypes := #[]
  staticTypes := #[.double, .double, .double, .double, .double, .long, .long, .double, .double, .boolean]
  resolved := Array.replicate 460 none
  statics := none }

def pool5 : Array CpInfo := pool [(1, u "java/lang/Cloneable"), (0, .class_ 1), (0, u "java/lang/Object"), (0, .class_ 3)] 3

/-- java/lang/Cloneable -/
def k5 : Class := { plain "java/lang/Cloneable" (some 0) with
  accessFlags := 1537
  interfaces := #[]
  cf := some (fileOf pool5 2 #[] #[] 1537 4 #[] #[])
  fields := #[]
  methods := #[]
  instanceTypes := #[]
  staticTypes := #[]
  resolved := Array.replicate 8 none
  statics := none }

def pool6 : Array CpInfo := pool [(1, u "java/io/Serializable"), (0, .class_ 1), (0, u "java/lang/Object"), (0, .class_ 3)] 3

/-- java/io/Serializable -/
def k6 : Class := { plain "java/io/Serializable" (some 0) with
  accessFlags := 1537
  interfaces := #[]
  cf := some (fileOf pool6 2 #[] #[] 1537 4 #[] #[])
  fields := #[]
  methods := #[]
  instanceTypes := #[]
  staticTypes := #[]
  resolved := Array.replicate 8 none
  statics := none }

/-- the primitive byte -/
def k7 : Class := { plain "byte" none with kind := .primitive 'B', accessFlags := 0x411 }
/-- [B -/
def k8 : Class := { plain "[B" (some 0) with kind := .array 7 .byte, interfaces := #[5, 6], accessFlags := 1041 }

/-- the primitive double -/
def k9 : Class := { plain "double" none with kind := .primitive 'D', accessFlags := 0x411 }
/-- [D -/
def k10 : Class := { plain "[D" (some 0) with kind := .array 9 .double, interfaces := #[5, 6], accessFlags := 1041 }

/-- the primitive int -/
def k11 : Class := { plain "int" none with kind := .primitive 'I', accessFlags := 0x411 }
/-- [I -/
def k12 : Class := { plain "[I" (some 0) with kind := .array 11 .int, interfaces := #[5, 6], accessFlags := 1041 }

def heap : Heap := #[]
def classes : Array Class := #[k0, k1, k2, k3, k4, k5, k6, k7, k8, k9, k10, k11, k12]
def interned : List (Array UInt16 × Addr) := []
def slotsUsed : Nat := 0
def theMethod : MethodId := ⟨1, 1⟩
def args0 : Array Value := #[.int 5, .int 6, .int 7, .int 8, .int 9]
def aboutOver (below : List Frame) : State where
  vm := { classes := classes, interned := interned.toArray }
  heap := heap
  slotsUsed := slotsUsed
  threads := #[{ frames := .invoking theMethod args0 :: below }]
def below0 : List Frame := [.native { method := ⟨0, 0⟩, args := #[] }]
def about1 : State := aboutOver below0
def p0 : Program := .bare "" "" ""
def e0 : Env := launch0.env 0 0 0
theorem w_frames : about1.frames = Frame.invoking theMethod args0 :: below0 := rfl
set_option maxRecDepth 65536 in
theorem w_args : argsFit about1.vm theMethod args0 = true := by decide +kernel
set_option maxRecDepth 65536 in
theorem w_heap : heapFits about1 = true := by decide +kernel
set_option maxRecDepth 65536 in
theorem w_runnable : about1.curStatus? = some .runnable := by decide +kernel
set_option maxRecDepth 65536 in
theorem w_alone : about1.alone = true := by decide +kernel
set_option maxRecDepth 65536 in
theorem w_named : about1.methodNamed? x = some theMethod := by decide +kernel
set_option maxRecDepth 65536 in
theorem w_hears : about1.hears theMethod below0 = true := by decide +kernel
set_option maxRecDepth 65536 in
theorem w_ripe : about1.ripe theMethod args0 below0 = true := by decide +kernel
theorem w_running : about1.status = .running := rfl
set_option maxRecDepth 65536 in
theorem w_room : about1.hasRoom e0.platform room_1 = true :=
  launch0.hasRoom_least _ room_1 (by decide +kernel) (by decide +kernel) (by decide +kernel) (by decide +kernel) (by decide +kernel) (by decide +kernel)
theorem allAtoms_all (ts : List Jvm.Cond) (a : Array Jvm.Value) (st : Jvm.State) : (allAtoms ts).before a st = ts.all (fun c => c.before a st) := by
  induction ts with
  | nil => rfl
  | cons c t ih =>
    show (Jvm.Cond.and c (allAtoms t)).before a st = _
    rw [Jvm.Cond.before_and, ih, List.all_cons]
def words1 : List Jvm.Cond := Jvm.Cond.code x code maxLocals ret :: tables_1
/-- a 'code' word, met by the world's own term for the bytes: nothing is compared byte by byte -/
theorem code_word {y : MethodName} {bytes : ByteArray} {mx : Nat} {rt : Option FieldType} {a : Array Value} {s : State} {m : MethodId} {meth : Method} {c : Code} (h1 : s.methodNamed? y = some m) (h2 : s.vm.method? m = some meth) (h3 : meth.code = some c) (h4 : c.code = bytes)
    (h5 : (c.maxLocals == mx && c.exceptionTable.isEmpty && decide (c.maxStack ≤ mostOperands) && decide (meth.sig.returnType = rt) && !meth.locks && decide (parseMethodDescriptor y.desc = some meth.sig)) = true) : (Jvm.Cond.code y bytes mx rt).before a s = true := by
  simp only [Bool.and_eq_true, beq_iff_eq, Bool.not_eq_true', decide_eq_true_eq] at h5
  obtain ⟨⟨⟨⟨⟨g1, g2⟩, g3⟩, g4⟩, g5⟩, g6⟩ := h5
  simp [Cond.before, Cond.holds, Cond.value, h1, h2, h3, h4, g1, g2, g3, g4, g5, g6]
def isCode : Jvm.Cond → Bool
  | .code _ _ _ _ => true
  | _ => false
theorem all_split {L : List Jvm.Cond} {P : Jvm.Cond → Bool} (h1 : L.all (fun c => isCode c || P c) = true) (h2 : ∀ c ∈ L.filter isCode, P c = true) : L.all P = true := by
  refine List.all_eq_true.mpr fun c hc => ?_
  have h := List.all_eq_true.mp h1 c hc
  rcases Bool.eq_false_or_eq_true (isCode c) with hi | hi
  · exact h2 c (List.mem_filter.mpr ⟨hc, hi⟩)
  · simpa [hi] using h
set_option maxRecDepth 65536 in
theorem w_c0 : (Jvm.Cond.code x code maxLocals ret).before args0 about1 = true := code_word (m := ⟨1, 1⟩) (meth := k1m1) (c := k1c1) (by decide +kernel) rfl rfl rfl (by decide +kernel)
set_option maxRecDepth 65536 in
theorem w_c1 : (Jvm.Cond.code ({ cls := "com/example/frugal_scheduler/frugalscheduler/planners/MinTree", name := "<init>", desc := "(ID)V" } : Jvm.MethodName) prog_58_method_1_code (5 : Nat) (Option.none : Option Jvm.ClassFile.FieldType)).before args0 about1 = true := code_word (m := ⟨2, 0⟩) (meth := k2m0) (c := k2c0) (by decide +kernel) rfl rfl rfl (by decide +kernel)
set_option maxRecDepth 65536 in
theorem w_c2 : (Jvm.Cond.code ({ cls := "java/lang/Object", name := "<init>", desc := "()V" } : Jvm.MethodName) object_method_1_code (1 : Nat) (Option.none : Option Jvm.ClassFile.FieldType)).before args0 about1 = true := code_word (m := ⟨0, 0⟩) (meth := k0m0) (c := k0c0) (by decide +kernel) rfl rfl rfl (by decide +kernel)
set_option maxRecDepth 65536 in
theorem w_c3 : (Jvm.Cond.code ({ cls := "java/util/Arrays", name := "fill", desc := "([DD)V" } : Jvm.MethodName) jdk_65_method_113_code (5 : Nat) (Option.none : Option Jvm.ClassFile.FieldType)).before args0 about1 = true := code_word (m := ⟨3, 1⟩) (meth := k3m1) (c := k3c1) (by decide +kernel) rfl rfl rfl (by decide +kernel)
set_option maxRecDepth 65536 in
theorem w_c4 : (Jvm.Cond.code ({ cls := "com/example/frugal_scheduler/frugalscheduler/planners/MinTree", name := "set", desc := "(ID)V" } : Jvm.MethodName) prog_58_method_2_code (5 : Nat) (Option.none : Option Jvm.ClassFile.FieldType)).before args0 about1 = true := code_word (m := ⟨2, 1⟩) (meth := k2m1) (c := k2c1) (by decide +kernel) rfl rfl rfl (by decide +kernel)
set_option maxRecDepth 65536 in
theorem w_c5 : (Jvm.Cond.code ({ cls := "com/example/frugal_scheduler/frugalscheduler/planners/MinTree", name := "firstAtMost", desc := "(IID)I" } : Jvm.MethodName) prog_58_method_6_code (7 : Nat) (Option.some Jvm.ClassFile.FieldType.int)).before args0 about1 = true := code_word (m := ⟨2, 2⟩) (meth := k2m2) (c := k2c2) (by decide +kernel) rfl rfl rfl (by decide +kernel)
set_option maxRecDepth 65536 in
theorem w_c6 : (Jvm.Cond.code ({ cls := "com/example/frugal_scheduler/frugalscheduler/planners/MinTreeFirstAtMostPinLaw", name := "hit", desc := "(IIIID)Z" } : Jvm.MethodName) method_3_code (6 : Nat) (Option.some Jvm.ClassFile.FieldType.boolean)).before args0 about1 = true := code_word (m := ⟨1, 2⟩) (meth := k1m2) (c := k1c2) (by decide +kernel) rfl rfl rfl (by decide +kernel)
set_option maxRecDepth 65536 in
theorem w_c7 : (Jvm.Cond.code ({ cls := "java/lang/Math", name := "min", desc := "(DD)D" } : Jvm.MethodName) jdk_29_method_72_code (4 : Nat) (Option.some Jvm.ClassFile.FieldType.double)).before args0 about1 = true := code_word (m := ⟨4, 1⟩) (meth := k4m1) (c := k4c1) (by decide +kernel) rfl rfl rfl (by decide +kernel)
def codes1 : List Jvm.Cond := [Jvm.Cond.code x code maxLocals ret, Jvm.Cond.code ({ cls := "com/example/frugal_scheduler/frugalscheduler/planners/MinTree", name := "<init>", desc := "(ID)V" } : Jvm.MethodName) prog_58_method_1_code (5 : Nat) (Option.none : Option Jvm.ClassFile.FieldType), Jvm.Cond.code ({ cls := "java/lang/Object", name := "<init>", desc := "()V" } : Jvm.MethodName) object_method_1_code (1 : Nat) (Option.none : Option Jvm.ClassFile.FieldType), Jvm.Cond.code ({ cls := "java/util/Arrays", name := "fill", desc := "([DD)V" } : Jvm.MethodName) jdk_65_method_113_code (5 : Nat) (Option.none : Option Jvm.ClassFile.FieldType), Jvm.Cond.code ({ cls := "com/example/frugal_scheduler/frugalscheduler/planners/MinTree", name := "set", desc := "(ID)V" } : Jvm.MethodName) prog_58_method_2_code (5 : Nat) (Option.none : Option Jvm.ClassFile.FieldType), Jvm.Cond.code ({ cls := "com/example/frugal_scheduler/frugalscheduler/planners/MinTree", name := "firstAtMost", desc := "(IID)I" } : Jvm.MethodName) prog_58_method_6_code (7 : Nat) (Option.some Jvm.ClassFile.FieldType.int), Jvm.Cond.code ({ cls := "com/example/frugal_scheduler/frugalscheduler/planners/MinTreeFirstAtMostPinLaw", name := "hit", desc := "(IIIID)Z" } : Jvm.MethodName) method_3_code (6 : Nat) (Option.some Jvm.ClassFile.FieldType.boolean), Jvm.Cond.code ({ cls := "java/lang/Math", name := "min", desc := "(DD)D" } : Jvm.MethodName) jdk_29_method_72_code (4 : Nat) (Option.some Jvm.ClassFile.FieldType.double)]
set_option maxRecDepth 65536 in
theorem codes_eq : words1.filter isCode = codes1 := rfl
theorem w_codes : ∀ c ∈ words1.filter isCode, c.before args0 about1 = true := by
  rw [codes_eq]
  intro c hc
  simp only [codes1, List.mem_cons, List.not_mem_nil, or_false] at hc
  rcases hc with rfl | rfl | rfl | rfl | rfl | rfl | rfl | rfl
  · exact w_c0
  · exact w_c1
  · exact w_c2
  · exact w_c3
  · exact w_c4
  · exact w_c5
  · exact w_c6
  · exact w_c7
set_option maxRecDepth 65536 in
theorem w_t1 : (words1.take 24).all (fun c => isCode c || c.before args0 about1) = true := by decide +kernel
set_option maxRecDepth 65536 in
theorem w_t2 : (words1.drop 24).all (fun c => isCode c || c.before args0 about1) = true := by decide +kernel
theorem w_tables : (allAtoms (Jvm.Cond.code x code maxLocals ret :: tables_1)).before args0 about1 = true := by
  rw [allAtoms_all]
  show words1.all (fun c => c.before args0 about1) = true
  refine all_split ?_ w_codes
  rw [← List.take_append_drop 24 words1, List.all_append, w_t1, w_t2]
  rfl
set_option maxRecDepth 65536 in
theorem w_case : (Jvm.Cond.and given_1 narrow_1).before args0 about1 = true := by decide +kernel
theorem w_applies : (headSpec (Jvm.Cond.code x code maxLocals ret :: tables_1) room_1).applies x e0.platform about1 = true :=
  (Spec.applies_iff w_frames).mpr ⟨w_running, w_runnable, w_alone, w_named, w_hears, w_ripe, w_room, w_tables⟩
theorem atStart : AtStart classFile x code maxLocals ret World_1 tables_1 room_1 Calls_1 rest_1 Pre_1 launch0 p0 e0 about1 theMethod args0 below0 :=
  ⟨lists_1, trivial, launch0.admits_env _ _ _, launch0.least_env, fairChoices_fair.cas, fairChoices_fair.clock, w_frames, w_args, w_heap, w_applies, trivial, trivial, w_case⟩
end start1
theorem witness_1 : WitnessClaimed_1 := ⟨start1.p0, start1.e0, start1.about1, start1.theMethod, start1.args0, start1.below0, start1.atStart⟩
end Jvm.Pilot.@@N@@
