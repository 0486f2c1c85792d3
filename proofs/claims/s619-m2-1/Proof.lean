import JvmDerived
import JvmDerived.Pilot.@@N@@Statement
import JvmDerived.Pilot.@@N@@Code
set_option linter.unusedVariables false
set_option linter.unusedSimpArgs false
@@BLOCK:NumsL.lean.txt@@
namespace Jvm.Pilot.@@N@@
open Jvm Jvm.ClassFile Sem Op Lib Jvm.Free Jvm.Stand Jvm.LawKit Jvm.RoadKit Bundle Jvm.Pilot.@@N@@.Jvm.D
/-! from S the run comes to an end that A accepts -/
def own_R (tb : Tables) (e : Env) (below : List Frame) (A : State → Outcome → Prop) (S : State) : Prop := ∃ t o, Steps tb e below S t ∧ A t o
theorem own_by {tb : Tables} {e : Env} {below : List Frame} {A : State → Outcome → Prop} {S S' : State} (st : ∀ t, Steps tb e below S' t → Steps tb e below S t) (k : own_R tb e below A S') : own_R tb e below A S := by
  obtain ⟨t, o, k1, k2⟩ := k
  exact ⟨t, o, st t k1, k2⟩
theorem own_join {α : Type} {tb : Tables} {e : Env} {below : List Frame} {A : State → Outcome → Prop} {S : State} (F : α → State) (P : α → Prop) (h1 : (∀ x, P x → own_R tb e below A (F x)) → own_R tb e below A S) (h2 : ∀ x, P x → own_R tb e below A (F x)) : own_R tb e below A S := h1 h2
theorem own_end {tb : Tables} {e : Env} {below : List Frame} {A : State → Outcome → Prop} {S : State} (k : ∃ t o, Steps tb e below S t ∧ A t o) : own_R tb e below A S := k
theorem own_retI {p : Program} {l : Launch} {e : Env} {R : Room} {s : State} {m : MethodId} {args : Array Value} {below : List Frame} {meth : Method} {c : Code} {T : State} {locs : List Loc} {cells slots : Nat} (X : Stand p l e R s m args below meth c T locs cells slots) (hx : p.tables.exec = Jvm.exec) {pc : Nat} {Ls : Array Slot} {z : Int32} {rest : List Value} (hret : meth.sig.returnType = some .int) (hd : decode c.code pc = .ok (.ireturn, 1)) {fs : List Frame}
    (hl : ∀ (f : JFrame) (acts : List Action), f.method = m → f.locked = none → f.entered = [] → (doReturn e (T.setTop f) acts (some (.int z))).1 = T.setFrames fs) : Steps p.tables e below (T.setTop (mkF m pc Ls (.int z :: rest))) (T.setFrames fs) :=
  retOut X hx hret rfl (Or.inl ⟨rfl, Or.inl rfl, z, rfl⟩) hd hl
theorem own_retJ {p : Program} {l : Launch} {e : Env} {R : Room} {s : State} {m : MethodId} {args : Array Value} {below : List Frame} {meth : Method} {c : Code} {T : State} {locs : List Loc} {cells slots : Nat} (X : Stand p l e R s m args below meth c T locs cells slots) (hx : p.tables.exec = Jvm.exec) {pc : Nat} {Ls : Array Slot} {z : Int64} {rest : List Value} (hret : meth.sig.returnType = some .long) (hd : decode c.code pc = .ok (.lreturn, 1)) {fs : List Frame}
    (hl : ∀ (f : JFrame) (acts : List Action), f.method = m → f.locked = none → f.entered = [] → (doReturn e (T.setTop f) acts (some (.long z))).1 = T.setFrames fs) : Steps p.tables e below (T.setTop (mkF m pc Ls (.long z :: rest))) (T.setFrames fs) :=
  retOut X hx hret rfl (Or.inr (Or.inl ⟨rfl, rfl, z, rfl⟩)) hd hl
theorem own_dupX2 {tb : Tables} [Ours tb] {e : Env} {below : List Frame} {T target : State} {m : MethodId} {c : Code} {g : JFrame} (h : At T m c below) (hx : tb.exec = Jvm.exec) (hg : g.method = m) {x y z : Value} {rest : List Value} (hd : decode c.code g.pc = .ok (.dup_x2, 1)) (hs : g.stack = x :: y :: z :: rest) (hc : x.category = 1) (hc' : y.category = 1) (hc'' : z.category = 1)
    (hr : Steps tb e below (T.setTop { g with pc := g.pc + 1, stack := x :: y :: z :: x :: rest }) target) : Steps tb e below (T.setTop g) target := by
  subst hg
  jvm_step h [h.top, hx, hd, hs, hc, hc', hc'']
  exact hr
/-! an array of n places, place j holds mk (g j) -/
def own_K {α : Type} (mk : α → Value) (Z : State) (h : Heap) (a : Addr) (ty : FieldType) (n : Nat) (g : Nat → α) : Prop := ∃ c : Cell, Arr Z h a c ty ∧ c.slots.size = n ∧ n < 2 ^ 31 ∧ ∀ j, j < n → c.slots[j]? = some (mk (g j))
section OwnK
variable {α : Type} {mk : α → Value} {Z : State} {h h' : Heap} {a b : Addr} {ty : FieldType} {n : Nat} {f g : Nat → α} {ws : List Addr} {sl : Nat} {v : Value}
theorem own_K.lt (F : own_K mk Z h a ty n f) : a < h.size := by obtain ⟨c, A, -⟩ := F; exact A.lt
theorem own_K.ext (F : own_K mk Z h a ty n f) (E : Ext h h') : own_K mk Z h' a ty n f := by obtain ⟨c, A, r⟩ := F; exact ⟨c, A.ext E, r⟩
theorem own_K.other (F : own_K mk Z h b ty n f) (W : Wr h h' a sl v) (q : b ≠ a) : own_K mk Z h' b ty n f := by obtain ⟨c, A, r⟩ := F; exact ⟨c, A.other W q, r⟩
theorem own_K.keep (F : own_K mk Z h a ty n f) (K : Keep h h' ws) (q : a ∉ ws) : own_K mk Z h' a ty n f := by obtain ⟨c, A, r⟩ := F; exact ⟨c, ⟨K.2.1 a c A.1 q, A.2⟩, r⟩
theorem own_K.new {k : ClassId} {z : Int32} {d : α} (A : Arr Z h a (newA k ty z) ty) (q : ¬ z < 0) (hz : z.toNatClampNeg = n) (hd : mk d = defaultValue ty) : own_K mk Z h a ty n (fun _ => d) := by
  subst hz
  exact ⟨_, A, sz_new _ _ _, (back32 q).2, fun j hj => by simp [newA, hj, hd]⟩
theorem own_K.eq (F : own_K mk Z h a ty n f) (e : ∀ j, j < n → f j = g j) : own_K mk Z h a ty n g := by
  obtain ⟨c, A, s1, s2, H⟩ := F
  exact ⟨c, A, s1, s2, fun j hj => (H j hj).trans (congrArg (fun z => some (mk z)) (e j hj))⟩
theorem own_K.rd {i : Int32} {p : Nat} (F : own_K mk Z h a ty n f) (hp : i.toNatClampNeg = p) (h0 : ¬ i < 0) (h1 : p < n) : ∃ c : Cell, Arr Z h a c ty ∧ ¬ (i < 0 ∨ c.slots.size ≤ i.toNatClampNeg) ∧ c.slots[i.toNatClampNeg]? = some (mk (f p)) := by
  obtain ⟨c, A, s1, s2, H⟩ := F
  subst hp
  exact ⟨c, A, by rw [s1]; exact fun q => q.elim h0 (fun z => absurd h1 (Nat.not_lt.mpr z)), H _ h1⟩
theorem own_K.ln (F : own_K mk Z h a ty n f) : ∃ c : Cell, Arr Z h a c ty ∧ c.slots.size.toInt32 = Int32.ofNat n := by
  obtain ⟨c, A, s1, -, -⟩ := F
  exact ⟨c, A, by rw [s1]⟩
/-! the function with one place turned -/
def own_uk {α : Type} (g : Nat → α) (i : Nat) (x : α) : Nat → α := fun j => if j = i then x else g j
theorem own_K.set {i : Int32} {p : Nat} {x : α} (F : own_K mk Z h a ty n f) (hp : i.toNatClampNeg = p) (W : Wr h h' a i.toNatClampNeg (mk x)) : own_K mk Z h' a ty n (own_uk f p x) := by
  obtain ⟨c, A, s1, s2, H⟩ := F
  subst hp
  refine ⟨_, A.same W, by rw [sz_set]; exact s1, s2, fun j hj => ?_⟩
  unfold own_uk
  by_cases u : j = i.toNatClampNeg
  · subst u
    simp [Cell.setSlot, s1, hj]
  · rw [if_neg u]
    simp only [Cell.setSlot]
    rw [Array.getElem?_setIfInBounds_ne (Ne.symm u)]
    exact H j hj
end OwnK
theorem own_toInt {n : Nat} (h : n < 2 ^ 31) : (Int32.ofNat n).toInt = n := Int32.toInt_ofNat_of_lt h
theorem own_ltI {a b : Nat} (ha : a < 2 ^ 31) (hb : b < 2 ^ 31) : Int32.ofNat a < Int32.ofNat b ↔ a < b := by
  rw [Int32.lt_iff_toInt_lt, own_toInt ha, own_toInt hb]; omega
theorem own_inj {a b : Nat} (ha : a < 2 ^ 31) (hb : b < 2 ^ 31) : Int32.ofNat a = Int32.ofNat b ↔ a = b := by
  rw [← Int32.toInt_inj, own_toInt ha, own_toInt hb]; omega
theorem own_add1 (a : Nat) : Int32.ofNat a + 1 = Int32.ofNat (a + 1) := by
  rw [Int32.ofNat_add]; rfl
theorem own_addI (a b : Nat) : Int32.ofNat a + Int32.ofNat b = Int32.ofNat (a + b) := by
  rw [Int32.ofNat_add]
theorem own_sub1 (a : Nat) : Int32.ofNat (a + 1) - 1 = Int32.ofNat a := by
  rw [← own_add1]; exact Int32.add_sub_cancel _ _
theorem own_clamp {a : Nat} (h : a < 2 ^ 31) : (Int32.ofNat a).toNatClampNeg = a := by
  rw [Int32.toNatClampNeg, own_toInt h]; rfl
theorem own_nn {a : Nat} (h : a < 2 ^ 31) : ¬ Int32.ofNat a < 0 := by
  rw [Int32.lt_iff_toInt_lt, own_toInt h]; show ¬ (a : Int) < 0; omega
def own_cnt (P : Nat → Bool) : Nat → Nat
  | 0 => 0
  | k + 1 => own_cnt P k + (if P k then 1 else 0)
theorem own_cnt_le (P : Nat → Bool) (k : Nat) : own_cnt P k ≤ k := by
  induction k with
  | zero => exact Nat.le_refl _
  | succ k ih => unfold own_cnt; split <;> omega
theorem own_cnt_mono (P : Nat → Bool) (k d : Nat) : own_cnt P k ≤ own_cnt P (k + d) := by
  induction d with
  | zero => exact Nat.le_refl _
  | succ d ih => rw [← Nat.add_assoc]; exact Nat.le_trans ih (Nat.le_add_right _ _)
theorem own_cnt_split (F : Nat → Nat) (x M : Nat) : own_cnt (fun j => decide (F j < x)) M + own_cnt (fun j => F j == x) M = own_cnt (fun j => decide (F j ≤ x)) M := by
  induction M with
  | zero => rfl
  | succ M ih =>
    simp only [own_cnt, ← ih, decide_eq_true_eq, beq_iff_eq]
    split <;> split <;> split <;> omega
theorem own_cnt_pred (F : Nat → Nat) (x M : Nat) : own_cnt (fun j => decide (F j < x + 1)) M = own_cnt (fun j => decide (F j ≤ x)) M := by
  congr 1; funext j; simp [Nat.lt_succ_iff]
def own_g1 (F : Nat → Nat) (i : Nat) : Nat → Int32 := fun x => Int32.ofNat (own_cnt (fun j => F j == x) i)
theorem own_t1 (F : Nat → Nat) (i : Nat) : own_uk (own_g1 F i) (F i) (own_g1 F i (F i) + 1) = own_g1 F (i + 1) := by
  funext x
  unfold own_uk own_g1
  by_cases h : x = F i
  · subst h; rw [if_pos rfl, own_add1]; simp [own_cnt]
  · rw [if_neg h]; simp [own_cnt, Ne.symm h]
def own_g2 (F : Nat → Nat) (M t : Nat) : Nat → Int32 := fun x => if x < t then Int32.ofNat (own_cnt (fun j => decide (F j ≤ x)) M) else Int32.ofNat (own_cnt (fun j => F j == x) M)
theorem own_g21 (F : Nat → Nat) (M : Nat) : own_g1 F M = own_g2 F M 1 := by
  funext x
  unfold own_g1 own_g2
  split
  · rename_i h
    have : x = 0 := by omega
    subst this
    congr 2; funext j; cases F j <;> simp
  · rfl
theorem own_t2 (F : Nat → Nat) (M t : Nat) : own_uk (own_g2 F M (t + 1)) (t + 1) (own_g2 F M (t + 1) (t + 1) + own_g2 F M (t + 1) t) = own_g2 F M (t + 2) := by
  funext x
  unfold own_uk own_g2
  by_cases h : x = t + 1
  · subst h
    rw [if_pos rfl, if_neg (by omega), if_pos (by omega), if_pos (by omega), own_addI, ← own_cnt_split F (t + 1), own_cnt_pred, Nat.add_comm]
  · rw [if_neg h]
    by_cases h2 : x < t + 1
    · rw [if_pos h2, if_pos (by omega)]
    · rw [if_neg h2, if_neg (by omega)]
def own_g3 (F : Nat → Nat) (M k : Nat) : Nat → Int32 := fun x => Int32.ofNat (own_cnt (fun j => decide (F j < x)) M + own_cnt (fun j => F j == x) k)
theorem own_g32 (F : Nat → Nat) (M N x : Nat) (h : x < N) : own_g2 F M N x = own_g3 F M M x := by
  unfold own_g2 own_g3
  rw [if_pos h, own_cnt_split]
def own_pl (F : Nat → Nat) (M k : Nat) : Nat := own_cnt (fun j => decide (F j < F k)) M + own_cnt (fun j => F j == F k) k
theorem own_pl1 (F : Nat → Nat) (M k : Nat) : own_g3 F M (k + 1) (F k) - 1 = Int32.ofNat (own_pl F M k) := by
  unfold own_g3 own_pl
  simp only [own_cnt, beq_self_eq_true, if_true]
  rw [← Nat.add_assoc, own_sub1]
theorem own_plM (F : Nat → Nat) (M k : Nat) (h : k < M) : own_pl F M k < M := by
  have e1 := own_cnt_mono (fun j => F j == F k) (k + 1) (M - (k + 1))
  have e2 := own_cnt_split F (F k) M
  have e3 := own_cnt_le (fun j => decide (F j ≤ F k)) M
  have e4 : own_cnt (fun j => F j == F k) (k + 1) = own_cnt (fun j => F j == F k) k + 1 := by simp [own_cnt]
  rw [show k + 1 + (M - (k + 1)) = M by omega] at e1
  unfold own_pl
  omega
theorem own_t3 (F : Nat → Nat) (M k : Nat) : own_uk (own_g3 F M (k + 1)) (F k) (Int32.ofNat (own_pl F M k)) = own_g3 F M k := by
  funext x
  unfold own_uk own_g3 own_pl
  by_cases h : x = F k
  · subst h; rw [if_pos rfl]
  · rw [if_neg h]; simp [own_cnt, Ne.symm h]
theorem own_ofInt (x : Int32) (h : 0 ≤ x.toInt) : ∃ n : Nat, x = Int32.ofNat n ∧ (n : Int) = x.toInt := by
  refine ⟨x.toInt.toNat, ?_, Int.toNat_of_nonneg h⟩
  rw [← Int32.toInt_inj, own_toInt (by have := x.toInt_lt; omega)]
  omega
def own_c (k a f l : Int32) : Int32 := if k < a then (if l < f then 0 else 1) else 0
def own_ea (i : Int32) (N M : Nat) (g : Nat → Int32) : Int32 := if i + 1 < Int32.ofNat N then g (i.toNatClampNeg + 1) else Int32.ofNat M
theorem own_ea1 {I N M : Nat} {g : Nat → Int32} (hI : I < N) (hN : N ≤ 4) (h : Int32.ofNat (I + 1) < Int32.ofNat N) : own_ea (Int32.ofNat I) N M g = g (I + 1) := by
  unfold own_ea; rw [own_add1, if_pos h, own_clamp (by omega)]
theorem own_ea2 {I N M : Nat} {g : Nat → Int32} (hI : I < N) (hN : N ≤ 4) (h : ¬ Int32.ofNat (I + 1) < Int32.ofNat N) : own_ea (Int32.ofNat I) N M g = Int32.ofNat M := by
  unfold own_ea; rw [own_add1, if_neg h]
theorem own_nodes (p : Int32) : ∃ N : Nat, (1 : Int32) + (p &&& (3 : Int32)) = Int32.ofNat N ∧ 1 ≤ N ∧ N ≤ 4 := by
  have h := c_and p 3 (by decide)
  have e3 : (3 : Int32).toInt = 3 := rfl
  obtain ⟨n, e, q⟩ := own_ofInt (p &&& 3) h.1
  refine ⟨n + 1, ?_, by omega, by omega⟩
  rw [e, Int32.add_comm]; exact own_add1 n
theorem own_nz {N : Nat} (h1 : 1 ≤ N) (h4 : N ≤ 4) : Int32.ofNat N ≠ 0 := by
  intro h
  have := (own_inj (a := N) (b := 0) (by omega) (by omega)).mp h
  omega
theorem own_arcs (p : Int32) : ∃ M : Nat, (p &&& (2147483647 : Int32)) % (5 : Int32) = Int32.ofNat M ∧ M ≤ 4 := by
  have h := c_and p 2147483647 (by decide)
  have e5 : (5 : Int32).toInt = 5 := rfl
  have r := (c_iremV (p &&& 2147483647) 5).1 h.1 (by decide)
  obtain ⟨n, e, q⟩ := own_ofInt _ r.1
  exact ⟨n, e, by omega⟩
theorem own_from (x : Int32) (N : Nat) (h1 : 1 ≤ N) (h4 : N ≤ 4) : ∃ F : Nat, (1 : Int32) + ((x &&& (255 : Int32)) % Int32.ofNat N) = Int32.ofNat (F + 1) ∧ F < N := by
  have h := c_and x 255 (by decide)
  have eN : (Int32.ofNat N).toInt = N := own_toInt (by omega)
  have r := (c_iremV (x &&& 255) (Int32.ofNat N)).1 h.1 (by omega)
  obtain ⟨n, e, q⟩ := own_ofInt _ r.1
  refine ⟨n, ?_, by omega⟩
  rw [e, Int32.add_comm]; exact own_add1 n
theorem own_index (x : Int32) (N : Nat) (h1 : 1 ≤ N) (h4 : N ≤ 4) : ∃ I : Nat, (x &&& (2147483647 : Int32)) % Int32.ofNat N = Int32.ofNat I ∧ I < N := by
  have h := c_and x 2147483647 (by decide)
  have eN : (Int32.ofNat N).toInt = N := own_toInt (by omega)
  have r := (c_iremV (x &&& 2147483647) (Int32.ofNat N)).1 h.1 (by omega)
  obtain ⟨n, e, q⟩ := own_ofInt _ r.1
  exact ⟨n, e, by omega⟩
def own_F (F0 F1 F2 F3 : Nat) : Nat → Nat := fun j => if j = 0 then F0 else if j = 1 then F1 else if j = 2 then F2 else F3
theorem own_gf (F0 F1 F2 F3 j : Nat) (hj : j < 4) : (own_uk (own_uk (own_uk (own_uk (fun _ => (0 : Int32)) 0 (Int32.ofNat (F0 + 1))) 1 (Int32.ofNat (F1 + 1))) 2 (Int32.ofNat (F2 + 1))) 3 (Int32.ofNat (F3 + 1))) j = Int32.ofNat (own_F F0 F1 F2 F3 j + 1) := by
  have : j = 0 ∨ j = 1 ∨ j = 2 ∨ j = 3 := by omega
  rcases this with rfl | rfl | rfl | rfl <;> rfl
theorem own_Flt {F0 F1 F2 F3 N : Nat} (h0 : F0 < N) (h1 : F1 < N) (h2 : F2 < N) (h3 : F3 < N) (j : Nat) (hj : j < 4) : own_F F0 F1 F2 F3 j < N := by
  unfold own_F; split <;> (try split) <;> (try split) <;> assumption
theorem own_c1 (k M f I : Nat) (hk : k < 4) (hM : M ≤ 4) (hf : f < 4) (hI : I < 4) : own_c (Int32.ofNat k) (Int32.ofNat M) (Int32.ofNat (f + 1)) (Int32.ofNat (I + 1)) = Int32.ofNat (if k < M then (if f < I + 1 then 1 else 0) else 0) := by
  unfold own_c
  simp only [own_ltI (show k < 2 ^ 31 by omega) (show M < 2 ^ 31 by omega), own_ltI (show I + 1 < 2 ^ 31 by omega) (show f + 1 < 2 ^ 31 by omega)]
  split
  · split
    · rw [if_neg (by omega)]; rfl
    · rw [if_pos (by omega)]; rfl
  · rfl
theorem own_sum (F0 F1 F2 F3 M I : Nat) (hM : M ≤ 4) (h0 : F0 < 4) (h1 : F1 < 4) (h2 : F2 < 4) (h3 : F3 < 4) (hI : I < 4) :
    (((own_c (0 : Int32) (Int32.ofNat M) (Int32.ofNat (F0 + 1)) (Int32.ofNat (I + 1))) + (own_c (1 : Int32) (Int32.ofNat M) (Int32.ofNat (F1 + 1)) (Int32.ofNat (I + 1)))) + (own_c (2 : Int32) (Int32.ofNat M) (Int32.ofNat (F2 + 1)) (Int32.ofNat (I + 1)))) + (own_c (3 : Int32) (Int32.ofNat M) (Int32.ofNat (F3 + 1)) (Int32.ofNat (I + 1))) = Int32.ofNat (own_cnt (fun j => decide (own_F F0 F1 F2 F3 j < I + 1)) M) := by
  have e0 := own_c1 0 M F0 I (by decide) hM h0 hI
  have e1 := own_c1 1 M F1 I (by decide) hM h1 hI
  have e2 := own_c1 2 M F2 I (by decide) hM h2 hI
  have e3 := own_c1 3 M F3 I (by decide) hM h3 hI
  change own_c 0 _ _ _ = _ at e0
  change own_c 1 _ _ _ = _ at e1
  change own_c 2 _ _ _ = _ at e2
  change own_c 3 _ _ _ = _ at e3
  rw [e0, e1, e2, e3, own_addI, own_addI, own_addI]
  have : M = 0 ∨ M = 1 ∨ M = 2 ∨ M = 3 ∨ M = 4 := by omega
  rcases this with rfl | rfl | rfl | rfl | rfl <;> simp [own_cnt, own_F] <;> rfl
theorem own_cnt_all (P : Nat → Bool) (M : Nat) (h : ∀ j, j < M → P j = true) : own_cnt P M = M := by
  induction M with
  | zero => rfl
  | succ M ih => unfold own_cnt; rw [ih (fun j hj => h j (by omega)), h M (by omega)]; rfl
theorem own_fin (F : Nat → Nat) (N M I : Nat) (hI : I < N) (hN : N ≤ 4) (hM : M ≤ 4) (hF : ∀ j, j < M → F j < N) : own_ea (Int32.ofNat I) N M (own_g3 F M 0) = Int32.ofNat (own_cnt (fun j => decide (F j < I + 1)) M) := by
  by_cases h : I + 1 < N
  · rw [own_ea1 hI hN ((own_ltI (by omega) (by omega)).mpr h)]; rfl
  · rw [own_ea2 hI hN (fun q => h ((own_ltI (by omega) (by omega)).mp q)), own_cnt_all _ _ (fun j hj => by have := hF j hj; simp; omega)]
theorem own_os7 {z0 z1 z2 z3 z4 z5 z6 : Value} {s7 : Slot} {v : Int32} (h : One s7) : storeLocals #[.val z0, .val z1, .val z2, .val z3, .val z4, .val z5, .val z6, s7] 7 (.int v) = some #[.val z0, .val z1, .val z2, .val z3, .val z4, .val z5, .val z6, .val (.int v)] := by
  rcases h with rfl | ⟨w, rfl, hw⟩
  · rfl
  · cases w <;> first | rfl | (simp [Value.category] at hw)
theorem d1_0 : decode prog_59_method_1_code 0 = .ok (.aload_n 0, 1) := by decide +kernel
theorem d1_1 : decode prog_59_method_1_code 1 = .ok (.invokespecial 1, 3) := by decide +kernel
theorem d1_4 : decode prog_59_method_1_code 4 = .ok (.aload_n 0, 1) := by decide +kernel
theorem d1_5 : decode prog_59_method_1_code 5 = .ok (.iload_n 1, 1) := by decide +kernel
theorem d1_6 : decode prog_59_method_1_code 6 = .ok (.newarray .int, 2) := by decide +kernel
theorem d1_8 : decode prog_59_method_1_code 8 = .ok (.putfield 7, 3) := by decide +kernel
theorem d1_11 : decode prog_59_method_1_code 11 = .ok (.iconst 0, 1) := by decide +kernel
theorem d1_12 : decode prog_59_method_1_code 12 = .ok (.istore 6, 2) := by decide +kernel
theorem d1_14 : decode prog_59_method_1_code 14 = .ok (.iload 6, 2) := by decide +kernel
theorem d1_16 : decode prog_59_method_1_code 16 = .ok (.iload_n 2, 1) := by decide +kernel
theorem d1_17 : decode prog_59_method_1_code 17 = .ok (.if_icmp .ge 24, 3) := by decide +kernel
theorem d1_20 : decode prog_59_method_1_code 20 = .ok (.aload_n 0, 1) := by decide +kernel
theorem d1_21 : decode prog_59_method_1_code 21 = .ok (.getfield 7, 3) := by decide +kernel
theorem d1_24 : decode prog_59_method_1_code 24 = .ok (.aload_n 3, 1) := by decide +kernel
theorem d1_25 : decode prog_59_method_1_code 25 = .ok (.iload 6, 2) := by decide +kernel
theorem d1_27 : decode prog_59_method_1_code 27 = .ok (.iaload, 1) := by decide +kernel
theorem d1_28 : decode prog_59_method_1_code 28 = .ok (.iconst 1, 1) := by decide +kernel
theorem d1_29 : decode prog_59_method_1_code 29 = .ok (.isub, 1) := by decide +kernel
theorem d1_30 : decode prog_59_method_1_code 30 = .ok (.dup2, 1) := by decide +kernel
theorem d1_31 : decode prog_59_method_1_code 31 = .ok (.iaload, 1) := by decide +kernel
theorem d1_32 : decode prog_59_method_1_code 32 = .ok (.iconst 1, 1) := by decide +kernel
theorem d1_33 : decode prog_59_method_1_code 33 = .ok (.iadd, 1) := by decide +kernel
theorem d1_34 : decode prog_59_method_1_code 34 = .ok (.iastore, 1) := by decide +kernel
theorem d1_35 : decode prog_59_method_1_code 35 = .ok (.iinc 6 1, 3) := by decide +kernel
theorem d1_38 : decode prog_59_method_1_code 38 = .ok (.goto (-24), 3) := by decide +kernel
theorem d1_41 : decode prog_59_method_1_code 41 = .ok (.iconst 1, 1) := by decide +kernel
theorem d1_42 : decode prog_59_method_1_code 42 = .ok (.istore 6, 2) := by decide +kernel
theorem d1_44 : decode prog_59_method_1_code 44 = .ok (.iload 6, 2) := by decide +kernel
theorem d1_46 : decode prog_59_method_1_code 46 = .ok (.iload_n 1, 1) := by decide +kernel
theorem d1_47 : decode prog_59_method_1_code 47 = .ok (.if_icmp .ge 28, 3) := by decide +kernel
theorem d1_50 : decode prog_59_method_1_code 50 = .ok (.aload_n 0, 1) := by decide +kernel
theorem d1_51 : decode prog_59_method_1_code 51 = .ok (.getfield 7, 3) := by decide +kernel
theorem d1_54 : decode prog_59_method_1_code 54 = .ok (.iload 6, 2) := by decide +kernel
theorem d1_56 : decode prog_59_method_1_code 56 = .ok (.dup2, 1) := by decide +kernel
theorem d1_57 : decode prog_59_method_1_code 57 = .ok (.iaload, 1) := by decide +kernel
theorem d1_58 : decode prog_59_method_1_code 58 = .ok (.aload_n 0, 1) := by decide +kernel
theorem d1_59 : decode prog_59_method_1_code 59 = .ok (.getfield 7, 3) := by decide +kernel
theorem d1_62 : decode prog_59_method_1_code 62 = .ok (.iload 6, 2) := by decide +kernel
theorem d1_64 : decode prog_59_method_1_code 64 = .ok (.iconst 1, 1) := by decide +kernel
theorem d1_65 : decode prog_59_method_1_code 65 = .ok (.isub, 1) := by decide +kernel
theorem d1_66 : decode prog_59_method_1_code 66 = .ok (.iaload, 1) := by decide +kernel
theorem d1_67 : decode prog_59_method_1_code 67 = .ok (.iadd, 1) := by decide +kernel
theorem d1_68 : decode prog_59_method_1_code 68 = .ok (.iastore, 1) := by decide +kernel
theorem d1_69 : decode prog_59_method_1_code 69 = .ok (.iinc 6 1, 3) := by decide +kernel
theorem d1_72 : decode prog_59_method_1_code 72 = .ok (.goto (-28), 3) := by decide +kernel
theorem d1_75 : decode prog_59_method_1_code 75 = .ok (.aload_n 0, 1) := by decide +kernel
theorem d1_76 : decode prog_59_method_1_code 76 = .ok (.iload_n 2, 1) := by decide +kernel
theorem d1_77 : decode prog_59_method_1_code 77 = .ok (.newarray .int, 2) := by decide +kernel
theorem d1_79 : decode prog_59_method_1_code 79 = .ok (.putfield 13, 3) := by decide +kernel
theorem d1_82 : decode prog_59_method_1_code 82 = .ok (.aload_n 0, 1) := by decide +kernel
theorem d1_83 : decode prog_59_method_1_code 83 = .ok (.iload_n 2, 1) := by decide +kernel
theorem d1_84 : decode prog_59_method_1_code 84 = .ok (.newarray .int, 2) := by decide +kernel
theorem d1_86 : decode prog_59_method_1_code 86 = .ok (.putfield 16, 3) := by decide +kernel
theorem d1_89 : decode prog_59_method_1_code 89 = .ok (.iload_n 2, 1) := by decide +kernel
theorem d1_90 : decode prog_59_method_1_code 90 = .ok (.iconst 1, 1) := by decide +kernel
theorem d1_91 : decode prog_59_method_1_code 91 = .ok (.isub, 1) := by decide +kernel
theorem d1_92 : decode prog_59_method_1_code 92 = .ok (.istore 6, 2) := by decide +kernel
theorem d1_94 : decode prog_59_method_1_code 94 = .ok (.iload 6, 2) := by decide +kernel
theorem d1_96 : decode prog_59_method_1_code 96 = .ok (.ifCond .lt 53, 3) := by decide +kernel
theorem d1_99 : decode prog_59_method_1_code 99 = .ok (.aload_n 0, 1) := by decide +kernel
theorem d1_100 : decode prog_59_method_1_code 100 = .ok (.getfield 7, 3) := by decide +kernel
theorem d1_103 : decode prog_59_method_1_code 103 = .ok (.aload_n 3, 1) := by decide +kernel
theorem d1_104 : decode prog_59_method_1_code 104 = .ok (.iload 6, 2) := by decide +kernel
theorem d1_106 : decode prog_59_method_1_code 106 = .ok (.iaload, 1) := by decide +kernel
theorem d1_107 : decode prog_59_method_1_code 107 = .ok (.iconst 1, 1) := by decide +kernel
theorem d1_108 : decode prog_59_method_1_code 108 = .ok (.isub, 1) := by decide +kernel
theorem d1_109 : decode prog_59_method_1_code 109 = .ok (.dup2, 1) := by decide +kernel
theorem d1_110 : decode prog_59_method_1_code 110 = .ok (.iaload, 1) := by decide +kernel
theorem d1_111 : decode prog_59_method_1_code 111 = .ok (.iconst 1, 1) := by decide +kernel
theorem d1_112 : decode prog_59_method_1_code 112 = .ok (.isub, 1) := by decide +kernel
theorem d1_113 : decode prog_59_method_1_code 113 = .ok (.dup_x2, 1) := by decide +kernel
theorem d1_114 : decode prog_59_method_1_code 114 = .ok (.iastore, 1) := by decide +kernel
theorem d1_115 : decode prog_59_method_1_code 115 = .ok (.istore 7, 2) := by decide +kernel
theorem d1_117 : decode prog_59_method_1_code 117 = .ok (.aload_n 0, 1) := by decide +kernel
theorem d1_118 : decode prog_59_method_1_code 118 = .ok (.getfield 13, 3) := by decide +kernel
theorem d1_121 : decode prog_59_method_1_code 121 = .ok (.iload 7, 2) := by decide +kernel
theorem d1_123 : decode prog_59_method_1_code 123 = .ok (.aload 4, 2) := by decide +kernel
theorem d1_125 : decode prog_59_method_1_code 125 = .ok (.iload 6, 2) := by decide +kernel
theorem d1_127 : decode prog_59_method_1_code 127 = .ok (.iaload, 1) := by decide +kernel
theorem d1_128 : decode prog_59_method_1_code 128 = .ok (.iconst 1, 1) := by decide +kernel
theorem d1_129 : decode prog_59_method_1_code 129 = .ok (.isub, 1) := by decide +kernel
theorem d1_130 : decode prog_59_method_1_code 130 = .ok (.iastore, 1) := by decide +kernel
theorem d1_131 : decode prog_59_method_1_code 131 = .ok (.aload_n 0, 1) := by decide +kernel
theorem d1_132 : decode prog_59_method_1_code 132 = .ok (.getfield 16, 3) := by decide +kernel
theorem d1_135 : decode prog_59_method_1_code 135 = .ok (.iload 7, 2) := by decide +kernel
theorem d1_137 : decode prog_59_method_1_code 137 = .ok (.aload 5, 2) := by decide +kernel
theorem d1_139 : decode prog_59_method_1_code 139 = .ok (.iload 6, 2) := by decide +kernel
theorem d1_141 : decode prog_59_method_1_code 141 = .ok (.iaload, 1) := by decide +kernel
theorem d1_142 : decode prog_59_method_1_code 142 = .ok (.iastore, 1) := by decide +kernel
theorem d1_143 : decode prog_59_method_1_code 143 = .ok (.iinc 6 (-1), 3) := by decide +kernel
theorem d1_146 : decode prog_59_method_1_code 146 = .ok (.goto (-52), 3) := by decide +kernel
theorem d1_149 : decode prog_59_method_1_code 149 = .ok (.return_, 1) := by decide +kernel
theorem d3_0 : decode method_3_code 0 = .ok (.iload_n 0, 1) := by decide +kernel
theorem d3_1 : decode method_3_code 1 = .ok (.iload_n 1, 1) := by decide +kernel
theorem d3_2 : decode method_3_code 2 = .ok (.if_icmp .ge 12, 3) := by decide +kernel
theorem d3_5 : decode method_3_code 5 = .ok (.iload_n 2, 1) := by decide +kernel
theorem d3_6 : decode method_3_code 6 = .ok (.iload_n 3, 1) := by decide +kernel
theorem d3_7 : decode method_3_code 7 = .ok (.if_icmp .gt 7, 3) := by decide +kernel
theorem d3_10 : decode method_3_code 10 = .ok (.iconst 1, 1) := by decide +kernel
theorem d3_11 : decode method_3_code 11 = .ok (.goto 4, 3) := by decide +kernel
theorem d3_14 : decode method_3_code 14 = .ok (.iconst 0, 1) := by decide +kernel
theorem d3_15 : decode method_3_code 15 = .ok (.ireturn, 1) := by decide +kernel
theorem d4_0 : decode prog_59_method_5_code 0 = .ok (.iload_n 1, 1) := by decide +kernel
theorem d4_1 : decode prog_59_method_5_code 1 = .ok (.iconst 1, 1) := by decide +kernel
theorem d4_2 : decode prog_59_method_5_code 2 = .ok (.iadd, 1) := by decide +kernel
theorem d4_3 : decode prog_59_method_5_code 3 = .ok (.aload_n 0, 1) := by decide +kernel
theorem d4_4 : decode prog_59_method_5_code 4 = .ok (.getfield 7, 3) := by decide +kernel
theorem d4_7 : decode prog_59_method_5_code 7 = .ok (.arraylength, 1) := by decide +kernel
theorem d4_8 : decode prog_59_method_5_code 8 = .ok (.if_icmp .ge 14, 3) := by decide +kernel
theorem d4_11 : decode prog_59_method_5_code 11 = .ok (.aload_n 0, 1) := by decide +kernel
theorem d4_12 : decode prog_59_method_5_code 12 = .ok (.getfield 7, 3) := by decide +kernel
theorem d4_15 : decode prog_59_method_5_code 15 = .ok (.iload_n 1, 1) := by decide +kernel
theorem d4_16 : decode prog_59_method_5_code 16 = .ok (.iconst 1, 1) := by decide +kernel
theorem d4_17 : decode prog_59_method_5_code 17 = .ok (.iadd, 1) := by decide +kernel
theorem d4_18 : decode prog_59_method_5_code 18 = .ok (.iaload, 1) := by decide +kernel
theorem d4_19 : decode prog_59_method_5_code 19 = .ok (.goto 8, 3) := by decide +kernel
theorem d4_22 : decode prog_59_method_5_code 22 = .ok (.aload_n 0, 1) := by decide +kernel
theorem d4_23 : decode prog_59_method_5_code 23 = .ok (.getfield 13, 3) := by decide +kernel
theorem d4_26 : decode prog_59_method_5_code 26 = .ok (.arraylength, 1) := by decide +kernel
theorem d4_27 : decode prog_59_method_5_code 27 = .ok (.ireturn, 1) := by decide +kernel
theorem own_pd0 : parseMethodDescriptor "(II[I[I[I)V" = some ⟨[.int, .int, (.array .int), (.array .int), (.array .int)], none⟩ := by decide +kernel
theorem own_pd1 : parseMethodDescriptor "(IIII)I" = some ⟨[.int, .int, .int, .int], some .int⟩ := by decide +kernel
theorem own_pd2 : parseMethodDescriptor "(I)I" = some ⟨[.int], some .int⟩ := by decide +kernel
theorem pn_0 : plainName "com/example/bucket/bucket/graph/GraphEndArcPinLaw" = true := by first | (simp [plainName, overriddenIn]; done) | decide +kernel
theorem pn_1 : plainName "com/example/bucket/bucket/graph/Graph" = true := by first | (simp [plainName, overriddenIn]; done) | decide +kernel
theorem pn_3 : plainName "com/example/bucket/bucket/graph/GraphEndArcPinLaw" = true := by first | (simp [plainName, overriddenIn]; done) | decide +kernel
theorem pn_4 : plainName "com/example/bucket/bucket/graph/Graph" = true := by first | (simp [plainName, overriddenIn]; done) | decide +kernel
set_option maxRecDepth 65536 in
set_option maxHeartbeats 40000000 in
theorem lp1 {p : Program} {l : Launch} {e : Env} {R : Room} {s : State} {m : MethodId} {args : Array Value} {below : List Frame} {meth : Method} {cd : Code} {A : State → Outcome → Prop} {Z : State} {a0 : Array Value} {h0 : Heap} {n0 : Nat} (hx : p.tables.exec = Jvm.exec) (hZ : Z.Warmed39 s.vm) (hw : ∀ d ∈ tables_1, d.before a0 Z = true) (hby : cd.code = prog_59_method_1_code) (hml : cd.maxLocals = 8) (hown : s.vm.findClass "com/example/bucket/bucket/graph/Graph" = some m.cls) (a1 a4 a5 a6 b : Addr) (M N : Nat) (Fn : Nat → Nat) (gf gt gw : Nat → Int32) (hM : M ≤ 4) (hN : N ≤ 4) (hF : ∀ j, j < M → Fn j < N) (hgf : ∀ j, j < M → gf j = Int32.ofNat (Fn j + 1)) (ge1 : n0 ≤ a1) (geb : n0 ≤ b) (szb : h0.size ≤ b) (n1b : a1 ≠ b) (n4b : a4 ≠ b) (n5b : a5 ≠ b) (n6b : a6 ≠ b) :
    ∀ (k : Nat) (i : Nat) (hi : i + k = M) {T : State} {locs : List Loc} {cells slots : Nat} {h : Heap} (X0 : Stand p l e R s m args below meth cd T locs cells slots) (e0 : T.heap = h) (N0 : Fr n0 locs) (Z0 : n0 ≤ h.size) (K0 : Keep h0 h [a1]) (Ex : Exa Z h a1 "com/example/bucket/bucket/graph/Graph") (Ffa : Fld Z h a1 "com/example/bucket/bucket/graph/Graph" "m_firstArc" "[I" (.ref b)) (Fh : Fld Z h a1 "com/example/bucket/bucket/graph/Graph" "m_head" "[I" .null) (Fw : Fld Z h a1 "com/example/bucket/bucket/graph/Graph" "m_weight" "[I" .null) (Vf : own_K .int Z h a4 .int 4 gf) (Vt : own_K .int Z h a5 .int 4 gt) (Vw : own_K .int Z h a6 .int 4 gw) (Vb : own_K .int Z h b .int N (own_g1 Fn i))
      (cont : ∀ {T' : State} {locs' : List Loc} {h' : Heap}  (_ : Stand p l e R s m args below meth cd T' locs' cells slots) (_ : T'.heap = h') (_ : Fr n0 locs') (_ : n0 ≤ h'.size) (_ : Keep h0 h' [a1]) (_ : Exa Z h' a1 "com/example/bucket/bucket/graph/Graph") (_ : Fld Z h' a1 "com/example/bucket/bucket/graph/Graph" "m_firstArc" "[I" (.ref b)) (_ : Fld Z h' a1 "com/example/bucket/bucket/graph/Graph" "m_head" "[I" .null) (_ : Fld Z h' a1 "com/example/bucket/bucket/graph/Graph" "m_weight" "[I" .null) (_ : own_K .int Z h' a4 .int 4 gf) (_ : own_K .int Z h' a5 .int 4 gt) (_ : own_K .int Z h' a6 .int 4 gw) (_ : own_K .int Z h' b .int N (own_g1 Fn M)), own_R p.tables e below A (T'.setTop (mkF m 41 #[.val (.ref a1), .val (.int (Int32.ofNat N)), .val (.int (Int32.ofNat M)), .val (.ref a4), .val (.ref a5), .val (.ref a6), .val (.int (Int32.ofNat M)), .unset] []))), own_R p.tables e below A (T.setTop (mkF m 14 #[.val (.ref a1), .val (.int (Int32.ofNat N)), .val (.int (Int32.ofNat M)), .val (.ref a4), .val (.ref a5), .val (.ref a6), .val (.int (Int32.ofNat i)), .unset] [])) := by
  intro k
  induction k with
  | zero =>
    intro i hi T locs cells slots h X0 e0 N0 Z0 K0 Ex Ffa Fh Fw Vf Vt Vw Vb cont
    obtain rfl : i = M := by omega
    show own_R p.tables e below _ (T.setTop (mkF m 14 #[.val (.ref a1), .val (.int (Int32.ofNat N)), .val (.int (Int32.ofNat i)), .val (.ref a4), .val (.ref a5), .val (.ref a6), .val (.int (Int32.ofNat i)), .unset] []))
    refine own_by (fun _ kZ => XS.iload X0.here hx rfl (hb hby d1_14) rfl kZ) ?_
    show own_R p.tables e below _ (T.setTop (mkF m 16 #[.val (.ref a1), .val (.int (Int32.ofNat N)), .val (.int (Int32.ofNat i)), .val (.ref a4), .val (.ref a5), .val (.ref a6), .val (.int (Int32.ofNat i)), .unset] [(.int (Int32.ofNat i))]))
    refine own_by (fun _ kZ => XS.iloadN X0.here hx rfl (hb hby d1_16) rfl kZ) ?_
    show own_R p.tables e below _ (T.setTop (mkF m 17 #[.val (.ref a1), .val (.int (Int32.ofNat N)), .val (.int (Int32.ofNat i)), .val (.ref a4), .val (.ref a5), .val (.ref a6), .val (.int (Int32.ofNat i)), .unset] [(.int (Int32.ofNat i)), (.int (Int32.ofNat i))]))
    refine own_by (fun _ kZ => XS.icmpYes X0.here hx rfl (pc0 := 17) (pc' := 41) rfl (hb hby d1_17) rfl (flt (by rw [own_ltI (by omega) (by omega)]; omega : ¬ Int32.ofNat i < Int32.ofNat i)).2.1 (by decide) (by decide) kZ) ?_
    show own_R p.tables e below _ (T.setTop (mkF m 41 #[.val (.ref a1), .val (.int (Int32.ofNat N)), .val (.int (Int32.ofNat i)), .val (.ref a4), .val (.ref a5), .val (.ref a6), .val (.int (Int32.ofNat i)), .unset] []))
    exact cont X0 e0 N0 Z0 K0 Ex Ffa Fh Fw Vf Vt Vw Vb
  | succ k ih =>
    intro i hi T locs cells slots h X0 e0 N0 Z0 K0 Ex Ffa Fh Fw Vf Vt Vw Vb cont
    show own_R p.tables e below _ (T.setTop (mkF m 14 #[.val (.ref a1), .val (.int (Int32.ofNat N)), .val (.int (Int32.ofNat M)), .val (.ref a4), .val (.ref a5), .val (.ref a6), .val (.int (Int32.ofNat i)), .unset] []))
    have hiM : i < M := by omega
    have hfi := hF i hiM
    refine own_by (fun _ kZ => XS.iload X0.here hx rfl (hb hby d1_14) rfl kZ) ?_
    show own_R p.tables e below _ (T.setTop (mkF m 16 #[.val (.ref a1), .val (.int (Int32.ofNat N)), .val (.int (Int32.ofNat M)), .val (.ref a4), .val (.ref a5), .val (.ref a6), .val (.int (Int32.ofNat i)), .unset] [(.int (Int32.ofNat i))]))
    refine own_by (fun _ kZ => XS.iloadN X0.here hx rfl (hb hby d1_16) rfl kZ) ?_
    show own_R p.tables e below _ (T.setTop (mkF m 17 #[.val (.ref a1), .val (.int (Int32.ofNat N)), .val (.int (Int32.ofNat M)), .val (.ref a4), .val (.ref a5), .val (.ref a6), .val (.int (Int32.ofNat i)), .unset] [(.int (Int32.ofNat M)), (.int (Int32.ofNat i))]))
    refine own_by (fun _ kZ => XS.icmpNo X0.here hx rfl (hb hby d1_17) rfl (tlt ((own_ltI (by omega) (by omega)).mpr hiM : Int32.ofNat i < Int32.ofNat M)).2.1 kZ) ?_
    show own_R p.tables e below _ (T.setTop (mkF m 20 #[.val (.ref a1), .val (.int (Int32.ofNat N)), .val (.int (Int32.ofNat M)), .val (.ref a4), .val (.ref a5), .val (.ref a6), .val (.int (Int32.ofNat i)), .unset] []))
    refine own_by (fun _ kZ => XS.aloadN X0.here hx rfl (hb hby d1_20) rfl rfl kZ) ?_
    show own_R p.tables e below _ (T.setTop (mkF m 21 #[.val (.ref a1), .val (.int (Int32.ofNat N)), .val (.int (Int32.ofNat M)), .val (.ref a4), .val (.ref a5), .val (.ref a6), .val (.int (Int32.ofNat i)), .unset] [(.ref a1)]))
    obtain ⟨T1, X1, e1, st1⟩ := getF X0 hx hZ hown (host := "") (Or.inl (hw _ (List.mem_of_getElem? (i := 11) rfl))) Via.refl e0 Ffa (g := (mkF m 21 #[.val (.ref a1), .val (.int (Int32.ofNat N)), .val (.int (Int32.ofNat M)), .val (.ref a4), .val (.ref a5), .val (.ref a6), .val (.int (Int32.ofNat i)), .unset] [(.ref a1)])) rfl rfl (hb hby d1_21)
    refine own_by st1 ?_
    show own_R p.tables e below _ (T1.setTop (mkF m 24 #[.val (.ref a1), .val (.int (Int32.ofNat N)), .val (.int (Int32.ofNat M)), .val (.ref a4), .val (.ref a5), .val (.ref a6), .val (.int (Int32.ofNat i)), .unset] [(.ref b)]))
    refine own_by (fun _ kZ => XS.aloadN X1.here hx rfl (hb hby d1_24) rfl rfl kZ) ?_
    show own_R p.tables e below _ (T1.setTop (mkF m 25 #[.val (.ref a1), .val (.int (Int32.ofNat N)), .val (.int (Int32.ofNat M)), .val (.ref a4), .val (.ref a5), .val (.ref a6), .val (.int (Int32.ofNat i)), .unset] [(.ref a4), (.ref b)]))
    refine own_by (fun _ kZ => XS.iload X1.here hx rfl (hb hby d1_25) rfl kZ) ?_
    show own_R p.tables e below _ (T1.setTop (mkF m 27 #[.val (.ref a1), .val (.int (Int32.ofNat N)), .val (.int (Int32.ofNat M)), .val (.ref a4), .val (.ref a5), .val (.ref a6), .val (.int (Int32.ofNat i)), .unset] [(.int (Int32.ofNat i)), (.ref a4), (.ref b)]))
    obtain ⟨cl2, Ar2, hin2, hat2⟩ := Vf.rd (i := (Int32.ofNat i)) (p := i) (own_clamp (by omega)) (own_nn (by omega)) (by omega)
    refine own_by (fun _ kZ => X1.iaload hx (j := (Int32.ofNat i)) (v := (.int (gf i))) (by rw [e1]; exact Ar2.1) (State.isArrayOf_alike hZ.alike Ar2.2.1) Ar2.2.2 hin2 hat2 (g := (mkF m 27 #[.val (.ref a1), .val (.int (Int32.ofNat N)), .val (.int (Int32.ofNat M)), .val (.ref a4), .val (.ref a5), .val (.ref a6), .val (.int (Int32.ofNat i)), .unset] [(.int (Int32.ofNat i)), (.ref a4), (.ref b)])) rfl rfl (hb hby d1_27) _ kZ) ?_
    show own_R p.tables e below _ (T1.setTop (mkF m 28 #[.val (.ref a1), .val (.int (Int32.ofNat N)), .val (.int (Int32.ofNat M)), .val (.ref a4), .val (.ref a5), .val (.ref a6), .val (.int (Int32.ofNat i)), .unset] [(.int (gf i)), (.ref b)]))
    rw [show (gf i) = (Int32.ofNat (Fn i + 1)) from hgf i hiM]
    show own_R p.tables e below _ (T1.setTop (mkF m 28 #[.val (.ref a1), .val (.int (Int32.ofNat N)), .val (.int (Int32.ofNat M)), .val (.ref a4), .val (.ref a5), .val (.ref a6), .val (.int (Int32.ofNat i)), .unset] [(.int (Int32.ofNat (Fn i + 1))), (.ref b)]))
    refine own_by (fun _ kZ => XS.iconst X1.here hx rfl (hb hby d1_28) kZ) ?_
    show own_R p.tables e below _ (T1.setTop (mkF m 29 #[.val (.ref a1), .val (.int (Int32.ofNat N)), .val (.int (Int32.ofNat M)), .val (.ref a4), .val (.ref a5), .val (.ref a6), .val (.int (Int32.ofNat i)), .unset] [(.int (1 : Int32)), (.int (Int32.ofNat (Fn i + 1))), (.ref b)]))
    refine own_by (fun _ kZ => XS.isub X1.here hx rfl (hb hby d1_29) rfl kZ) ?_
    show own_R p.tables e below _ (T1.setTop (mkF m 30 #[.val (.ref a1), .val (.int (Int32.ofNat N)), .val (.int (Int32.ofNat M)), .val (.ref a4), .val (.ref a5), .val (.ref a6), .val (.int (Int32.ofNat i)), .unset] [(.int ((Int32.ofNat (Fn i + 1)) - (1 : Int32))), (.ref b)]))
    rw [show ((Int32.ofNat (Fn i + 1)) - (1 : Int32)) = (Int32.ofNat (Fn i)) from own_sub1 _]
    show own_R p.tables e below _ (T1.setTop (mkF m 30 #[.val (.ref a1), .val (.int (Int32.ofNat N)), .val (.int (Int32.ofNat M)), .val (.ref a4), .val (.ref a5), .val (.ref a6), .val (.int (Int32.ofNat i)), .unset] [(.int (Int32.ofNat (Fn i))), (.ref b)]))
    refine own_by (fun _ kZ => Jvm.Free.XT.dup2 X1.here hx rfl (hb hby d1_30) rfl rfl rfl kZ) ?_
    show own_R p.tables e below _ (T1.setTop (mkF m 31 #[.val (.ref a1), .val (.int (Int32.ofNat N)), .val (.int (Int32.ofNat M)), .val (.ref a4), .val (.ref a5), .val (.ref a6), .val (.int (Int32.ofNat i)), .unset] [(.int (Int32.ofNat (Fn i))), (.ref b), (.int (Int32.ofNat (Fn i))), (.ref b)]))
    obtain ⟨cl3, Ar3, hin3, hat3⟩ := Vb.rd (i := (Int32.ofNat (Fn i))) (p := (Fn i)) (own_clamp (by omega)) (own_nn (by omega)) hfi
    refine own_by (fun _ kZ => X1.iaload hx (j := (Int32.ofNat (Fn i))) (v := (.int ((own_g1 Fn i) (Fn i)))) (by rw [e1]; exact Ar3.1) (State.isArrayOf_alike hZ.alike Ar3.2.1) Ar3.2.2 hin3 hat3 (g := (mkF m 31 #[.val (.ref a1), .val (.int (Int32.ofNat N)), .val (.int (Int32.ofNat M)), .val (.ref a4), .val (.ref a5), .val (.ref a6), .val (.int (Int32.ofNat i)), .unset] [(.int (Int32.ofNat (Fn i))), (.ref b), (.int (Int32.ofNat (Fn i))), (.ref b)])) rfl rfl (hb hby d1_31) _ kZ) ?_
    show own_R p.tables e below _ (T1.setTop (mkF m 32 #[.val (.ref a1), .val (.int (Int32.ofNat N)), .val (.int (Int32.ofNat M)), .val (.ref a4), .val (.ref a5), .val (.ref a6), .val (.int (Int32.ofNat i)), .unset] [(.int ((own_g1 Fn i) (Fn i))), (.int (Int32.ofNat (Fn i))), (.ref b)]))
    refine own_by (fun _ kZ => XS.iconst X1.here hx rfl (hb hby d1_32) kZ) ?_
    show own_R p.tables e below _ (T1.setTop (mkF m 33 #[.val (.ref a1), .val (.int (Int32.ofNat N)), .val (.int (Int32.ofNat M)), .val (.ref a4), .val (.ref a5), .val (.ref a6), .val (.int (Int32.ofNat i)), .unset] [(.int (1 : Int32)), (.int ((own_g1 Fn i) (Fn i))), (.int (Int32.ofNat (Fn i))), (.ref b)]))
    refine own_by (fun _ kZ => XS.iadd X1.here hx rfl (hb hby d1_33) rfl kZ) ?_
    show own_R p.tables e below _ (T1.setTop (mkF m 34 #[.val (.ref a1), .val (.int (Int32.ofNat N)), .val (.int (Int32.ofNat M)), .val (.ref a4), .val (.ref a5), .val (.ref a6), .val (.int (Int32.ofNat i)), .unset] [(.int (((own_g1 Fn i) (Fn i)) + (1 : Int32))), (.int (Int32.ofNat (Fn i))), (.ref b)]))
    obtain ⟨cl4, Ar4, hin4, -⟩ := Vb.rd (i := (Int32.ofNat (Fn i))) (p := (Fn i)) (own_clamp (by omega)) (own_nn (by omega)) hfi
    obtain ⟨T5, h5, X5, e5, W5, st5⟩ := stI X1 hx hZ e1 Ar4 (j := (Int32.ofNat (Fn i))) hin4 (g := (mkF m 34 #[.val (.ref a1), .val (.int (Int32.ofNat N)), .val (.int (Int32.ofNat M)), .val (.ref a4), .val (.ref a5), .val (.ref a6), .val (.int (Int32.ofNat i)), .unset] [(.int (((own_g1 Fn i) (Fn i)) + (1 : Int32))), (.int (Int32.ofNat (Fn i))), (.ref b)])) rfl rfl (hb hby d1_34)
    have f6_a1 : Exa Z h5 a1 "com/example/bucket/bucket/graph/Graph" := Ex.wr W5
    have f7_a1 : Fld Z h5 a1 "com/example/bucket/bucket/graph/Graph" "m_firstArc" "[I" (.ref b) := Ffa.other W5 (Or.inl n1b)
    have f8_a1 : Fld Z h5 a1 "com/example/bucket/bucket/graph/Graph" "m_head" "[I" .null := Fh.other W5 (Or.inl n1b)
    have f9_a1 : Fld Z h5 a1 "com/example/bucket/bucket/graph/Graph" "m_weight" "[I" .null := Fw.other W5 (Or.inl n1b)
    have f10_a4 : own_K .int Z h5 a4 .int 4 gf := Vf.other W5 n4b
    have f11_a5 : own_K .int Z h5 a5 .int 4 gt := Vt.other W5 n5b
    have f12_a6 : own_K .int Z h5 a6 .int 4 gw := Vw.other W5 n6b
    have Z13 : n0 ≤ h5.size := Nat.le_trans Z0 (Keep.of_wr W5).1
    have K13 : Keep h0 h5 [a1] := K0.wr W5 (Or.inr szb)
    have N13 := Fr.snoc X5 N0 geb
    have V5 : own_K .int Z h5 b .int N (own_uk (own_g1 Fn i) (Fn i) (((own_g1 Fn i) (Fn i)) + (1 : Int32))) := Vb.set (i := (Int32.ofNat (Fn i))) (p := (Fn i)) (own_clamp (by omega)) W5
    refine own_by st5 ?_
    show own_R p.tables e below _ (T5.setTop (mkF m 35 #[.val (.ref a1), .val (.int (Int32.ofNat N)), .val (.int (Int32.ofNat M)), .val (.ref a4), .val (.ref a5), .val (.ref a6), .val (.int (Int32.ofNat i)), .unset] []))
    have V14 : own_K .int Z h5 b .int N (own_g1 Fn (i + 1)) := (own_t1 Fn i) ▸ V5
    refine own_by (fun _ kZ => XS.iinc X5.here hx rfl (hb hby d1_35) rfl (l' := #[.val (.ref a1), .val (.int (Int32.ofNat N)), .val (.int (Int32.ofNat M)), .val (.ref a4), .val (.ref a5), .val (.ref a6), .val (.int ((Int32.ofNat i) + (1 : Int32))), .unset]) rfl kZ) ?_
    show own_R p.tables e below _ (T5.setTop (mkF m 38 #[.val (.ref a1), .val (.int (Int32.ofNat N)), .val (.int (Int32.ofNat M)), .val (.ref a4), .val (.ref a5), .val (.ref a6), .val (.int ((Int32.ofNat i) + (1 : Int32))), .unset] []))
    rw [show ((Int32.ofNat i) + (1 : Int32)) = (Int32.ofNat (i + 1)) from own_add1 i]
    show own_R p.tables e below _ (T5.setTop (mkF m 38 #[.val (.ref a1), .val (.int (Int32.ofNat N)), .val (.int (Int32.ofNat M)), .val (.ref a4), .val (.ref a5), .val (.ref a6), .val (.int (Int32.ofNat (i + 1))), .unset] []))
    refine own_by (fun _ kZ => XS.goto X5.here hx rfl (pc0 := 38) (pc' := 14) rfl (hb hby d1_38) (by decide) (by decide) kZ) ?_
    show own_R p.tables e below _ (T5.setTop (mkF m 14 #[.val (.ref a1), .val (.int (Int32.ofNat N)), .val (.int (Int32.ofNat M)), .val (.ref a4), .val (.ref a5), .val (.ref a6), .val (.int (Int32.ofNat (i + 1))), .unset] []))
    exact ih (i + 1) (by omega) X5 e5 N13 Z13 K13 f6_a1 f7_a1 f8_a1 f9_a1 f10_a4 f11_a5 f12_a6 V14 cont
set_option maxRecDepth 65536 in
set_option maxHeartbeats 40000000 in
theorem lp2 {p : Program} {l : Launch} {e : Env} {R : Room} {s : State} {m : MethodId} {args : Array Value} {below : List Frame} {meth : Method} {cd : Code} {A : State → Outcome → Prop} {Z : State} {a0 : Array Value} {h0 : Heap} {n0 : Nat} (hx : p.tables.exec = Jvm.exec) (hZ : Z.Warmed39 s.vm) (hw : ∀ d ∈ tables_1, d.before a0 Z = true) (hby : cd.code = prog_59_method_1_code) (hml : cd.maxLocals = 8) (hown : s.vm.findClass "com/example/bucket/bucket/graph/Graph" = some m.cls) (a1 a4 a5 a6 b : Addr) (M N : Nat) (Fn : Nat → Nat) (gf gt gw : Nat → Int32) (hM : M ≤ 4) (hN : N ≤ 4) (hF : ∀ j, j < M → Fn j < N) (hgf : ∀ j, j < M → gf j = Int32.ofNat (Fn j + 1)) (ge1 : n0 ≤ a1) (geb : n0 ≤ b) (szb : h0.size ≤ b) (n1b : a1 ≠ b) (n4b : a4 ≠ b) (n5b : a5 ≠ b) (n6b : a6 ≠ b) :
    ∀ (k : Nat) (t : Nat) (ht : t + 1 + k = N) {T : State} {locs : List Loc} {cells slots : Nat} {h : Heap} (X0 : Stand p l e R s m args below meth cd T locs cells slots) (e0 : T.heap = h) (N0 : Fr n0 locs) (Z0 : n0 ≤ h.size) (K0 : Keep h0 h [a1]) (Ex : Exa Z h a1 "com/example/bucket/bucket/graph/Graph") (Ffa : Fld Z h a1 "com/example/bucket/bucket/graph/Graph" "m_firstArc" "[I" (.ref b)) (Fh : Fld Z h a1 "com/example/bucket/bucket/graph/Graph" "m_head" "[I" .null) (Fw : Fld Z h a1 "com/example/bucket/bucket/graph/Graph" "m_weight" "[I" .null) (Vf : own_K .int Z h a4 .int 4 gf) (Vt : own_K .int Z h a5 .int 4 gt) (Vw : own_K .int Z h a6 .int 4 gw) (Vb : own_K .int Z h b .int N (own_g2 Fn M (t + 1)))
      (cont : ∀ {T' : State} {locs' : List Loc} {h' : Heap}  (_ : Stand p l e R s m args below meth cd T' locs' cells slots) (_ : T'.heap = h') (_ : Fr n0 locs') (_ : n0 ≤ h'.size) (_ : Keep h0 h' [a1]) (_ : Exa Z h' a1 "com/example/bucket/bucket/graph/Graph") (_ : Fld Z h' a1 "com/example/bucket/bucket/graph/Graph" "m_firstArc" "[I" (.ref b)) (_ : Fld Z h' a1 "com/example/bucket/bucket/graph/Graph" "m_head" "[I" .null) (_ : Fld Z h' a1 "com/example/bucket/bucket/graph/Graph" "m_weight" "[I" .null) (_ : own_K .int Z h' a4 .int 4 gf) (_ : own_K .int Z h' a5 .int 4 gt) (_ : own_K .int Z h' a6 .int 4 gw) (_ : own_K .int Z h' b .int N (own_g2 Fn M N)), own_R p.tables e below A (T'.setTop (mkF m 75 #[.val (.ref a1), .val (.int (Int32.ofNat N)), .val (.int (Int32.ofNat M)), .val (.ref a4), .val (.ref a5), .val (.ref a6), .val (.int (Int32.ofNat N)), .unset] []))), own_R p.tables e below A (T.setTop (mkF m 44 #[.val (.ref a1), .val (.int (Int32.ofNat N)), .val (.int (Int32.ofNat M)), .val (.ref a4), .val (.ref a5), .val (.ref a6), .val (.int (Int32.ofNat (t + 1))), .unset] [])) := by
  intro k
  induction k with
  | zero =>
    intro t ht T locs cells slots h X0 e0 N0 Z0 K0 Ex Ffa Fh Fw Vf Vt Vw Vb cont
    obtain rfl : t + 1 = N := by omega
    show own_R p.tables e below _ (T.setTop (mkF m 44 #[.val (.ref a1), .val (.int (Int32.ofNat (t + 1))), .val (.int (Int32.ofNat M)), .val (.ref a4), .val (.ref a5), .val (.ref a6), .val (.int (Int32.ofNat (t + 1))), .unset] []))
    refine own_by (fun _ kZ => XS.iload X0.here hx rfl (hb hby d1_44) rfl kZ) ?_
    show own_R p.tables e below _ (T.setTop (mkF m 46 #[.val (.ref a1), .val (.int (Int32.ofNat (t + 1))), .val (.int (Int32.ofNat M)), .val (.ref a4), .val (.ref a5), .val (.ref a6), .val (.int (Int32.ofNat (t + 1))), .unset] [(.int (Int32.ofNat (t + 1)))]))
    refine own_by (fun _ kZ => XS.iloadN X0.here hx rfl (hb hby d1_46) rfl kZ) ?_
    show own_R p.tables e below _ (T.setTop (mkF m 47 #[.val (.ref a1), .val (.int (Int32.ofNat (t + 1))), .val (.int (Int32.ofNat M)), .val (.ref a4), .val (.ref a5), .val (.ref a6), .val (.int (Int32.ofNat (t + 1))), .unset] [(.int (Int32.ofNat (t + 1))), (.int (Int32.ofNat (t + 1)))]))
    refine own_by (fun _ kZ => XS.icmpYes X0.here hx rfl (pc0 := 47) (pc' := 75) rfl (hb hby d1_47) rfl (flt (by rw [own_ltI (by omega) (by omega)]; omega : ¬ Int32.ofNat (t + 1) < Int32.ofNat (t + 1))).2.1 (by decide) (by decide) kZ) ?_
    show own_R p.tables e below _ (T.setTop (mkF m 75 #[.val (.ref a1), .val (.int (Int32.ofNat (t + 1))), .val (.int (Int32.ofNat M)), .val (.ref a4), .val (.ref a5), .val (.ref a6), .val (.int (Int32.ofNat (t + 1))), .unset] []))
    exact cont X0 e0 N0 Z0 K0 Ex Ffa Fh Fw Vf Vt Vw Vb
  | succ k ih =>
    intro t ht T locs cells slots h X0 e0 N0 Z0 K0 Ex Ffa Fh Fw Vf Vt Vw Vb cont
    show own_R p.tables e below _ (T.setTop (mkF m 44 #[.val (.ref a1), .val (.int (Int32.ofNat N)), .val (.int (Int32.ofNat M)), .val (.ref a4), .val (.ref a5), .val (.ref a6), .val (.int (Int32.ofNat (t + 1))), .unset] []))
    refine own_by (fun _ kZ => XS.iload X0.here hx rfl (hb hby d1_44) rfl kZ) ?_
    show own_R p.tables e below _ (T.setTop (mkF m 46 #[.val (.ref a1), .val (.int (Int32.ofNat N)), .val (.int (Int32.ofNat M)), .val (.ref a4), .val (.ref a5), .val (.ref a6), .val (.int (Int32.ofNat (t + 1))), .unset] [(.int (Int32.ofNat (t + 1)))]))
    refine own_by (fun _ kZ => XS.iloadN X0.here hx rfl (hb hby d1_46) rfl kZ) ?_
    show own_R p.tables e below _ (T.setTop (mkF m 47 #[.val (.ref a1), .val (.int (Int32.ofNat N)), .val (.int (Int32.ofNat M)), .val (.ref a4), .val (.ref a5), .val (.ref a6), .val (.int (Int32.ofNat (t + 1))), .unset] [(.int (Int32.ofNat N)), (.int (Int32.ofNat (t + 1)))]))
    refine own_by (fun _ kZ => XS.icmpNo X0.here hx rfl (hb hby d1_47) rfl (tlt ((own_ltI (by omega) (by omega)).mpr (by omega) : Int32.ofNat (t + 1) < Int32.ofNat N)).2.1 kZ) ?_
    show own_R p.tables e below _ (T.setTop (mkF m 50 #[.val (.ref a1), .val (.int (Int32.ofNat N)), .val (.int (Int32.ofNat M)), .val (.ref a4), .val (.ref a5), .val (.ref a6), .val (.int (Int32.ofNat (t + 1))), .unset] []))
    refine own_by (fun _ kZ => XS.aloadN X0.here hx rfl (hb hby d1_50) rfl rfl kZ) ?_
    show own_R p.tables e below _ (T.setTop (mkF m 51 #[.val (.ref a1), .val (.int (Int32.ofNat N)), .val (.int (Int32.ofNat M)), .val (.ref a4), .val (.ref a5), .val (.ref a6), .val (.int (Int32.ofNat (t + 1))), .unset] [(.ref a1)]))
    obtain ⟨T15, X15, e15, st15⟩ := getF X0 hx hZ hown (host := "") (Or.inl (hw _ (List.mem_of_getElem? (i := 11) rfl))) Via.refl e0 Ffa (g := (mkF m 51 #[.val (.ref a1), .val (.int (Int32.ofNat N)), .val (.int (Int32.ofNat M)), .val (.ref a4), .val (.ref a5), .val (.ref a6), .val (.int (Int32.ofNat (t + 1))), .unset] [(.ref a1)])) rfl rfl (hb hby d1_51)
    refine own_by st15 ?_
    show own_R p.tables e below _ (T15.setTop (mkF m 54 #[.val (.ref a1), .val (.int (Int32.ofNat N)), .val (.int (Int32.ofNat M)), .val (.ref a4), .val (.ref a5), .val (.ref a6), .val (.int (Int32.ofNat (t + 1))), .unset] [(.ref b)]))
    refine own_by (fun _ kZ => XS.iload X15.here hx rfl (hb hby d1_54) rfl kZ) ?_
    show own_R p.tables e below _ (T15.setTop (mkF m 56 #[.val (.ref a1), .val (.int (Int32.ofNat N)), .val (.int (Int32.ofNat M)), .val (.ref a4), .val (.ref a5), .val (.ref a6), .val (.int (Int32.ofNat (t + 1))), .unset] [(.int (Int32.ofNat (t + 1))), (.ref b)]))
    refine own_by (fun _ kZ => Jvm.Free.XT.dup2 X15.here hx rfl (hb hby d1_56) rfl rfl rfl kZ) ?_
    show own_R p.tables e below _ (T15.setTop (mkF m 57 #[.val (.ref a1), .val (.int (Int32.ofNat N)), .val (.int (Int32.ofNat M)), .val (.ref a4), .val (.ref a5), .val (.ref a6), .val (.int (Int32.ofNat (t + 1))), .unset] [(.int (Int32.ofNat (t + 1))), (.ref b), (.int (Int32.ofNat (t + 1))), (.ref b)]))
    obtain ⟨cl16, Ar16, hin16, hat16⟩ := Vb.rd (i := (Int32.ofNat (t + 1))) (p := (t + 1)) (own_clamp (by omega)) (own_nn (by omega)) (by omega)
    refine own_by (fun _ kZ => X15.iaload hx (j := (Int32.ofNat (t + 1))) (v := (.int ((own_g2 Fn M (t + 1)) (t + 1)))) (by rw [e15]; exact Ar16.1) (State.isArrayOf_alike hZ.alike Ar16.2.1) Ar16.2.2 hin16 hat16 (g := (mkF m 57 #[.val (.ref a1), .val (.int (Int32.ofNat N)), .val (.int (Int32.ofNat M)), .val (.ref a4), .val (.ref a5), .val (.ref a6), .val (.int (Int32.ofNat (t + 1))), .unset] [(.int (Int32.ofNat (t + 1))), (.ref b), (.int (Int32.ofNat (t + 1))), (.ref b)])) rfl rfl (hb hby d1_57) _ kZ) ?_
    show own_R p.tables e below _ (T15.setTop (mkF m 58 #[.val (.ref a1), .val (.int (Int32.ofNat N)), .val (.int (Int32.ofNat M)), .val (.ref a4), .val (.ref a5), .val (.ref a6), .val (.int (Int32.ofNat (t + 1))), .unset] [(.int ((own_g2 Fn M (t + 1)) (t + 1))), (.int (Int32.ofNat (t + 1))), (.ref b)]))
    refine own_by (fun _ kZ => XS.aloadN X15.here hx rfl (hb hby d1_58) rfl rfl kZ) ?_
    show own_R p.tables e below _ (T15.setTop (mkF m 59 #[.val (.ref a1), .val (.int (Int32.ofNat N)), .val (.int (Int32.ofNat M)), .val (.ref a4), .val (.ref a5), .val (.ref a6), .val (.int (Int32.ofNat (t + 1))), .unset] [(.ref a1), (.int ((own_g2 Fn M (t + 1)) (t + 1))), (.int (Int32.ofNat (t + 1))), (.ref b)]))
    obtain ⟨T17, X17, e17, st17⟩ := getF X15 hx hZ hown (host := "") (Or.inl (hw _ (List.mem_of_getElem? (i := 11) rfl))) Via.refl e15 Ffa (g := (mkF m 59 #[.val (.ref a1), .val (.int (Int32.ofNat N)), .val (.int (Int32.ofNat M)), .val (.ref a4), .val (.ref a5), .val (.ref a6), .val (.int (Int32.ofNat (t + 1))), .unset] [(.ref a1), (.int ((own_g2 Fn M (t + 1)) (t + 1))), (.int (Int32.ofNat (t + 1))), (.ref b)])) rfl rfl (hb hby d1_59)
    refine own_by st17 ?_
    show own_R p.tables e below _ (T17.setTop (mkF m 62 #[.val (.ref a1), .val (.int (Int32.ofNat N)), .val (.int (Int32.ofNat M)), .val (.ref a4), .val (.ref a5), .val (.ref a6), .val (.int (Int32.ofNat (t + 1))), .unset] [(.ref b), (.int ((own_g2 Fn M (t + 1)) (t + 1))), (.int (Int32.ofNat (t + 1))), (.ref b)]))
    refine own_by (fun _ kZ => XS.iload X17.here hx rfl (hb hby d1_62) rfl kZ) ?_
    show own_R p.tables e below _ (T17.setTop (mkF m 64 #[.val (.ref a1), .val (.int (Int32.ofNat N)), .val (.int (Int32.ofNat M)), .val (.ref a4), .val (.ref a5), .val (.ref a6), .val (.int (Int32.ofNat (t + 1))), .unset] [(.int (Int32.ofNat (t + 1))), (.ref b), (.int ((own_g2 Fn M (t + 1)) (t + 1))), (.int (Int32.ofNat (t + 1))), (.ref b)]))
    refine own_by (fun _ kZ => XS.iconst X17.here hx rfl (hb hby d1_64) kZ) ?_
    show own_R p.tables e below _ (T17.setTop (mkF m 65 #[.val (.ref a1), .val (.int (Int32.ofNat N)), .val (.int (Int32.ofNat M)), .val (.ref a4), .val (.ref a5), .val (.ref a6), .val (.int (Int32.ofNat (t + 1))), .unset] [(.int (1 : Int32)), (.int (Int32.ofNat (t + 1))), (.ref b), (.int ((own_g2 Fn M (t + 1)) (t + 1))), (.int (Int32.ofNat (t + 1))), (.ref b)]))
    refine own_by (fun _ kZ => XS.isub X17.here hx rfl (hb hby d1_65) rfl kZ) ?_
    show own_R p.tables e below _ (T17.setTop (mkF m 66 #[.val (.ref a1), .val (.int (Int32.ofNat N)), .val (.int (Int32.ofNat M)), .val (.ref a4), .val (.ref a5), .val (.ref a6), .val (.int (Int32.ofNat (t + 1))), .unset] [(.int ((Int32.ofNat (t + 1)) - (1 : Int32))), (.ref b), (.int ((own_g2 Fn M (t + 1)) (t + 1))), (.int (Int32.ofNat (t + 1))), (.ref b)]))
    rw [show ((Int32.ofNat (t + 1)) - (1 : Int32)) = (Int32.ofNat t) from own_sub1 _]
    show own_R p.tables e below _ (T17.setTop (mkF m 66 #[.val (.ref a1), .val (.int (Int32.ofNat N)), .val (.int (Int32.ofNat M)), .val (.ref a4), .val (.ref a5), .val (.ref a6), .val (.int (Int32.ofNat (t + 1))), .unset] [(.int (Int32.ofNat t)), (.ref b), (.int ((own_g2 Fn M (t + 1)) (t + 1))), (.int (Int32.ofNat (t + 1))), (.ref b)]))
    obtain ⟨cl18, Ar18, hin18, hat18⟩ := Vb.rd (i := (Int32.ofNat t)) (p := t) (own_clamp (by omega)) (own_nn (by omega)) (by omega)
    refine own_by (fun _ kZ => X17.iaload hx (j := (Int32.ofNat t)) (v := (.int ((own_g2 Fn M (t + 1)) t))) (by rw [e17]; exact Ar18.1) (State.isArrayOf_alike hZ.alike Ar18.2.1) Ar18.2.2 hin18 hat18 (g := (mkF m 66 #[.val (.ref a1), .val (.int (Int32.ofNat N)), .val (.int (Int32.ofNat M)), .val (.ref a4), .val (.ref a5), .val (.ref a6), .val (.int (Int32.ofNat (t + 1))), .unset] [(.int (Int32.ofNat t)), (.ref b), (.int ((own_g2 Fn M (t + 1)) (t + 1))), (.int (Int32.ofNat (t + 1))), (.ref b)])) rfl rfl (hb hby d1_66) _ kZ) ?_
    show own_R p.tables e below _ (T17.setTop (mkF m 67 #[.val (.ref a1), .val (.int (Int32.ofNat N)), .val (.int (Int32.ofNat M)), .val (.ref a4), .val (.ref a5), .val (.ref a6), .val (.int (Int32.ofNat (t + 1))), .unset] [(.int ((own_g2 Fn M (t + 1)) t)), (.int ((own_g2 Fn M (t + 1)) (t + 1))), (.int (Int32.ofNat (t + 1))), (.ref b)]))
    refine own_by (fun _ kZ => XS.iadd X17.here hx rfl (hb hby d1_67) rfl kZ) ?_
    show own_R p.tables e below _ (T17.setTop (mkF m 68 #[.val (.ref a1), .val (.int (Int32.ofNat N)), .val (.int (Int32.ofNat M)), .val (.ref a4), .val (.ref a5), .val (.ref a6), .val (.int (Int32.ofNat (t + 1))), .unset] [(.int (((own_g2 Fn M (t + 1)) (t + 1)) + ((own_g2 Fn M (t + 1)) t))), (.int (Int32.ofNat (t + 1))), (.ref b)]))
    obtain ⟨cl19, Ar19, hin19, -⟩ := Vb.rd (i := (Int32.ofNat (t + 1))) (p := (t + 1)) (own_clamp (by omega)) (own_nn (by omega)) (by omega)
    obtain ⟨T20, h20, X20, e20, W20, st20⟩ := stI X17 hx hZ e17 Ar19 (j := (Int32.ofNat (t + 1))) hin19 (g := (mkF m 68 #[.val (.ref a1), .val (.int (Int32.ofNat N)), .val (.int (Int32.ofNat M)), .val (.ref a4), .val (.ref a5), .val (.ref a6), .val (.int (Int32.ofNat (t + 1))), .unset] [(.int (((own_g2 Fn M (t + 1)) (t + 1)) + ((own_g2 Fn M (t + 1)) t))), (.int (Int32.ofNat (t + 1))), (.ref b)])) rfl rfl (hb hby d1_68)
    have f21_a1 : Exa Z h20 a1 "com/example/bucket/bucket/graph/Graph" := Ex.wr W20
    have f22_a1 : Fld Z h20 a1 "com/example/bucket/bucket/graph/Graph" "m_firstArc" "[I" (.ref b) := Ffa.other W20 (Or.inl n1b)
    have f23_a1 : Fld Z h20 a1 "com/example/bucket/bucket/graph/Graph" "m_head" "[I" .null := Fh.other W20 (Or.inl n1b)
    have f24_a1 : Fld Z h20 a1 "com/example/bucket/bucket/graph/Graph" "m_weight" "[I" .null := Fw.other W20 (Or.inl n1b)
    have f25_a4 : own_K .int Z h20 a4 .int 4 gf := Vf.other W20 n4b
    have f26_a5 : own_K .int Z h20 a5 .int 4 gt := Vt.other W20 n5b
    have f27_a6 : own_K .int Z h20 a6 .int 4 gw := Vw.other W20 n6b
    have Z28 : n0 ≤ h20.size := Nat.le_trans Z0 (Keep.of_wr W20).1
    have K28 : Keep h0 h20 [a1] := K0.wr W20 (Or.inr szb)
    have N28 := Fr.snoc X20 N0 geb
    have V20 : own_K .int Z h20 b .int N (own_uk (own_g2 Fn M (t + 1)) (t + 1) (((own_g2 Fn M (t + 1)) (t + 1)) + ((own_g2 Fn M (t + 1)) t))) := Vb.set (i := (Int32.ofNat (t + 1))) (p := (t + 1)) (own_clamp (by omega)) W20
    refine own_by st20 ?_
    show own_R p.tables e below _ (T20.setTop (mkF m 69 #[.val (.ref a1), .val (.int (Int32.ofNat N)), .val (.int (Int32.ofNat M)), .val (.ref a4), .val (.ref a5), .val (.ref a6), .val (.int (Int32.ofNat (t + 1))), .unset] []))
    have V29 : own_K .int Z h20 b .int N (own_g2 Fn M (t + 1 + 1)) := (own_t2 Fn M t) ▸ V20
    refine own_by (fun _ kZ => XS.iinc X20.here hx rfl (hb hby d1_69) rfl (l' := #[.val (.ref a1), .val (.int (Int32.ofNat N)), .val (.int (Int32.ofNat M)), .val (.ref a4), .val (.ref a5), .val (.ref a6), .val (.int ((Int32.ofNat (t + 1)) + (1 : Int32))), .unset]) rfl kZ) ?_
    show own_R p.tables e below _ (T20.setTop (mkF m 72 #[.val (.ref a1), .val (.int (Int32.ofNat N)), .val (.int (Int32.ofNat M)), .val (.ref a4), .val (.ref a5), .val (.ref a6), .val (.int ((Int32.ofNat (t + 1)) + (1 : Int32))), .unset] []))
    rw [show ((Int32.ofNat (t + 1)) + (1 : Int32)) = (Int32.ofNat (t + 1 + 1)) from own_add1 (t + 1)]
    show own_R p.tables e below _ (T20.setTop (mkF m 72 #[.val (.ref a1), .val (.int (Int32.ofNat N)), .val (.int (Int32.ofNat M)), .val (.ref a4), .val (.ref a5), .val (.ref a6), .val (.int (Int32.ofNat (t + 1 + 1))), .unset] []))
    refine own_by (fun _ kZ => XS.goto X20.here hx rfl (pc0 := 72) (pc' := 44) rfl (hb hby d1_72) (by decide) (by decide) kZ) ?_
    show own_R p.tables e below _ (T20.setTop (mkF m 44 #[.val (.ref a1), .val (.int (Int32.ofNat N)), .val (.int (Int32.ofNat M)), .val (.ref a4), .val (.ref a5), .val (.ref a6), .val (.int (Int32.ofNat (t + 1 + 1))), .unset] []))
    exact ih (t + 1) (by omega) X20 e20 N28 Z28 K28 f21_a1 f22_a1 f23_a1 f24_a1 f25_a4 f26_a5 f27_a6 V29 cont
set_option maxRecDepth 65536 in
set_option maxHeartbeats 40000000 in
theorem lp3 {p : Program} {l : Launch} {e : Env} {R : Room} {s : State} {m : MethodId} {args : Array Value} {below : List Frame} {meth : Method} {cd : Code} {A : State → Outcome → Prop} {Z : State} {a0 : Array Value} {h0 : Heap} {n0 : Nat} (hx : p.tables.exec = Jvm.exec) (hZ : Z.Warmed39 s.vm) (hw : ∀ d ∈ tables_1, d.before a0 Z = true) (hby : cd.code = prog_59_method_1_code) (hml : cd.maxLocals = 8) (hown : s.vm.findClass "com/example/bucket/bucket/graph/Graph" = some m.cls) (a1 a4 a5 a6 b : Addr) (M N : Nat) (Fn : Nat → Nat) (gf gt gw : Nat → Int32) (hM : M ≤ 4) (hN : N ≤ 4) (hF : ∀ j, j < M → Fn j < N) (hgf : ∀ j, j < M → gf j = Int32.ofNat (Fn j + 1)) (ge1 : n0 ≤ a1) (geb : n0 ≤ b) (szb : h0.size ≤ b) (n1b : a1 ≠ b) (n4b : a4 ≠ b) (n5b : a5 ≠ b) (n6b : a6 ≠ b) (cc dd : Addr) (gec : n0 ≤ cc) (ged : n0 ≤ dd) (szc : h0.size ≤ cc) (szd : h0.size ≤ dd) (n1c : a1 ≠ cc) (n1d : a1 ≠ dd) (n4c : a4 ≠ cc) (n4d : a4 ≠ dd) (n5c : a5 ≠ cc) (n5d : a5 ≠ dd) (n6c : a6 ≠ cc) (n6d : a6 ≠ dd) (nbc : b ≠ cc) (nbd : b ≠ dd) (ncd : cc ≠ dd) :
    ∀ (k : Nat) (gc gd : Nat → Int32) (s7 : Slot) (hk : k ≤ M) (hs7 : One s7) {T : State} {locs : List Loc} {cells slots : Nat} {h : Heap} (X0 : Stand p l e R s m args below meth cd T locs cells slots) (e0 : T.heap = h) (N0 : Fr n0 locs) (Z0 : n0 ≤ h.size) (K0 : Keep h0 h [a1]) (Ffa : Fld Z h a1 "com/example/bucket/bucket/graph/Graph" "m_firstArc" "[I" (.ref b)) (Fh : Fld Z h a1 "com/example/bucket/bucket/graph/Graph" "m_head" "[I" (.ref cc)) (Fw : Fld Z h a1 "com/example/bucket/bucket/graph/Graph" "m_weight" "[I" (.ref dd)) (Vf : own_K .int Z h a4 .int 4 gf) (Vt : own_K .int Z h a5 .int 4 gt) (Vw : own_K .int Z h a6 .int 4 gw) (Vb : own_K .int Z h b .int N (own_g3 Fn M k)) (Vc : own_K .int Z h cc .int M gc) (Vd : own_K .int Z h dd .int M gd)
      (cont : ∀ {T' : State} {locs' : List Loc} {h' : Heap} (gc gd : Nat → Int32) (s7 : Slot) (_ : Stand p l e R s m args below meth cd T' locs' cells slots) (_ : T'.heap = h') (_ : Fr n0 locs') (_ : n0 ≤ h'.size) (_ : Keep h0 h' [a1]) (_ : Fld Z h' a1 "com/example/bucket/bucket/graph/Graph" "m_firstArc" "[I" (.ref b)) (_ : Fld Z h' a1 "com/example/bucket/bucket/graph/Graph" "m_head" "[I" (.ref cc)) (_ : Fld Z h' a1 "com/example/bucket/bucket/graph/Graph" "m_weight" "[I" (.ref dd)) (_ : own_K .int Z h' a4 .int 4 gf) (_ : own_K .int Z h' a5 .int 4 gt) (_ : own_K .int Z h' a6 .int 4 gw) (_ : own_K .int Z h' b .int N (own_g3 Fn M 0)) (_ : own_K .int Z h' cc .int M gc) (_ : own_K .int Z h' dd .int M gd), own_R p.tables e below A (T'.setTop (mkF m 149 #[.val (.ref a1), .val (.int (Int32.ofNat N)), .val (.int (Int32.ofNat M)), .val (.ref a4), .val (.ref a5), .val (.ref a6), .val (.int (-1 : Int32)), s7] []))), own_R p.tables e below A (T.setTop (mkF m 94 #[.val (.ref a1), .val (.int (Int32.ofNat N)), .val (.int (Int32.ofNat M)), .val (.ref a4), .val (.ref a5), .val (.ref a6), .val (.int ((Int32.ofNat k) - (1 : Int32))), s7] [])) := by
  intro k
  induction k with
  | zero =>
    intro gc gd s7 hk hs7 T locs cells slots h X0 e0 N0 Z0 K0 Ffa Fh Fw Vf Vt Vw Vb Vc Vd cont
    show own_R p.tables e below _ (T.setTop (mkF m 94 #[.val (.ref a1), .val (.int (Int32.ofNat N)), .val (.int (Int32.ofNat M)), .val (.ref a4), .val (.ref a5), .val (.ref a6), .val (.int (-1 : Int32)), s7] []))
    refine own_by (fun _ kZ => XS.iload X0.here hx rfl (hb hby d1_94) rfl kZ) ?_
    show own_R p.tables e below _ (T.setTop (mkF m 96 #[.val (.ref a1), .val (.int (Int32.ofNat N)), .val (.int (Int32.ofNat M)), .val (.ref a4), .val (.ref a5), .val (.ref a6), .val (.int (-1 : Int32)), s7] [(.int (-1 : Int32))]))
    refine own_by (fun _ kZ => XS.ifYes X0.here hx rfl (pc0 := 96) (pc' := 149) rfl (hb hby d1_96) rfl ((if0 _ _).trans (tlt (by decide : (-1 : Int32) < 0)).1) (by decide) (by decide) kZ) ?_
    show own_R p.tables e below _ (T.setTop (mkF m 149 #[.val (.ref a1), .val (.int (Int32.ofNat N)), .val (.int (Int32.ofNat M)), .val (.ref a4), .val (.ref a5), .val (.ref a6), .val (.int (-1 : Int32)), s7] []))
    exact cont gc gd s7 X0 e0 N0 Z0 K0 Ffa Fh Fw Vf Vt Vw Vb Vc Vd
  | succ k ih =>
    intro gc gd s7 hk hs7 T locs cells slots h X0 e0 N0 Z0 K0 Ffa Fh Fw Vf Vt Vw Vb Vc Vd cont
    have hkM : k < M := by omega
    have hfk := hF k hkM
    have hpl := own_plM Fn M k hkM
    rw [own_sub1]
    show own_R p.tables e below _ (T.setTop (mkF m 94 #[.val (.ref a1), .val (.int (Int32.ofNat N)), .val (.int (Int32.ofNat M)), .val (.ref a4), .val (.ref a5), .val (.ref a6), .val (.int (Int32.ofNat k)), s7] []))
    refine own_by (fun _ kZ => XS.iload X0.here hx rfl (hb hby d1_94) rfl kZ) ?_
    show own_R p.tables e below _ (T.setTop (mkF m 96 #[.val (.ref a1), .val (.int (Int32.ofNat N)), .val (.int (Int32.ofNat M)), .val (.ref a4), .val (.ref a5), .val (.ref a6), .val (.int (Int32.ofNat k)), s7] [(.int (Int32.ofNat k))]))
    refine own_by (fun _ kZ => XS.ifNo X0.here hx rfl (hb hby d1_96) rfl ((if0 _ _).trans (flt (own_nn (by omega) : ¬ Int32.ofNat k < 0)).1) kZ) ?_
    show own_R p.tables e below _ (T.setTop (mkF m 99 #[.val (.ref a1), .val (.int (Int32.ofNat N)), .val (.int (Int32.ofNat M)), .val (.ref a4), .val (.ref a5), .val (.ref a6), .val (.int (Int32.ofNat k)), s7] []))
    refine own_by (fun _ kZ => XS.aloadN X0.here hx rfl (hb hby d1_99) rfl rfl kZ) ?_
    show own_R p.tables e below _ (T.setTop (mkF m 100 #[.val (.ref a1), .val (.int (Int32.ofNat N)), .val (.int (Int32.ofNat M)), .val (.ref a4), .val (.ref a5), .val (.ref a6), .val (.int (Int32.ofNat k)), s7] [(.ref a1)]))
    obtain ⟨T30, X30, e30, st30⟩ := getF X0 hx hZ hown (host := "") (Or.inl (hw _ (List.mem_of_getElem? (i := 11) rfl))) Via.refl e0 Ffa (g := (mkF m 100 #[.val (.ref a1), .val (.int (Int32.ofNat N)), .val (.int (Int32.ofNat M)), .val (.ref a4), .val (.ref a5), .val (.ref a6), .val (.int (Int32.ofNat k)), s7] [(.ref a1)])) rfl rfl (hb hby d1_100)
    refine own_by st30 ?_
    show own_R p.tables e below _ (T30.setTop (mkF m 103 #[.val (.ref a1), .val (.int (Int32.ofNat N)), .val (.int (Int32.ofNat M)), .val (.ref a4), .val (.ref a5), .val (.ref a6), .val (.int (Int32.ofNat k)), s7] [(.ref b)]))
    refine own_by (fun _ kZ => XS.aloadN X30.here hx rfl (hb hby d1_103) rfl rfl kZ) ?_
    show own_R p.tables e below _ (T30.setTop (mkF m 104 #[.val (.ref a1), .val (.int (Int32.ofNat N)), .val (.int (Int32.ofNat M)), .val (.ref a4), .val (.ref a5), .val (.ref a6), .val (.int (Int32.ofNat k)), s7] [(.ref a4), (.ref b)]))
    refine own_by (fun _ kZ => XS.iload X30.here hx rfl (hb hby d1_104) rfl kZ) ?_
    show own_R p.tables e below _ (T30.setTop (mkF m 106 #[.val (.ref a1), .val (.int (Int32.ofNat N)), .val (.int (Int32.ofNat M)), .val (.ref a4), .val (.ref a5), .val (.ref a6), .val (.int (Int32.ofNat k)), s7] [(.int (Int32.ofNat k)), (.ref a4), (.ref b)]))
    obtain ⟨cl31, Ar31, hin31, hat31⟩ := Vf.rd (i := (Int32.ofNat k)) (p := k) (own_clamp (by omega)) (own_nn (by omega)) (by omega)
    refine own_by (fun _ kZ => X30.iaload hx (j := (Int32.ofNat k)) (v := (.int (gf k))) (by rw [e30]; exact Ar31.1) (State.isArrayOf_alike hZ.alike Ar31.2.1) Ar31.2.2 hin31 hat31 (g := (mkF m 106 #[.val (.ref a1), .val (.int (Int32.ofNat N)), .val (.int (Int32.ofNat M)), .val (.ref a4), .val (.ref a5), .val (.ref a6), .val (.int (Int32.ofNat k)), s7] [(.int (Int32.ofNat k)), (.ref a4), (.ref b)])) rfl rfl (hb hby d1_106) _ kZ) ?_
    show own_R p.tables e below _ (T30.setTop (mkF m 107 #[.val (.ref a1), .val (.int (Int32.ofNat N)), .val (.int (Int32.ofNat M)), .val (.ref a4), .val (.ref a5), .val (.ref a6), .val (.int (Int32.ofNat k)), s7] [(.int (gf k)), (.ref b)]))
    rw [show (gf k) = (Int32.ofNat (Fn k + 1)) from hgf k hkM]
    show own_R p.tables e below _ (T30.setTop (mkF m 107 #[.val (.ref a1), .val (.int (Int32.ofNat N)), .val (.int (Int32.ofNat M)), .val (.ref a4), .val (.ref a5), .val (.ref a6), .val (.int (Int32.ofNat k)), s7] [(.int (Int32.ofNat (Fn k + 1))), (.ref b)]))
    refine own_by (fun _ kZ => XS.iconst X30.here hx rfl (hb hby d1_107) kZ) ?_
    show own_R p.tables e below _ (T30.setTop (mkF m 108 #[.val (.ref a1), .val (.int (Int32.ofNat N)), .val (.int (Int32.ofNat M)), .val (.ref a4), .val (.ref a5), .val (.ref a6), .val (.int (Int32.ofNat k)), s7] [(.int (1 : Int32)), (.int (Int32.ofNat (Fn k + 1))), (.ref b)]))
    refine own_by (fun _ kZ => XS.isub X30.here hx rfl (hb hby d1_108) rfl kZ) ?_
    show own_R p.tables e below _ (T30.setTop (mkF m 109 #[.val (.ref a1), .val (.int (Int32.ofNat N)), .val (.int (Int32.ofNat M)), .val (.ref a4), .val (.ref a5), .val (.ref a6), .val (.int (Int32.ofNat k)), s7] [(.int ((Int32.ofNat (Fn k + 1)) - (1 : Int32))), (.ref b)]))
    rw [show ((Int32.ofNat (Fn k + 1)) - (1 : Int32)) = (Int32.ofNat (Fn k)) from own_sub1 _]
    show own_R p.tables e below _ (T30.setTop (mkF m 109 #[.val (.ref a1), .val (.int (Int32.ofNat N)), .val (.int (Int32.ofNat M)), .val (.ref a4), .val (.ref a5), .val (.ref a6), .val (.int (Int32.ofNat k)), s7] [(.int (Int32.ofNat (Fn k))), (.ref b)]))
    refine own_by (fun _ kZ => Jvm.Free.XT.dup2 X30.here hx rfl (hb hby d1_109) rfl rfl rfl kZ) ?_
    show own_R p.tables e below _ (T30.setTop (mkF m 110 #[.val (.ref a1), .val (.int (Int32.ofNat N)), .val (.int (Int32.ofNat M)), .val (.ref a4), .val (.ref a5), .val (.ref a6), .val (.int (Int32.ofNat k)), s7] [(.int (Int32.ofNat (Fn k))), (.ref b), (.int (Int32.ofNat (Fn k))), (.ref b)]))
    obtain ⟨cl32, Ar32, hin32, hat32⟩ := Vb.rd (i := (Int32.ofNat (Fn k))) (p := (Fn k)) (own_clamp (by omega)) (own_nn (by omega)) hfk
    refine own_by (fun _ kZ => X30.iaload hx (j := (Int32.ofNat (Fn k))) (v := (.int ((own_g3 Fn M (k + 1)) (Fn k)))) (by rw [e30]; exact Ar32.1) (State.isArrayOf_alike hZ.alike Ar32.2.1) Ar32.2.2 hin32 hat32 (g := (mkF m 110 #[.val (.ref a1), .val (.int (Int32.ofNat N)), .val (.int (Int32.ofNat M)), .val (.ref a4), .val (.ref a5), .val (.ref a6), .val (.int (Int32.ofNat k)), s7] [(.int (Int32.ofNat (Fn k))), (.ref b), (.int (Int32.ofNat (Fn k))), (.ref b)])) rfl rfl (hb hby d1_110) _ kZ) ?_
    show own_R p.tables e below _ (T30.setTop (mkF m 111 #[.val (.ref a1), .val (.int (Int32.ofNat N)), .val (.int (Int32.ofNat M)), .val (.ref a4), .val (.ref a5), .val (.ref a6), .val (.int (Int32.ofNat k)), s7] [(.int ((own_g3 Fn M (k + 1)) (Fn k))), (.int (Int32.ofNat (Fn k))), (.ref b)]))
    refine own_by (fun _ kZ => XS.iconst X30.here hx rfl (hb hby d1_111) kZ) ?_
    show own_R p.tables e below _ (T30.setTop (mkF m 112 #[.val (.ref a1), .val (.int (Int32.ofNat N)), .val (.int (Int32.ofNat M)), .val (.ref a4), .val (.ref a5), .val (.ref a6), .val (.int (Int32.ofNat k)), s7] [(.int (1 : Int32)), (.int ((own_g3 Fn M (k + 1)) (Fn k))), (.int (Int32.ofNat (Fn k))), (.ref b)]))
    refine own_by (fun _ kZ => XS.isub X30.here hx rfl (hb hby d1_112) rfl kZ) ?_
    show own_R p.tables e below _ (T30.setTop (mkF m 113 #[.val (.ref a1), .val (.int (Int32.ofNat N)), .val (.int (Int32.ofNat M)), .val (.ref a4), .val (.ref a5), .val (.ref a6), .val (.int (Int32.ofNat k)), s7] [(.int (((own_g3 Fn M (k + 1)) (Fn k)) - (1 : Int32))), (.int (Int32.ofNat (Fn k))), (.ref b)]))
    rw [show (((own_g3 Fn M (k + 1)) (Fn k)) - (1 : Int32)) = (Int32.ofNat (own_pl Fn M k)) from own_pl1 Fn M k]
    show own_R p.tables e below _ (T30.setTop (mkF m 113 #[.val (.ref a1), .val (.int (Int32.ofNat N)), .val (.int (Int32.ofNat M)), .val (.ref a4), .val (.ref a5), .val (.ref a6), .val (.int (Int32.ofNat k)), s7] [(.int (Int32.ofNat (own_pl Fn M k))), (.int (Int32.ofNat (Fn k))), (.ref b)]))
    refine own_by (fun _ kZ => own_dupX2 X30.here hx rfl (hb hby d1_113) rfl rfl rfl rfl kZ) ?_
    show own_R p.tables e below _ (T30.setTop (mkF m 114 #[.val (.ref a1), .val (.int (Int32.ofNat N)), .val (.int (Int32.ofNat M)), .val (.ref a4), .val (.ref a5), .val (.ref a6), .val (.int (Int32.ofNat k)), s7] [(.int (Int32.ofNat (own_pl Fn M k))), (.int (Int32.ofNat (Fn k))), (.ref b), (.int (Int32.ofNat (own_pl Fn M k)))]))
    obtain ⟨cl33, Ar33, hin33, -⟩ := Vb.rd (i := (Int32.ofNat (Fn k))) (p := (Fn k)) (own_clamp (by omega)) (own_nn (by omega)) hfk
    obtain ⟨T34, h34, X34, e34, W34, st34⟩ := stI X30 hx hZ e30 Ar33 (j := (Int32.ofNat (Fn k))) hin33 (g := (mkF m 114 #[.val (.ref a1), .val (.int (Int32.ofNat N)), .val (.int (Int32.ofNat M)), .val (.ref a4), .val (.ref a5), .val (.ref a6), .val (.int (Int32.ofNat k)), s7] [(.int (Int32.ofNat (own_pl Fn M k))), (.int (Int32.ofNat (Fn k))), (.ref b), (.int (Int32.ofNat (own_pl Fn M k)))])) rfl rfl (hb hby d1_114)
    have f35_a1 : Fld Z h34 a1 "com/example/bucket/bucket/graph/Graph" "m_firstArc" "[I" (.ref b) := Ffa.other W34 (Or.inl n1b)
    have f36_a1 : Fld Z h34 a1 "com/example/bucket/bucket/graph/Graph" "m_head" "[I" (.ref cc) := Fh.other W34 (Or.inl n1b)
    have f37_a1 : Fld Z h34 a1 "com/example/bucket/bucket/graph/Graph" "m_weight" "[I" (.ref dd) := Fw.other W34 (Or.inl n1b)
    have f38_a4 : own_K .int Z h34 a4 .int 4 gf := Vf.other W34 n4b
    have f39_a5 : own_K .int Z h34 a5 .int 4 gt := Vt.other W34 n5b
    have f40_a6 : own_K .int Z h34 a6 .int 4 gw := Vw.other W34 n6b
    have f41_cc : own_K .int Z h34 cc .int M gc := Vc.other W34 (Ne.symm nbc)
    have f42_dd : own_K .int Z h34 dd .int M gd := Vd.other W34 (Ne.symm nbd)
    have Z43 : n0 ≤ h34.size := Nat.le_trans Z0 (Keep.of_wr W34).1
    have K43 : Keep h0 h34 [a1] := K0.wr W34 (Or.inr szb)
    have N43 := Fr.snoc X34 N0 geb
    have V34 : own_K .int Z h34 b .int N (own_uk (own_g3 Fn M (k + 1)) (Fn k) (Int32.ofNat (own_pl Fn M k))) := Vb.set (i := (Int32.ofNat (Fn k))) (p := (Fn k)) (own_clamp (by omega)) W34
    refine own_by st34 ?_
    show own_R p.tables e below _ (T34.setTop (mkF m 115 #[.val (.ref a1), .val (.int (Int32.ofNat N)), .val (.int (Int32.ofNat M)), .val (.ref a4), .val (.ref a5), .val (.ref a6), .val (.int (Int32.ofNat k)), s7] [(.int (Int32.ofNat (own_pl Fn M k)))]))
    have V44 : own_K .int Z h34 b .int N (own_g3 Fn M k) := (own_t3 Fn M k) ▸ V34
    refine own_by (fun _ kZ => XS.istore X34.here hx rfl (hb hby d1_115) rfl (l' := #[.val (.ref a1), .val (.int (Int32.ofNat N)), .val (.int (Int32.ofNat M)), .val (.ref a4), .val (.ref a5), .val (.ref a6), .val (.int (Int32.ofNat k)), .val (.int (Int32.ofNat (own_pl Fn M k)))]) (own_os7 hs7) kZ) ?_
    show own_R p.tables e below _ (T34.setTop (mkF m 117 #[.val (.ref a1), .val (.int (Int32.ofNat N)), .val (.int (Int32.ofNat M)), .val (.ref a4), .val (.ref a5), .val (.ref a6), .val (.int (Int32.ofNat k)), .val (.int (Int32.ofNat (own_pl Fn M k)))] []))
    refine own_by (fun _ kZ => XS.aloadN X34.here hx rfl (hb hby d1_117) rfl rfl kZ) ?_
    show own_R p.tables e below _ (T34.setTop (mkF m 118 #[.val (.ref a1), .val (.int (Int32.ofNat N)), .val (.int (Int32.ofNat M)), .val (.ref a4), .val (.ref a5), .val (.ref a6), .val (.int (Int32.ofNat k)), .val (.int (Int32.ofNat (own_pl Fn M k)))] [(.ref a1)]))
    obtain ⟨T45, X45, e45, st45⟩ := getF X34 hx hZ hown (host := "") (Or.inl (hw _ (List.mem_of_getElem? (i := 13) rfl))) Via.refl e34 f36_a1 (g := (mkF m 118 #[.val (.ref a1), .val (.int (Int32.ofNat N)), .val (.int (Int32.ofNat M)), .val (.ref a4), .val (.ref a5), .val (.ref a6), .val (.int (Int32.ofNat k)), .val (.int (Int32.ofNat (own_pl Fn M k)))] [(.ref a1)])) rfl rfl (hb hby d1_118)
    refine own_by st45 ?_
    show own_R p.tables e below _ (T45.setTop (mkF m 121 #[.val (.ref a1), .val (.int (Int32.ofNat N)), .val (.int (Int32.ofNat M)), .val (.ref a4), .val (.ref a5), .val (.ref a6), .val (.int (Int32.ofNat k)), .val (.int (Int32.ofNat (own_pl Fn M k)))] [(.ref cc)]))
    refine own_by (fun _ kZ => XS.iload X45.here hx rfl (hb hby d1_121) rfl kZ) ?_
    show own_R p.tables e below _ (T45.setTop (mkF m 123 #[.val (.ref a1), .val (.int (Int32.ofNat N)), .val (.int (Int32.ofNat M)), .val (.ref a4), .val (.ref a5), .val (.ref a6), .val (.int (Int32.ofNat k)), .val (.int (Int32.ofNat (own_pl Fn M k)))] [(.int (Int32.ofNat (own_pl Fn M k))), (.ref cc)]))
    refine own_by (fun _ kZ => XS.aload X45.here hx rfl (hb hby d1_123) rfl rfl kZ) ?_
    show own_R p.tables e below _ (T45.setTop (mkF m 125 #[.val (.ref a1), .val (.int (Int32.ofNat N)), .val (.int (Int32.ofNat M)), .val (.ref a4), .val (.ref a5), .val (.ref a6), .val (.int (Int32.ofNat k)), .val (.int (Int32.ofNat (own_pl Fn M k)))] [(.ref a5), (.int (Int32.ofNat (own_pl Fn M k))), (.ref cc)]))
    refine own_by (fun _ kZ => XS.iload X45.here hx rfl (hb hby d1_125) rfl kZ) ?_
    show own_R p.tables e below _ (T45.setTop (mkF m 127 #[.val (.ref a1), .val (.int (Int32.ofNat N)), .val (.int (Int32.ofNat M)), .val (.ref a4), .val (.ref a5), .val (.ref a6), .val (.int (Int32.ofNat k)), .val (.int (Int32.ofNat (own_pl Fn M k)))] [(.int (Int32.ofNat k)), (.ref a5), (.int (Int32.ofNat (own_pl Fn M k))), (.ref cc)]))
    obtain ⟨cl46, Ar46, hin46, hat46⟩ := f39_a5.rd (i := (Int32.ofNat k)) (p := k) (own_clamp (by omega)) (own_nn (by omega)) (by omega)
    refine own_by (fun _ kZ => X45.iaload hx (j := (Int32.ofNat k)) (v := (.int (gt k))) (by rw [e45]; exact Ar46.1) (State.isArrayOf_alike hZ.alike Ar46.2.1) Ar46.2.2 hin46 hat46 (g := (mkF m 127 #[.val (.ref a1), .val (.int (Int32.ofNat N)), .val (.int (Int32.ofNat M)), .val (.ref a4), .val (.ref a5), .val (.ref a6), .val (.int (Int32.ofNat k)), .val (.int (Int32.ofNat (own_pl Fn M k)))] [(.int (Int32.ofNat k)), (.ref a5), (.int (Int32.ofNat (own_pl Fn M k))), (.ref cc)])) rfl rfl (hb hby d1_127) _ kZ) ?_
    show own_R p.tables e below _ (T45.setTop (mkF m 128 #[.val (.ref a1), .val (.int (Int32.ofNat N)), .val (.int (Int32.ofNat M)), .val (.ref a4), .val (.ref a5), .val (.ref a6), .val (.int (Int32.ofNat k)), .val (.int (Int32.ofNat (own_pl Fn M k)))] [(.int (gt k)), (.int (Int32.ofNat (own_pl Fn M k))), (.ref cc)]))
    refine own_by (fun _ kZ => XS.iconst X45.here hx rfl (hb hby d1_128) kZ) ?_
    show own_R p.tables e below _ (T45.setTop (mkF m 129 #[.val (.ref a1), .val (.int (Int32.ofNat N)), .val (.int (Int32.ofNat M)), .val (.ref a4), .val (.ref a5), .val (.ref a6), .val (.int (Int32.ofNat k)), .val (.int (Int32.ofNat (own_pl Fn M k)))] [(.int (1 : Int32)), (.int (gt k)), (.int (Int32.ofNat (own_pl Fn M k))), (.ref cc)]))
    refine own_by (fun _ kZ => XS.isub X45.here hx rfl (hb hby d1_129) rfl kZ) ?_
    show own_R p.tables e below _ (T45.setTop (mkF m 130 #[.val (.ref a1), .val (.int (Int32.ofNat N)), .val (.int (Int32.ofNat M)), .val (.ref a4), .val (.ref a5), .val (.ref a6), .val (.int (Int32.ofNat k)), .val (.int (Int32.ofNat (own_pl Fn M k)))] [(.int ((gt k) - (1 : Int32))), (.int (Int32.ofNat (own_pl Fn M k))), (.ref cc)]))
    obtain ⟨cl47, Ar47, hin47, -⟩ := f41_cc.rd (i := (Int32.ofNat (own_pl Fn M k))) (p := (own_pl Fn M k)) (own_clamp (by omega)) (own_nn (by omega)) hpl
    obtain ⟨T48, h48, X48, e48, W48, st48⟩ := stI X45 hx hZ e45 Ar47 (j := (Int32.ofNat (own_pl Fn M k))) hin47 (g := (mkF m 130 #[.val (.ref a1), .val (.int (Int32.ofNat N)), .val (.int (Int32.ofNat M)), .val (.ref a4), .val (.ref a5), .val (.ref a6), .val (.int (Int32.ofNat k)), .val (.int (Int32.ofNat (own_pl Fn M k)))] [(.int ((gt k) - (1 : Int32))), (.int (Int32.ofNat (own_pl Fn M k))), (.ref cc)])) rfl rfl (hb hby d1_130)
    have f49_a1 : Fld Z h48 a1 "com/example/bucket/bucket/graph/Graph" "m_firstArc" "[I" (.ref b) := f35_a1.other W48 (Or.inl n1c)
    have f50_a1 : Fld Z h48 a1 "com/example/bucket/bucket/graph/Graph" "m_head" "[I" (.ref cc) := f36_a1.other W48 (Or.inl n1c)
    have f51_a1 : Fld Z h48 a1 "com/example/bucket/bucket/graph/Graph" "m_weight" "[I" (.ref dd) := f37_a1.other W48 (Or.inl n1c)
    have f52_a4 : own_K .int Z h48 a4 .int 4 gf := f38_a4.other W48 n4c
    have f53_a5 : own_K .int Z h48 a5 .int 4 gt := f39_a5.other W48 n5c
    have f54_a6 : own_K .int Z h48 a6 .int 4 gw := f40_a6.other W48 n6c
    have f55_dd : own_K .int Z h48 dd .int M gd := f42_dd.other W48 (Ne.symm ncd)
    have f56_b : own_K .int Z h48 b .int N (own_g3 Fn M k) := V44.other W48 nbc
    have Z57 : n0 ≤ h48.size := Nat.le_trans Z43 (Keep.of_wr W48).1
    have K57 : Keep h0 h48 [a1] := K43.wr W48 (Or.inr szc)
    have N57 := Fr.snoc X48 N43 gec
    have V48 : own_K .int Z h48 cc .int M (own_uk gc (own_pl Fn M k) ((gt k) - (1 : Int32))) := f41_cc.set (i := (Int32.ofNat (own_pl Fn M k))) (p := (own_pl Fn M k)) (own_clamp (by omega)) W48
    refine own_by st48 ?_
    show own_R p.tables e below _ (T48.setTop (mkF m 131 #[.val (.ref a1), .val (.int (Int32.ofNat N)), .val (.int (Int32.ofNat M)), .val (.ref a4), .val (.ref a5), .val (.ref a6), .val (.int (Int32.ofNat k)), .val (.int (Int32.ofNat (own_pl Fn M k)))] []))
    refine own_by (fun _ kZ => XS.aloadN X48.here hx rfl (hb hby d1_131) rfl rfl kZ) ?_
    show own_R p.tables e below _ (T48.setTop (mkF m 132 #[.val (.ref a1), .val (.int (Int32.ofNat N)), .val (.int (Int32.ofNat M)), .val (.ref a4), .val (.ref a5), .val (.ref a6), .val (.int (Int32.ofNat k)), .val (.int (Int32.ofNat (own_pl Fn M k)))] [(.ref a1)]))
    obtain ⟨T58, X58, e58, st58⟩ := getF X48 hx hZ hown (host := "") (Or.inl (hw _ (List.mem_of_getElem? (i := 15) rfl))) Via.refl e48 f51_a1 (g := (mkF m 132 #[.val (.ref a1), .val (.int (Int32.ofNat N)), .val (.int (Int32.ofNat M)), .val (.ref a4), .val (.ref a5), .val (.ref a6), .val (.int (Int32.ofNat k)), .val (.int (Int32.ofNat (own_pl Fn M k)))] [(.ref a1)])) rfl rfl (hb hby d1_132)
    refine own_by st58 ?_
    show own_R p.tables e below _ (T58.setTop (mkF m 135 #[.val (.ref a1), .val (.int (Int32.ofNat N)), .val (.int (Int32.ofNat M)), .val (.ref a4), .val (.ref a5), .val (.ref a6), .val (.int (Int32.ofNat k)), .val (.int (Int32.ofNat (own_pl Fn M k)))] [(.ref dd)]))
    refine own_by (fun _ kZ => XS.iload X58.here hx rfl (hb hby d1_135) rfl kZ) ?_
    show own_R p.tables e below _ (T58.setTop (mkF m 137 #[.val (.ref a1), .val (.int (Int32.ofNat N)), .val (.int (Int32.ofNat M)), .val (.ref a4), .val (.ref a5), .val (.ref a6), .val (.int (Int32.ofNat k)), .val (.int (Int32.ofNat (own_pl Fn M k)))] [(.int (Int32.ofNat (own_pl Fn M k))), (.ref dd)]))
    refine own_by (fun _ kZ => XS.aload X58.here hx rfl (hb hby d1_137) rfl rfl kZ) ?_
    show own_R p.tables e below _ (T58.setTop (mkF m 139 #[.val (.ref a1), .val (.int (Int32.ofNat N)), .val (.int (Int32.ofNat M)), .val (.ref a4), .val (.ref a5), .val (.ref a6), .val (.int (Int32.ofNat k)), .val (.int (Int32.ofNat (own_pl Fn M k)))] [(.ref a6), (.int (Int32.ofNat (own_pl Fn M k))), (.ref dd)]))
    refine own_by (fun _ kZ => XS.iload X58.here hx rfl (hb hby d1_139) rfl kZ) ?_
    show own_R p.tables e below _ (T58.setTop (mkF m 141 #[.val (.ref a1), .val (.int (Int32.ofNat N)), .val (.int (Int32.ofNat M)), .val (.ref a4), .val (.ref a5), .val (.ref a6), .val (.int (Int32.ofNat k)), .val (.int (Int32.ofNat (own_pl Fn M k)))] [(.int (Int32.ofNat k)), (.ref a6), (.int (Int32.ofNat (own_pl Fn M k))), (.ref dd)]))
    obtain ⟨cl59, Ar59, hin59, hat59⟩ := f54_a6.rd (i := (Int32.ofNat k)) (p := k) (own_clamp (by omega)) (own_nn (by omega)) (by omega)
    refine own_by (fun _ kZ => X58.iaload hx (j := (Int32.ofNat k)) (v := (.int (gw k))) (by rw [e58]; exact Ar59.1) (State.isArrayOf_alike hZ.alike Ar59.2.1) Ar59.2.2 hin59 hat59 (g := (mkF m 141 #[.val (.ref a1), .val (.int (Int32.ofNat N)), .val (.int (Int32.ofNat M)), .val (.ref a4), .val (.ref a5), .val (.ref a6), .val (.int (Int32.ofNat k)), .val (.int (Int32.ofNat (own_pl Fn M k)))] [(.int (Int32.ofNat k)), (.ref a6), (.int (Int32.ofNat (own_pl Fn M k))), (.ref dd)])) rfl rfl (hb hby d1_141) _ kZ) ?_
    show own_R p.tables e below _ (T58.setTop (mkF m 142 #[.val (.ref a1), .val (.int (Int32.ofNat N)), .val (.int (Int32.ofNat M)), .val (.ref a4), .val (.ref a5), .val (.ref a6), .val (.int (Int32.ofNat k)), .val (.int (Int32.ofNat (own_pl Fn M k)))] [(.int (gw k)), (.int (Int32.ofNat (own_pl Fn M k))), (.ref dd)]))
    obtain ⟨cl60, Ar60, hin60, -⟩ := f55_dd.rd (i := (Int32.ofNat (own_pl Fn M k))) (p := (own_pl Fn M k)) (own_clamp (by omega)) (own_nn (by omega)) hpl
    obtain ⟨T61, h61, X61, e61, W61, st61⟩ := stI X58 hx hZ e58 Ar60 (j := (Int32.ofNat (own_pl Fn M k))) hin60 (g := (mkF m 142 #[.val (.ref a1), .val (.int (Int32.ofNat N)), .val (.int (Int32.ofNat M)), .val (.ref a4), .val (.ref a5), .val (.ref a6), .val (.int (Int32.ofNat k)), .val (.int (Int32.ofNat (own_pl Fn M k)))] [(.int (gw k)), (.int (Int32.ofNat (own_pl Fn M k))), (.ref dd)])) rfl rfl (hb hby d1_142)
    have f62_a1 : Fld Z h61 a1 "com/example/bucket/bucket/graph/Graph" "m_firstArc" "[I" (.ref b) := f49_a1.other W61 (Or.inl n1d)
    have f63_a1 : Fld Z h61 a1 "com/example/bucket/bucket/graph/Graph" "m_head" "[I" (.ref cc) := f50_a1.other W61 (Or.inl n1d)
    have f64_a1 : Fld Z h61 a1 "com/example/bucket/bucket/graph/Graph" "m_weight" "[I" (.ref dd) := f51_a1.other W61 (Or.inl n1d)
    have f65_a4 : own_K .int Z h61 a4 .int 4 gf := f52_a4.other W61 n4d
    have f66_a5 : own_K .int Z h61 a5 .int 4 gt := f53_a5.other W61 n5d
    have f67_a6 : own_K .int Z h61 a6 .int 4 gw := f54_a6.other W61 n6d
    have f68_b : own_K .int Z h61 b .int N (own_g3 Fn M k) := f56_b.other W61 nbd
    have f69_cc : own_K .int Z h61 cc .int M (own_uk gc (own_pl Fn M k) ((gt k) - (1 : Int32))) := V48.other W61 ncd
    have Z70 : n0 ≤ h61.size := Nat.le_trans Z57 (Keep.of_wr W61).1
    have K70 : Keep h0 h61 [a1] := K57.wr W61 (Or.inr szd)
    have N70 := Fr.snoc X61 N57 ged
    have V61 : own_K .int Z h61 dd .int M (own_uk gd (own_pl Fn M k) (gw k)) := f55_dd.set (i := (Int32.ofNat (own_pl Fn M k))) (p := (own_pl Fn M k)) (own_clamp (by omega)) W61
    refine own_by st61 ?_
    show own_R p.tables e below _ (T61.setTop (mkF m 143 #[.val (.ref a1), .val (.int (Int32.ofNat N)), .val (.int (Int32.ofNat M)), .val (.ref a4), .val (.ref a5), .val (.ref a6), .val (.int (Int32.ofNat k)), .val (.int (Int32.ofNat (own_pl Fn M k)))] []))
    refine own_by (fun _ kZ => XS.iinc X61.here hx rfl (hb hby d1_143) rfl (l' := #[.val (.ref a1), .val (.int (Int32.ofNat N)), .val (.int (Int32.ofNat M)), .val (.ref a4), .val (.ref a5), .val (.ref a6), .val (.int ((Int32.ofNat k) + (-1 : Int32))), .val (.int (Int32.ofNat (own_pl Fn M k)))]) rfl kZ) ?_
    show own_R p.tables e below _ (T61.setTop (mkF m 146 #[.val (.ref a1), .val (.int (Int32.ofNat N)), .val (.int (Int32.ofNat M)), .val (.ref a4), .val (.ref a5), .val (.ref a6), .val (.int ((Int32.ofNat k) + (-1 : Int32))), .val (.int (Int32.ofNat (own_pl Fn M k)))] []))
    rw [show ((Int32.ofNat k) + (-1 : Int32)) = ((Int32.ofNat k) - (1 : Int32)) from (Int32.sub_eq_add_neg _ _).symm]
    show own_R p.tables e below _ (T61.setTop (mkF m 146 #[.val (.ref a1), .val (.int (Int32.ofNat N)), .val (.int (Int32.ofNat M)), .val (.ref a4), .val (.ref a5), .val (.ref a6), .val (.int ((Int32.ofNat k) - (1 : Int32))), .val (.int (Int32.ofNat (own_pl Fn M k)))] []))
    refine own_by (fun _ kZ => XS.goto X61.here hx rfl (pc0 := 146) (pc' := 94) rfl (hb hby d1_146) (by decide) (by decide) kZ) ?_
    show own_R p.tables e below _ (T61.setTop (mkF m 94 #[.val (.ref a1), .val (.int (Int32.ofNat N)), .val (.int (Int32.ofNat M)), .val (.ref a4), .val (.ref a5), .val (.ref a6), .val (.int ((Int32.ofNat k) - (1 : Int32))), .val (.int (Int32.ofNat (own_pl Fn M k)))] []))
    exact ih (own_uk gc (own_pl Fn M k) ((gt k) - (1 : Int32))) (own_uk gd (own_pl Fn M k) (gw k)) (.val (.int (Int32.ofNat (own_pl Fn M k)))) (by omega) (One.val rfl) X61 e61 N70 Z70 K70 f62_a1 f63_a1 f64_a1 f65_a4 f66_a5 f67_a6 f68_b f69_cc V61 cont
theorem ef_1 (m : MethodId) (a1 : Addr) (p2 : Int32) (p3 : Int32) (a4 : Addr) (a5 : Addr) (a6 : Addr) : entryFrame m #[(.ref a1), (.int p2), (.int p3), (.ref a4), (.ref a5), (.ref a6)] 8 = mkF m 0 #[.val (.ref a1), .val (.int p2), .val (.int p3), .val (.ref a4), .val (.ref a5), .val (.ref a6), .unset, .unset] [] := by first | (simp [entryFrame, mkF, argsToLocals, Value.category]; done) | rfl
def Q1 (Z : State) (a1 : Addr) (p2 : Int32) (p3 : Int32) (a4 : Addr) (a5 : Addr) (a6 : Addr) (M N : Nat) (Fn : Nat → Nat) (gf gt gw : Nat → Int32) (h0 : Heap) (n0 : Nat) (v : Option Value) (h : Heap) (L : List Loc) : Prop := v = none ∧ Fr n0 L ∧ Keep h0 h [a1] ∧ ∃ (b cc : Addr) (gc : Nat → Int32), Fld Z h a1 "com/example/bucket/bucket/graph/Graph" "m_firstArc" "[I" (.ref b) ∧ Fld Z h a1 "com/example/bucket/bucket/graph/Graph" "m_head" "[I" (.ref cc) ∧ own_K .int Z h b .int N (own_g3 Fn M 0) ∧ own_K .int Z h cc .int M gc
set_option maxRecDepth 65536 in
set_option maxHeartbeats 40000000 in
theorem rm1 (l : Launch) (Z : State) (a0 : Array Value) (hw : ∀ d ∈ tables_1, d.before a0 Z = true) (ws : List Jvm.Cond) (a1 : Addr) (p2 : Int32) (p3 : Int32) (a4 : Addr) (a5 : Addr) (a6 : Addr) (M N : Nat) (Fn : Nat → Nat) (gf gt gw : Nat → Int32) (h0 : Heap) (n0 : Nat) (Z0 : n0 ≤ h0.size) (hM : M ≤ 4) (hN : N ≤ 4) (hN1 : 1 ≤ N) (hF : ∀ j, j < M → Fn j < N) (hgf : ∀ j, j < M → gf j = Int32.ofNat (Fn j + 1)) (hp2 : p2 = Int32.ofNat N) (hp3 : p3 = Int32.ofNat M) (ge1 : n0 ≤ a1) (n41 : a4 ≠ a1) (n51 : a5 ≠ a1) (n61 : a6 ≠ a1) (Ex : Exa Z h0 a1 "com/example/bucket/bucket/graph/Graph") (Ffa : Fld Z h0 a1 "com/example/bucket/bucket/graph/Graph" "m_firstArc" "[I" .null) (Fh : Fld Z h0 a1 "com/example/bucket/bucket/graph/Graph" "m_head" "[I" .null) (Fw : Fld Z h0 a1 "com/example/bucket/bucket/graph/Graph" "m_weight" "[I" .null) (Vf : own_K .int Z h0 a4 .int 4 gf) (Vt : own_K .int Z h0 a5 .int 4 gt) (Vw : own_K .int Z h0 a6 .int 4 gw) :
    MetFree l (⟨"com/example/bucket/bucket/graph/Graph", "<init>", "(II[I[I[I)V"⟩ : MethodName) (head1 (Jvm.Cond.code (⟨"com/example/bucket/bucket/graph/Graph", "<init>", "(II[I[I[I)V"⟩ : MethodName) prog_59_method_1_code 8 none :: ws) ({ frames := 1, cells := 3, slots := 12, locals := 13 } : Room)) (fun a U => a = #[(.ref a1), (.int p2), (.int p3), (.ref a4), (.ref a5), (.ref a6)] ∧ Z.Warmed39 U.vm ∧ U.heap = h0) (fun _ _ _ _ _ => True) (fun _ U o U' => ∃ v L, o = .returned v ∧ Q1 Z a1 p2 p3 a4 a5 a6 M N Fn gf gt gw h0 n0 v U'.heap L ∧ FrameEnd U o U' L ({ frames := 1, cells := 3, slots := 12, locals := 13 } : Room).cells ({ frames := 1, cells := 3, slots := 12, locals := 13 } : Room).slots) := by
  refine MetFree.of_bodySF (plainFor_of_name pn_1) hisR ?_
  intro p e s m args below meth cd s₁ Bd hml0 hP hK
  obtain ⟨rfl, hZ, hh⟩ := hP
  have hx := Bd.exec
  have hby := Bd.bytes
  have hml : cd.maxLocals = 8 := hml0
  have hown : s.vm.findClass "com/example/bucket/bucket/graph/Graph" = some m.cls := findClass_of_methodNamed Bd.named
  have hnm := (name_of_methodNamed Bd.named Bd.method).1
  have X0 : Stand p l e ({ frames := 1, cells := 3, slots := 12, locals := 13 } : Room) s m #[(.ref a1), (.int p2), (.int p3), (.ref a4), (.ref a5), (.ref a6)] below meth cd s₁ [] 0 0 := Stand.of_body Bd
  have e0 : s₁.heap = h0 := by rw [← hh, Bd.state]; rfl
  have N0 := Fr.nil n0
  show own_R p.tables e below _ (s₁.setTop (entryFrame m #[(.ref a1), (.int p2), (.int p3), (.ref a4), (.ref a5), (.ref a6)] 8))
  refine own_by (fun t kZ => castTop (ef_1 m a1 p2 p3 a4 a5 a6) kZ) ?_
  show own_R p.tables e below _ (s₁.setTop (mkF m 0 #[.val (.ref a1), .val (.int p2), .val (.int p3), .val (.ref a4), .val (.ref a5), .val (.ref a6), .unset, .unset] []))
  subst hp2 hp3
  show own_R p.tables e below _ (s₁.setTop (mkF m 0 #[.val (.ref a1), .val (.int (Int32.ofNat N)), .val (.int (Int32.ofNat M)), .val (.ref a4), .val (.ref a5), .val (.ref a6), .unset, .unset] []))
  refine own_by (fun _ kZ => XS.aloadN X0.here hx rfl (hb hby d1_0) rfl rfl kZ) ?_
  show own_R p.tables e below _ (s₁.setTop (mkF m 1 #[.val (.ref a1), .val (.int (Int32.ofNat N)), .val (.int (Int32.ofNat M)), .val (.ref a4), .val (.ref a5), .val (.ref a6), .unset, .unset] [(.ref a1)]))
  obtain ⟨T71, X71, e71, st71⟩ := initO X0 hx hZ hown (hw _ (List.mem_of_getElem? (i := 8) rfl)) (hw _ (List.mem_of_getElem? (i := 9) rfl)) (hw _ (List.mem_of_getElem? (i := 10) rfl)) e0 (g := (mkF m 1 #[.val (.ref a1), .val (.int (Int32.ofNat N)), .val (.int (Int32.ofNat M)), .val (.ref a4), .val (.ref a5), .val (.ref a6), .unset, .unset] [(.ref a1)])) rfl (by rw [hml]; rfl) rfl (hb hby d1_1) (by decide) (W := 0) (by show 2 * 0 + _ ≤ _; exact Nat.le_of_eq rfl) (by decide)
  refine own_by st71 ?_
  show own_R p.tables e below _ (T71.setTop (mkF m 4 #[.val (.ref a1), .val (.int (Int32.ofNat N)), .val (.int (Int32.ofNat M)), .val (.ref a4), .val (.ref a5), .val (.ref a6), .unset, .unset] []))
  refine own_by (fun _ kZ => XS.aloadN X71.here hx rfl (hb hby d1_4) rfl rfl kZ) ?_
  show own_R p.tables e below _ (T71.setTop (mkF m 5 #[.val (.ref a1), .val (.int (Int32.ofNat N)), .val (.int (Int32.ofNat M)), .val (.ref a4), .val (.ref a5), .val (.ref a6), .unset, .unset] [(.ref a1)]))
  refine own_by (fun _ kZ => XS.iloadN X71.here hx rfl (hb hby d1_5) rfl kZ) ?_
  show own_R p.tables e below _ (T71.setTop (mkF m 6 #[.val (.ref a1), .val (.int (Int32.ofNat N)), .val (.int (Int32.ofNat M)), .val (.ref a4), .val (.ref a5), .val (.ref a6), .unset, .unset] [(.int (Int32.ofNat N)), (.ref a1)]))
  obtain ⟨T72, h72, k72, X72, e72, E72, A72, st72⟩ := newP X71 hx hZ (hw _ (List.mem_of_getElem? (i := 1) rfl)) e71 (g := (mkF m 6 #[.val (.ref a1), .val (.int (Int32.ofNat N)), .val (.int (Int32.ofNat M)), .val (.ref a4), .val (.ref a5), .val (.ref a6), .unset, .unset] [(.int (Int32.ofNat N)), (.ref a1)])) rfl (hb hby d1_6) rfl (own_nn (by omega)) (cap := 4) (by rw [own_clamp (by omega)]; exact hN) (by decide) (by decide) (by decide)
  obtain ⟨b, g72⟩ : ∃ z, z = h0.size := ⟨_, rfl⟩
  have ne_a1_b : a1 ≠ b := Nat.ne_of_lt (Nat.lt_of_lt_of_le Ex.lt (Nat.le_of_eq g72.symm))
  have ne_a4_b : a4 ≠ b := Nat.ne_of_lt (Nat.lt_of_lt_of_le Vf.lt (Nat.le_of_eq g72.symm))
  have ne_a5_b : a5 ≠ b := Nat.ne_of_lt (Nat.lt_of_lt_of_le Vt.lt (Nat.le_of_eq g72.symm))
  have ne_a6_b : a6 ≠ b := Nat.ne_of_lt (Nat.lt_of_lt_of_le Vw.lt (Nat.le_of_eq g72.symm))
  have ge_b : n0 ≤ b := Nat.le_trans Z0 (Nat.le_of_eq g72.symm)
  have sz_b : h0.size ≤ b := Nat.le_trans (Keep.refl h0 [a1]).1 (Nat.le_of_eq g72.symm)
  rw [← g72] at A72 st72
  have f73_a1 : Exa Z h72 a1 "com/example/bucket/bucket/graph/Graph" := Ex.ext E72
  have f74_a1 : Fld Z h72 a1 "com/example/bucket/bucket/graph/Graph" "m_firstArc" "[I" .null := Ffa.ext E72
  have f75_a1 : Fld Z h72 a1 "com/example/bucket/bucket/graph/Graph" "m_head" "[I" .null := Fh.ext E72
  have f76_a1 : Fld Z h72 a1 "com/example/bucket/bucket/graph/Graph" "m_weight" "[I" .null := Fw.ext E72
  have f77_a4 : own_K .int Z h72 a4 .int 4 gf := Vf.ext E72
  have f78_a5 : own_K .int Z h72 a5 .int 4 gt := Vt.ext E72
  have f79_a6 : own_K .int Z h72 a6 .int 4 gw := Vw.ext E72
  have Z80 : n0 ≤ h72.size := Nat.le_trans Z0 E72.1
  have K80 : Keep h0 h72 [a1] := (Keep.refl h0 [a1]).ext E72
  have V72 : own_K .int Z h72 b .int N (fun _ => (0 : Int32)) := own_K.new A72 (own_nn (by omega)) (own_clamp (by omega)) rfl
  refine own_by st72 ?_
  show own_R p.tables e below _ (T72.setTop (mkF m 8 #[.val (.ref a1), .val (.int (Int32.ofNat N)), .val (.int (Int32.ofNat M)), .val (.ref a4), .val (.ref a5), .val (.ref a6), .unset, .unset] [(.ref b), (.ref a1)]))
  obtain ⟨T81, h81, X81, e81, W81, st81⟩ := putF X72 hx hZ hown (host := "") (Or.inl (hw _ (List.mem_of_getElem? (i := 11) rfl))) Via.refl e72 f74_a1 f73_a1 (Or.inr ⟨(hw _ (List.mem_of_getElem? (i := 12) rfl)), rfl, hnm⟩) (hw _ (List.mem_of_getElem? (i := 3) rfl)) (ty := (.array .int)) (by decide) rfl rfl (g := (mkF m 8 #[.val (.ref a1), .val (.int (Int32.ofNat N)), .val (.int (Int32.ofNat M)), .val (.ref a4), .val (.ref a5), .val (.ref a6), .unset, .unset] [(.ref b), (.ref a1)])) rfl rfl (hb hby d1_8)
  have f82_a1 : Exa Z h81 a1 "com/example/bucket/bucket/graph/Graph" := f73_a1.wr W81
  have f83_a1 : Fld Z h81 a1 "com/example/bucket/bucket/graph/Graph" "m_firstArc" "[I" (.ref b) := f74_a1.same W81
  have f84_a1 : Fld Z h81 a1 "com/example/bucket/bucket/graph/Graph" "m_head" "[I" .null := f75_a1.other W81 (Or.inr (slot_ne (Or.inr (hw _ (List.mem_of_getElem? (i := 14) rfl))) (Or.inr (hw _ (List.mem_of_getElem? (i := 12) rfl))) (by decide) (t := (.array .int)) (t' := (.array .int)) (by decide) (by decide)))
  have f85_a1 : Fld Z h81 a1 "com/example/bucket/bucket/graph/Graph" "m_weight" "[I" .null := f76_a1.other W81 (Or.inr (slot_ne (Or.inr (hw _ (List.mem_of_getElem? (i := 16) rfl))) (Or.inr (hw _ (List.mem_of_getElem? (i := 12) rfl))) (by decide) (t := (.array .int)) (t' := (.array .int)) (by decide) (by decide)))
  have f86_a4 : own_K .int Z h81 a4 .int 4 gf := f77_a4.other W81 n41
  have f87_a5 : own_K .int Z h81 a5 .int 4 gt := f78_a5.other W81 n51
  have f88_a6 : own_K .int Z h81 a6 .int 4 gw := f79_a6.other W81 n61
  have f89_b : own_K .int Z h81 b .int N (fun _ => (0 : Int32)) := V72.other W81 (Ne.symm ne_a1_b)
  have Z90 : n0 ≤ h81.size := Nat.le_trans Z80 (Keep.of_wr W81).1
  have K90 : Keep h0 h81 [a1] := K80.wr W81 (Or.inl (List.mem_of_getElem? (i := 0) rfl))
  have N90 := Fr.snoc X81 N0 ge1
  refine own_by st81 ?_
  show own_R p.tables e below _ (T81.setTop (mkF m 11 #[.val (.ref a1), .val (.int (Int32.ofNat N)), .val (.int (Int32.ofNat M)), .val (.ref a4), .val (.ref a5), .val (.ref a6), .unset, .unset] []))
  refine own_by (fun _ kZ => XS.iconst X81.here hx rfl (hb hby d1_11) kZ) ?_
  show own_R p.tables e below _ (T81.setTop (mkF m 12 #[.val (.ref a1), .val (.int (Int32.ofNat N)), .val (.int (Int32.ofNat M)), .val (.ref a4), .val (.ref a5), .val (.ref a6), .unset, .unset] [(.int (0 : Int32))]))
  refine own_by (fun _ kZ => XS.istore X81.here hx rfl (hb hby d1_12) rfl (l' := #[.val (.ref a1), .val (.int (Int32.ofNat N)), .val (.int (Int32.ofNat M)), .val (.ref a4), .val (.ref a5), .val (.ref a6), .val (.int (0 : Int32)), .unset]) rfl kZ) ?_
  show own_R p.tables e below _ (T81.setTop (mkF m 14 #[.val (.ref a1), .val (.int (Int32.ofNat N)), .val (.int (Int32.ofNat M)), .val (.ref a4), .val (.ref a5), .val (.ref a6), .val (.int (0 : Int32)), .unset] []))
  show own_R p.tables e below _ (T81.setTop (mkF m 14 #[.val (.ref a1), .val (.int (Int32.ofNat N)), .val (.int (Int32.ofNat M)), .val (.ref a4), .val (.ref a5), .val (.ref a6), .val (.int (Int32.ofNat 0)), .unset] []))
  show own_R p.tables e below _ (T81.setTop (mkF m 14 #[.val (.ref a1), .val (.int (Int32.ofNat N)), .val (.int (Int32.ofNat M)), .val (.ref a4), .val (.ref a5), .val (.ref a6), .val (.int (Int32.ofNat 0)), .unset] []))
  have V91 : own_K .int Z h81 b .int N (own_g1 Fn 0) := f89_b
  refine lp1 hx hZ hw hby hml hown a1 a4 a5 a6 b M N Fn gf gt gw hM hN hF hgf ge1 ge_b sz_b ne_a1_b ne_a4_b ne_a5_b ne_a6_b M 0 (by omega) X81 e81 N90 Z90 K90 f82_a1 f83_a1 f84_a1 f85_a1 f86_a4 f87_a5 f88_a6 V91 ?_
  intro T92 L92 h92  X92 e92 N92 Z92 K92 Ex_92 Ffa_92 Fh_92 Fw_92 Vf_92 Vt_92 Vw_92 Vb_92
  show own_R p.tables e below _ (T92.setTop (mkF m 41 #[.val (.ref a1), .val (.int (Int32.ofNat N)), .val (.int (Int32.ofNat M)), .val (.ref a4), .val (.ref a5), .val (.ref a6), .val (.int (Int32.ofNat M)), .unset] []))
  refine own_by (fun _ kZ => XS.iconst X92.here hx rfl (hb hby d1_41) kZ) ?_
  show own_R p.tables e below _ (T92.setTop (mkF m 42 #[.val (.ref a1), .val (.int (Int32.ofNat N)), .val (.int (Int32.ofNat M)), .val (.ref a4), .val (.ref a5), .val (.ref a6), .val (.int (Int32.ofNat M)), .unset] [(.int (1 : Int32))]))
  refine own_by (fun _ kZ => XS.istore X92.here hx rfl (hb hby d1_42) rfl (l' := #[.val (.ref a1), .val (.int (Int32.ofNat N)), .val (.int (Int32.ofNat M)), .val (.ref a4), .val (.ref a5), .val (.ref a6), .val (.int (1 : Int32)), .unset]) rfl kZ) ?_
  show own_R p.tables e below _ (T92.setTop (mkF m 44 #[.val (.ref a1), .val (.int (Int32.ofNat N)), .val (.int (Int32.ofNat M)), .val (.ref a4), .val (.ref a5), .val (.ref a6), .val (.int (1 : Int32)), .unset] []))
  show own_R p.tables e below _ (T92.setTop (mkF m 44 #[.val (.ref a1), .val (.int (Int32.ofNat N)), .val (.int (Int32.ofNat M)), .val (.ref a4), .val (.ref a5), .val (.ref a6), .val (.int (Int32.ofNat (0 + 1))), .unset] []))
  have V93 : own_K .int Z h92 b .int N (own_g2 Fn M (0 + 1)) := (own_g21 Fn M) ▸ Vb_92
  refine lp2 hx hZ hw hby hml hown a1 a4 a5 a6 b M N Fn gf gt gw hM hN hF hgf ge1 ge_b sz_b ne_a1_b ne_a4_b ne_a5_b ne_a6_b (N - 1) 0 (by omega) X92 e92 N92 Z92 K92 Ex_92 Ffa_92 Fh_92 Fw_92 Vf_92 Vt_92 Vw_92 V93 ?_
  intro T94 L94 h94  X94 e94 N94 Z94 K94 Ex_94 Ffa_94 Fh_94 Fw_94 Vf_94 Vt_94 Vw_94 Vb_94
  show own_R p.tables e below _ (T94.setTop (mkF m 75 #[.val (.ref a1), .val (.int (Int32.ofNat N)), .val (.int (Int32.ofNat M)), .val (.ref a4), .val (.ref a5), .val (.ref a6), .val (.int (Int32.ofNat N)), .unset] []))
  have V95 : own_K .int Z h94 b .int N (own_g3 Fn M M) := Vb_94.eq (fun j hj => own_g32 Fn M N j hj)
  refine own_by (fun _ kZ => XS.aloadN X94.here hx rfl (hb hby d1_75) rfl rfl kZ) ?_
  show own_R p.tables e below _ (T94.setTop (mkF m 76 #[.val (.ref a1), .val (.int (Int32.ofNat N)), .val (.int (Int32.ofNat M)), .val (.ref a4), .val (.ref a5), .val (.ref a6), .val (.int (Int32.ofNat N)), .unset] [(.ref a1)]))
  refine own_by (fun _ kZ => XS.iloadN X94.here hx rfl (hb hby d1_76) rfl kZ) ?_
  show own_R p.tables e below _ (T94.setTop (mkF m 77 #[.val (.ref a1), .val (.int (Int32.ofNat N)), .val (.int (Int32.ofNat M)), .val (.ref a4), .val (.ref a5), .val (.ref a6), .val (.int (Int32.ofNat N)), .unset] [(.int (Int32.ofNat M)), (.ref a1)]))
  obtain ⟨T96, h96, k96, X96, e96, E96, A96, st96⟩ := newP X94 hx hZ (hw _ (List.mem_of_getElem? (i := 1) rfl)) e94 (g := (mkF m 77 #[.val (.ref a1), .val (.int (Int32.ofNat N)), .val (.int (Int32.ofNat M)), .val (.ref a4), .val (.ref a5), .val (.ref a6), .val (.int (Int32.ofNat N)), .unset] [(.int (Int32.ofNat M)), (.ref a1)])) rfl (hb hby d1_77) rfl (own_nn (by omega)) (cap := 4) (by rw [own_clamp (by omega)]; exact hM) (by decide) (by decide) (by decide)
  obtain ⟨cc, g96⟩ : ∃ z, z = h94.size := ⟨_, rfl⟩
  have ne_a1_cc : a1 ≠ cc := Nat.ne_of_lt (Nat.lt_of_lt_of_le Ex_94.lt (Nat.le_of_eq g96.symm))
  have ne_a4_cc : a4 ≠ cc := Nat.ne_of_lt (Nat.lt_of_lt_of_le Vf_94.lt (Nat.le_of_eq g96.symm))
  have ne_a5_cc : a5 ≠ cc := Nat.ne_of_lt (Nat.lt_of_lt_of_le Vt_94.lt (Nat.le_of_eq g96.symm))
  have ne_a6_cc : a6 ≠ cc := Nat.ne_of_lt (Nat.lt_of_lt_of_le Vw_94.lt (Nat.le_of_eq g96.symm))
  have ne_b_cc : b ≠ cc := Nat.ne_of_lt (Nat.lt_of_lt_of_le V95.lt (Nat.le_of_eq g96.symm))
  have ge_cc : n0 ≤ cc := Nat.le_trans Z94 (Nat.le_of_eq g96.symm)
  have sz_cc : h0.size ≤ cc := Nat.le_trans K94.1 (Nat.le_of_eq g96.symm)
  rw [← g96] at A96 st96
  have f97_a1 : Exa Z h96 a1 "com/example/bucket/bucket/graph/Graph" := Ex_94.ext E96
  have f98_a1 : Fld Z h96 a1 "com/example/bucket/bucket/graph/Graph" "m_firstArc" "[I" (.ref b) := Ffa_94.ext E96
  have f99_a1 : Fld Z h96 a1 "com/example/bucket/bucket/graph/Graph" "m_head" "[I" .null := Fh_94.ext E96
  have f100_a1 : Fld Z h96 a1 "com/example/bucket/bucket/graph/Graph" "m_weight" "[I" .null := Fw_94.ext E96
  have f101_a4 : own_K .int Z h96 a4 .int 4 gf := Vf_94.ext E96
  have f102_a5 : own_K .int Z h96 a5 .int 4 gt := Vt_94.ext E96
  have f103_a6 : own_K .int Z h96 a6 .int 4 gw := Vw_94.ext E96
  have f104_b : own_K .int Z h96 b .int N (own_g3 Fn M M) := V95.ext E96
  have Z105 : n0 ≤ h96.size := Nat.le_trans Z94 E96.1
  have K105 : Keep h0 h96 [a1] := K94.ext E96
  have V96 : own_K .int Z h96 cc .int M (fun _ => (0 : Int32)) := own_K.new A96 (own_nn (by omega)) (own_clamp (by omega)) rfl
  refine own_by st96 ?_
  show own_R p.tables e below _ (T96.setTop (mkF m 79 #[.val (.ref a1), .val (.int (Int32.ofNat N)), .val (.int (Int32.ofNat M)), .val (.ref a4), .val (.ref a5), .val (.ref a6), .val (.int (Int32.ofNat N)), .unset] [(.ref cc), (.ref a1)]))
  obtain ⟨T106, h106, X106, e106, W106, st106⟩ := putF X96 hx hZ hown (host := "") (Or.inl (hw _ (List.mem_of_getElem? (i := 13) rfl))) Via.refl e96 f99_a1 f97_a1 (Or.inr ⟨(hw _ (List.mem_of_getElem? (i := 14) rfl)), rfl, hnm⟩) (hw _ (List.mem_of_getElem? (i := 3) rfl)) (ty := (.array .int)) (by decide) rfl rfl (g := (mkF m 79 #[.val (.ref a1), .val (.int (Int32.ofNat N)), .val (.int (Int32.ofNat M)), .val (.ref a4), .val (.ref a5), .val (.ref a6), .val (.int (Int32.ofNat N)), .unset] [(.ref cc), (.ref a1)])) rfl rfl (hb hby d1_79)
  have f107_a1 : Exa Z h106 a1 "com/example/bucket/bucket/graph/Graph" := f97_a1.wr W106
  have f108_a1 : Fld Z h106 a1 "com/example/bucket/bucket/graph/Graph" "m_firstArc" "[I" (.ref b) := f98_a1.other W106 (Or.inr (slot_ne (Or.inr (hw _ (List.mem_of_getElem? (i := 12) rfl))) (Or.inr (hw _ (List.mem_of_getElem? (i := 14) rfl))) (by decide) (t := (.array .int)) (t' := (.array .int)) (by decide) (by decide)))
  have f109_a1 : Fld Z h106 a1 "com/example/bucket/bucket/graph/Graph" "m_head" "[I" (.ref cc) := f99_a1.same W106
  have f110_a1 : Fld Z h106 a1 "com/example/bucket/bucket/graph/Graph" "m_weight" "[I" .null := f100_a1.other W106 (Or.inr (slot_ne (Or.inr (hw _ (List.mem_of_getElem? (i := 16) rfl))) (Or.inr (hw _ (List.mem_of_getElem? (i := 14) rfl))) (by decide) (t := (.array .int)) (t' := (.array .int)) (by decide) (by decide)))
  have f111_a4 : own_K .int Z h106 a4 .int 4 gf := f101_a4.other W106 n41
  have f112_a5 : own_K .int Z h106 a5 .int 4 gt := f102_a5.other W106 n51
  have f113_a6 : own_K .int Z h106 a6 .int 4 gw := f103_a6.other W106 n61
  have f114_b : own_K .int Z h106 b .int N (own_g3 Fn M M) := f104_b.other W106 (Ne.symm ne_a1_b)
  have f115_cc : own_K .int Z h106 cc .int M (fun _ => (0 : Int32)) := V96.other W106 (Ne.symm ne_a1_cc)
  have Z116 : n0 ≤ h106.size := Nat.le_trans Z105 (Keep.of_wr W106).1
  have K116 : Keep h0 h106 [a1] := K105.wr W106 (Or.inl (List.mem_of_getElem? (i := 0) rfl))
  have N116 := Fr.snoc X106 N94 ge1
  refine own_by st106 ?_
  show own_R p.tables e below _ (T106.setTop (mkF m 82 #[.val (.ref a1), .val (.int (Int32.ofNat N)), .val (.int (Int32.ofNat M)), .val (.ref a4), .val (.ref a5), .val (.ref a6), .val (.int (Int32.ofNat N)), .unset] []))
  refine own_by (fun _ kZ => XS.aloadN X106.here hx rfl (hb hby d1_82) rfl rfl kZ) ?_
  show own_R p.tables e below _ (T106.setTop (mkF m 83 #[.val (.ref a1), .val (.int (Int32.ofNat N)), .val (.int (Int32.ofNat M)), .val (.ref a4), .val (.ref a5), .val (.ref a6), .val (.int (Int32.ofNat N)), .unset] [(.ref a1)]))
  refine own_by (fun _ kZ => XS.iloadN X106.here hx rfl (hb hby d1_83) rfl kZ) ?_
  show own_R p.tables e below _ (T106.setTop (mkF m 84 #[.val (.ref a1), .val (.int (Int32.ofNat N)), .val (.int (Int32.ofNat M)), .val (.ref a4), .val (.ref a5), .val (.ref a6), .val (.int (Int32.ofNat N)), .unset] [(.int (Int32.ofNat M)), (.ref a1)]))
  obtain ⟨T117, h117, k117, X117, e117, E117, A117, st117⟩ := newP X106 hx hZ (hw _ (List.mem_of_getElem? (i := 1) rfl)) e106 (g := (mkF m 84 #[.val (.ref a1), .val (.int (Int32.ofNat N)), .val (.int (Int32.ofNat M)), .val (.ref a4), .val (.ref a5), .val (.ref a6), .val (.int (Int32.ofNat N)), .unset] [(.int (Int32.ofNat M)), (.ref a1)])) rfl (hb hby d1_84) rfl (own_nn (by omega)) (cap := 4) (by rw [own_clamp (by omega)]; exact hM) (by decide) (by decide) (by decide)
  obtain ⟨dd, g117⟩ : ∃ z, z = h106.size := ⟨_, rfl⟩
  have ne_a1_dd : a1 ≠ dd := Nat.ne_of_lt (Nat.lt_of_lt_of_le f107_a1.lt (Nat.le_of_eq g117.symm))
  have ne_a4_dd : a4 ≠ dd := Nat.ne_of_lt (Nat.lt_of_lt_of_le f111_a4.lt (Nat.le_of_eq g117.symm))
  have ne_a5_dd : a5 ≠ dd := Nat.ne_of_lt (Nat.lt_of_lt_of_le f112_a5.lt (Nat.le_of_eq g117.symm))
  have ne_a6_dd : a6 ≠ dd := Nat.ne_of_lt (Nat.lt_of_lt_of_le f113_a6.lt (Nat.le_of_eq g117.symm))
  have ne_b_dd : b ≠ dd := Nat.ne_of_lt (Nat.lt_of_lt_of_le f114_b.lt (Nat.le_of_eq g117.symm))
  have ne_cc_dd : cc ≠ dd := Nat.ne_of_lt (Nat.lt_of_lt_of_le f115_cc.lt (Nat.le_of_eq g117.symm))
  have ge_dd : n0 ≤ dd := Nat.le_trans Z116 (Nat.le_of_eq g117.symm)
  have sz_dd : h0.size ≤ dd := Nat.le_trans K116.1 (Nat.le_of_eq g117.symm)
  rw [← g117] at A117 st117
  have f118_a1 : Exa Z h117 a1 "com/example/bucket/bucket/graph/Graph" := f107_a1.ext E117
  have f119_a1 : Fld Z h117 a1 "com/example/bucket/bucket/graph/Graph" "m_firstArc" "[I" (.ref b) := f108_a1.ext E117
  have f120_a1 : Fld Z h117 a1 "com/example/bucket/bucket/graph/Graph" "m_head" "[I" (.ref cc) := f109_a1.ext E117
  have f121_a1 : Fld Z h117 a1 "com/example/bucket/bucket/graph/Graph" "m_weight" "[I" .null := f110_a1.ext E117
  have f122_a4 : own_K .int Z h117 a4 .int 4 gf := f111_a4.ext E117
  have f123_a5 : own_K .int Z h117 a5 .int 4 gt := f112_a5.ext E117
  have f124_a6 : own_K .int Z h117 a6 .int 4 gw := f113_a6.ext E117
  have f125_b : own_K .int Z h117 b .int N (own_g3 Fn M M) := f114_b.ext E117
  have f126_cc : own_K .int Z h117 cc .int M (fun _ => (0 : Int32)) := f115_cc.ext E117
  have Z127 : n0 ≤ h117.size := Nat.le_trans Z116 E117.1
  have K127 : Keep h0 h117 [a1] := K116.ext E117
  have V117 : own_K .int Z h117 dd .int M (fun _ => (0 : Int32)) := own_K.new A117 (own_nn (by omega)) (own_clamp (by omega)) rfl
  refine own_by st117 ?_
  show own_R p.tables e below _ (T117.setTop (mkF m 86 #[.val (.ref a1), .val (.int (Int32.ofNat N)), .val (.int (Int32.ofNat M)), .val (.ref a4), .val (.ref a5), .val (.ref a6), .val (.int (Int32.ofNat N)), .unset] [(.ref dd), (.ref a1)]))
  obtain ⟨T128, h128, X128, e128, W128, st128⟩ := putF X117 hx hZ hown (host := "") (Or.inl (hw _ (List.mem_of_getElem? (i := 15) rfl))) Via.refl e117 f121_a1 f118_a1 (Or.inr ⟨(hw _ (List.mem_of_getElem? (i := 16) rfl)), rfl, hnm⟩) (hw _ (List.mem_of_getElem? (i := 3) rfl)) (ty := (.array .int)) (by decide) rfl rfl (g := (mkF m 86 #[.val (.ref a1), .val (.int (Int32.ofNat N)), .val (.int (Int32.ofNat M)), .val (.ref a4), .val (.ref a5), .val (.ref a6), .val (.int (Int32.ofNat N)), .unset] [(.ref dd), (.ref a1)])) rfl rfl (hb hby d1_86)
  have f129_a1 : Exa Z h128 a1 "com/example/bucket/bucket/graph/Graph" := f118_a1.wr W128
  have f130_a1 : Fld Z h128 a1 "com/example/bucket/bucket/graph/Graph" "m_firstArc" "[I" (.ref b) := f119_a1.other W128 (Or.inr (slot_ne (Or.inr (hw _ (List.mem_of_getElem? (i := 12) rfl))) (Or.inr (hw _ (List.mem_of_getElem? (i := 16) rfl))) (by decide) (t := (.array .int)) (t' := (.array .int)) (by decide) (by decide)))
  have f131_a1 : Fld Z h128 a1 "com/example/bucket/bucket/graph/Graph" "m_head" "[I" (.ref cc) := f120_a1.other W128 (Or.inr (slot_ne (Or.inr (hw _ (List.mem_of_getElem? (i := 14) rfl))) (Or.inr (hw _ (List.mem_of_getElem? (i := 16) rfl))) (by decide) (t := (.array .int)) (t' := (.array .int)) (by decide) (by decide)))
  have f132_a1 : Fld Z h128 a1 "com/example/bucket/bucket/graph/Graph" "m_weight" "[I" (.ref dd) := f121_a1.same W128
  have f133_a4 : own_K .int Z h128 a4 .int 4 gf := f122_a4.other W128 n41
  have f134_a5 : own_K .int Z h128 a5 .int 4 gt := f123_a5.other W128 n51
  have f135_a6 : own_K .int Z h128 a6 .int 4 gw := f124_a6.other W128 n61
  have f136_b : own_K .int Z h128 b .int N (own_g3 Fn M M) := f125_b.other W128 (Ne.symm ne_a1_b)
  have f137_cc : own_K .int Z h128 cc .int M (fun _ => (0 : Int32)) := f126_cc.other W128 (Ne.symm ne_a1_cc)
  have f138_dd : own_K .int Z h128 dd .int M (fun _ => (0 : Int32)) := V117.other W128 (Ne.symm ne_a1_dd)
  have Z139 : n0 ≤ h128.size := Nat.le_trans Z127 (Keep.of_wr W128).1
  have K139 : Keep h0 h128 [a1] := K127.wr W128 (Or.inl (List.mem_of_getElem? (i := 0) rfl))
  have N139 := Fr.snoc X128 N116 ge1
  refine own_by st128 ?_
  show own_R p.tables e below _ (T128.setTop (mkF m 89 #[.val (.ref a1), .val (.int (Int32.ofNat N)), .val (.int (Int32.ofNat M)), .val (.ref a4), .val (.ref a5), .val (.ref a6), .val (.int (Int32.ofNat N)), .unset] []))
  refine own_by (fun _ kZ => XS.iloadN X128.here hx rfl (hb hby d1_89) rfl kZ) ?_
  show own_R p.tables e below _ (T128.setTop (mkF m 90 #[.val (.ref a1), .val (.int (Int32.ofNat N)), .val (.int (Int32.ofNat M)), .val (.ref a4), .val (.ref a5), .val (.ref a6), .val (.int (Int32.ofNat N)), .unset] [(.int (Int32.ofNat M))]))
  refine own_by (fun _ kZ => XS.iconst X128.here hx rfl (hb hby d1_90) kZ) ?_
  show own_R p.tables e below _ (T128.setTop (mkF m 91 #[.val (.ref a1), .val (.int (Int32.ofNat N)), .val (.int (Int32.ofNat M)), .val (.ref a4), .val (.ref a5), .val (.ref a6), .val (.int (Int32.ofNat N)), .unset] [(.int (1 : Int32)), (.int (Int32.ofNat M))]))
  refine own_by (fun _ kZ => XS.isub X128.here hx rfl (hb hby d1_91) rfl kZ) ?_
  show own_R p.tables e below _ (T128.setTop (mkF m 92 #[.val (.ref a1), .val (.int (Int32.ofNat N)), .val (.int (Int32.ofNat M)), .val (.ref a4), .val (.ref a5), .val (.ref a6), .val (.int (Int32.ofNat N)), .unset] [(.int ((Int32.ofNat M) - (1 : Int32)))]))
  refine own_by (fun _ kZ => XS.istore X128.here hx rfl (hb hby d1_92) rfl (l' := #[.val (.ref a1), .val (.int (Int32.ofNat N)), .val (.int (Int32.ofNat M)), .val (.ref a4), .val (.ref a5), .val (.ref a6), .val (.int ((Int32.ofNat M) - (1 : Int32))), .unset]) rfl kZ) ?_
  show own_R p.tables e below _ (T128.setTop (mkF m 94 #[.val (.ref a1), .val (.int (Int32.ofNat N)), .val (.int (Int32.ofNat M)), .val (.ref a4), .val (.ref a5), .val (.ref a6), .val (.int ((Int32.ofNat M) - (1 : Int32))), .unset] []))
  refine lp3 hx hZ hw hby hml hown a1 a4 a5 a6 b M N Fn gf gt gw hM hN hF hgf ge1 ge_b sz_b ne_a1_b ne_a4_b ne_a5_b ne_a6_b cc dd ge_cc ge_dd sz_cc sz_dd ne_a1_cc ne_a1_dd ne_a4_cc ne_a4_dd ne_a5_cc ne_a5_dd ne_a6_cc ne_a6_dd ne_b_cc ne_b_dd ne_cc_dd M _ _ _ (Nat.le_refl M) One.u X128 e128 N139 Z139 K139 f130_a1 f131_a1 f132_a1 f133_a4 f134_a5 f135_a6 f136_b f137_cc f138_dd ?_
  intro T140 L140 h140 gc gd s7 X140 e140 N140 Z140 K140 Ffa_140 Fh_140 Fw_140 Vf_140 Vt_140 Vw_140 Vb_140 Vc_140 Vd_140
  show own_R p.tables e below _ (T140.setTop (mkF m 149 #[.val (.ref a1), .val (.int (Int32.ofNat N)), .val (.int (Int32.ofNat M)), .val (.ref a4), .val (.ref a5), .val (.ref a6), .val (.int (-1 : Int32)), s7] []))
  obtain ⟨fs, hr, hrun, hended, hW, hsame⟩ := X140.leave (v := none) (fun _ => rfl)
  refine own_end ⟨_, _, ?_, hrun, hended, _, _, rfl, ?_, ⟨_, rfl⟩, hW, hsame.mono (by decide) (by decide)⟩
  · exact X140.returnOut hx Bd.returns (hb hby d1_149) hr
  · show Q1 Z a1 (Int32.ofNat N) (Int32.ofNat M) a4 a5 a6 M N Fn gf gt gw h0 n0 _ T140.heap _
    rw [e140]
    exact ⟨rfl, N140, K140, b, cc, gc, Ffa_140, Fh_140, Vb_140, Vc_140⟩
theorem ef_3 (m : MethodId) (p1 : Int32) (p2 : Int32) (p3 : Int32) (p4 : Int32) : entryFrame m #[(.int p1), (.int p2), (.int p3), (.int p4)] 4 = mkF m 0 #[.val (.int p1), .val (.int p2), .val (.int p3), .val (.int p4)] [] := by first | (simp [entryFrame, mkF, argsToLocals, Value.category]; done) | rfl
def Q3 (Z : State) (p1 : Int32) (p2 : Int32) (p3 : Int32) (p4 : Int32)  (h0 : Heap) (n0 : Nat) (v : Option Value) (h : Heap) (L : List Loc) : Prop := v = some (.int (own_c p1 p2 p3 p4)) ∧ Fr n0 L ∧ h = h0
set_option maxRecDepth 65536 in
set_option maxHeartbeats 40000000 in
theorem rm3 (l : Launch) (Z : State) (a0 : Array Value) (hw : ∀ d ∈ tables_1, d.before a0 Z = true) (ws : List Jvm.Cond) (p1 : Int32) (p2 : Int32) (p3 : Int32) (p4 : Int32)  (h0 : Heap) (n0 : Nat) (Z0 : n0 ≤ h0.size)  :
    MetFree l (⟨"com/example/bucket/bucket/graph/GraphEndArcPinLaw", "c", "(IIII)I"⟩ : MethodName) (head1 (Jvm.Cond.code (⟨"com/example/bucket/bucket/graph/GraphEndArcPinLaw", "c", "(IIII)I"⟩ : MethodName) method_3_code 4 (some .int) :: ws) ({ frames := 0, cells := 0, slots := 0, locals := 0 } : Room)) (fun a U => a = #[(.int p1), (.int p2), (.int p3), (.int p4)] ∧ Z.Warmed39 U.vm ∧ U.heap = h0) (fun _ _ _ _ _ => True) (fun _ U o U' => ∃ v L, o = .returned v ∧ Q3 Z p1 p2 p3 p4 h0 n0 v U'.heap L ∧ FrameEnd U o U' L ({ frames := 0, cells := 0, slots := 0, locals := 0 } : Room).cells ({ frames := 0, cells := 0, slots := 0, locals := 0 } : Room).slots) := by
  refine MetFree.of_bodySF (plainFor_of_name pn_3) hisR ?_
  intro p e s m args below meth cd s₁ Bd hml0 hP hK
  obtain ⟨rfl, hZ, hh⟩ := hP
  have hx := Bd.exec
  have hby := Bd.bytes
  have hml : cd.maxLocals = 4 := hml0
  have hown : s.vm.findClass "com/example/bucket/bucket/graph/GraphEndArcPinLaw" = some m.cls := findClass_of_methodNamed Bd.named
  have hnm := (name_of_methodNamed Bd.named Bd.method).1
  have X0 : Stand p l e ({ frames := 0, cells := 0, slots := 0, locals := 0 } : Room) s m #[(.int p1), (.int p2), (.int p3), (.int p4)] below meth cd s₁ [] 0 0 := Stand.of_body Bd
  have e0 : s₁.heap = h0 := by rw [← hh, Bd.state]; rfl
  have N0 := Fr.nil n0
  show own_R p.tables e below _ (s₁.setTop (entryFrame m #[(.int p1), (.int p2), (.int p3), (.int p4)] 4))
  refine own_by (fun t kZ => castTop (ef_3 m p1 p2 p3 p4) kZ) ?_
  show own_R p.tables e below _ (s₁.setTop (mkF m 0 #[.val (.int p1), .val (.int p2), .val (.int p3), .val (.int p4)] []))
  refine own_by (fun _ kZ => XS.iloadN X0.here hx rfl (hb hby d3_0) rfl kZ) ?_
  show own_R p.tables e below _ (s₁.setTop (mkF m 1 #[.val (.int p1), .val (.int p2), .val (.int p3), .val (.int p4)] [(.int p1)]))
  refine own_by (fun _ kZ => XS.iloadN X0.here hx rfl (hb hby d3_1) rfl kZ) ?_
  show own_R p.tables e below _ (s₁.setTop (mkF m 2 #[.val (.int p1), .val (.int p2), .val (.int p3), .val (.int p4)] [(.int p2), (.int p1)]))
  obtain ⟨r, h_r⟩ : ∃ z : Int32, z = (if p1 < p2 then (if p4 < p3 then (0 : Int32) else (1 : Int32)) else (0 : Int32)) := ⟨_, rfl⟩
  refine own_by (S' := s₁.setTop (mkF m 15 #[.val (.int p1), .val (.int p2), .val (.int p3), .val (.int p4)] [(.int r)])) (fun _ kZ => ?_) ?_
  · skip
    show Steps p.tables e below (s₁.setTop (mkF m 2 #[.val (.int p1), .val (.int p2), .val (.int p3), .val (.int p4)] [(.int p2), (.int p1)])) _
    by_cases hd2 : p1 < p2
    · skip
      refine XS.icmpNo X0.here hx rfl (hb hby d3_2) rfl (tlt hd2).2.1 ?_
      show Steps p.tables e below (s₁.setTop (mkF m 5 #[.val (.int p1), .val (.int p2), .val (.int p3), .val (.int p4)] [])) _
      refine XS.iloadN X0.here hx rfl (hb hby d3_5) rfl ?_
      show Steps p.tables e below (s₁.setTop (mkF m 6 #[.val (.int p1), .val (.int p2), .val (.int p3), .val (.int p4)] [(.int p3)])) _
      refine XS.iloadN X0.here hx rfl (hb hby d3_6) rfl ?_
      show Steps p.tables e below (s₁.setTop (mkF m 7 #[.val (.int p1), .val (.int p2), .val (.int p3), .val (.int p4)] [(.int p4), (.int p3)])) _
      by_cases hd7 : p4 < p3
      · skip
        refine XS.icmpYes X0.here hx rfl (pc0 := 7) (pc' := 14) rfl (hb hby d3_7) rfl (tlt hd7).2.2.1 (by decide) (by decide) ?_
        show Steps p.tables e below (s₁.setTop (mkF m 14 #[.val (.int p1), .val (.int p2), .val (.int p3), .val (.int p4)] [])) _
        refine XS.iconst X0.here hx rfl (hb hby d3_14) ?_
        show Steps p.tables e below (s₁.setTop (mkF m 15 #[.val (.int p1), .val (.int p2), .val (.int p3), .val (.int p4)] [(.int (0 : Int32))])) _
        rw [if_pos hd2, if_pos hd7] at h_r
        subst h_r
        exact kZ
      · skip
        refine XS.icmpNo X0.here hx rfl (hb hby d3_7) rfl (flt hd7).2.2.1 ?_
        show Steps p.tables e below (s₁.setTop (mkF m 10 #[.val (.int p1), .val (.int p2), .val (.int p3), .val (.int p4)] [])) _
        refine XS.iconst X0.here hx rfl (hb hby d3_10) ?_
        show Steps p.tables e below (s₁.setTop (mkF m 11 #[.val (.int p1), .val (.int p2), .val (.int p3), .val (.int p4)] [(.int (1 : Int32))])) _
        refine XS.goto X0.here hx rfl (pc0 := 11) (pc' := 15) rfl (hb hby d3_11) (by decide) (by decide) ?_
        show Steps p.tables e below (s₁.setTop (mkF m 15 #[.val (.int p1), .val (.int p2), .val (.int p3), .val (.int p4)] [(.int (1 : Int32))])) _
        rw [if_pos hd2, if_neg hd7] at h_r
        subst h_r
        exact kZ
    · skip
      refine XS.icmpYes X0.here hx rfl (pc0 := 2) (pc' := 14) rfl (hb hby d3_2) rfl (flt hd2).2.1 (by decide) (by decide) ?_
      show Steps p.tables e below (s₁.setTop (mkF m 14 #[.val (.int p1), .val (.int p2), .val (.int p3), .val (.int p4)] [])) _
      refine XS.iconst X0.here hx rfl (hb hby d3_14) ?_
      show Steps p.tables e below (s₁.setTop (mkF m 15 #[.val (.int p1), .val (.int p2), .val (.int p3), .val (.int p4)] [(.int (0 : Int32))])) _
      rw [if_neg hd2] at h_r
      subst h_r
      exact kZ
  show own_R p.tables e below _ (s₁.setTop (mkF m 15 #[.val (.int p1), .val (.int p2), .val (.int p3), .val (.int p4)] [(.int r)]))
  obtain ⟨fs, hr, hrun, hended, hW, hsame⟩ := X0.leave (v := some (.int r)) (fun h => by rw [Bd.returns] at h; cases h)
  refine own_end ⟨_, _, ?_, hrun, hended, _, _, rfl, ?_, ⟨_, rfl⟩, hW, hsame.mono (by decide) (by decide)⟩
  · exact own_retI X0 hx Bd.returns (hb hby d3_15) hr
  · show Q3 Z p1 p2 p3 p4 h0 n0 _ s₁.heap _
    rw [e0]
    exact ⟨by rw [h_r]; rfl, N0, rfl⟩
theorem ef_4 (m : MethodId) (a1 : Addr) (p2 : Int32) : entryFrame m #[(.ref a1), (.int p2)] 2 = mkF m 0 #[.val (.ref a1), .val (.int p2)] [] := by first | (simp [entryFrame, mkF, argsToLocals, Value.category]; done) | rfl
def Q4 (Z : State) (a1 : Addr) (p2 : Int32) (b cc : Addr) (N M : Nat) (gb gc : Nat → Int32) (I : Nat) (h0 : Heap) (n0 : Nat) (v : Option Value) (h : Heap) (L : List Loc) : Prop := v = some (.int (own_ea p2 N M gb)) ∧ Fr n0 L ∧ h = h0
set_option maxRecDepth 65536 in
set_option maxHeartbeats 40000000 in
theorem rm4 (l : Launch) (Z : State) (a0 : Array Value) (hw : ∀ d ∈ tables_1, d.before a0 Z = true) (ws : List Jvm.Cond) (a1 : Addr) (p2 : Int32) (b cc : Addr) (N M : Nat) (gb gc : Nat → Int32) (I : Nat) (h0 : Heap) (n0 : Nat) (Z0 : n0 ≤ h0.size) (hp2 : p2 = Int32.ofNat I) (hI : I < N) (hN : N ≤ 4) (Ffa : Fld Z h0 a1 "com/example/bucket/bucket/graph/Graph" "m_firstArc" "[I" (.ref b)) (Fh : Fld Z h0 a1 "com/example/bucket/bucket/graph/Graph" "m_head" "[I" (.ref cc)) (Vb : own_K .int Z h0 b .int N gb) (Vc : own_K .int Z h0 cc .int M gc) :
    MetFree l (⟨"com/example/bucket/bucket/graph/Graph", "endArc", "(I)I"⟩ : MethodName) (head1 (Jvm.Cond.code (⟨"com/example/bucket/bucket/graph/Graph", "endArc", "(I)I"⟩ : MethodName) prog_59_method_5_code 2 (some .int) :: ws) ({ frames := 0, cells := 0, slots := 0, locals := 0 } : Room)) (fun a U => a = #[(.ref a1), (.int p2)] ∧ Z.Warmed39 U.vm ∧ U.heap = h0) (fun _ _ _ _ _ => True) (fun _ U o U' => ∃ v L, o = .returned v ∧ Q4 Z a1 p2 b cc N M gb gc I h0 n0 v U'.heap L ∧ FrameEnd U o U' L ({ frames := 0, cells := 0, slots := 0, locals := 0 } : Room).cells ({ frames := 0, cells := 0, slots := 0, locals := 0 } : Room).slots) := by
  refine MetFree.of_bodySF (plainFor_of_name pn_4) hisR ?_
  intro p e s m args below meth cd s₁ Bd hml0 hP hK
  obtain ⟨rfl, hZ, hh⟩ := hP
  have hx := Bd.exec
  have hby := Bd.bytes
  have hml : cd.maxLocals = 2 := hml0
  have hown : s.vm.findClass "com/example/bucket/bucket/graph/Graph" = some m.cls := findClass_of_methodNamed Bd.named
  have hnm := (name_of_methodNamed Bd.named Bd.method).1
  have X0 : Stand p l e ({ frames := 0, cells := 0, slots := 0, locals := 0 } : Room) s m #[(.ref a1), (.int p2)] below meth cd s₁ [] 0 0 := Stand.of_body Bd
  have e0 : s₁.heap = h0 := by rw [← hh, Bd.state]; rfl
  have N0 := Fr.nil n0
  show own_R p.tables e below _ (s₁.setTop (entryFrame m #[(.ref a1), (.int p2)] 2))
  refine own_by (fun t kZ => castTop (ef_4 m a1 p2) kZ) ?_
  show own_R p.tables e below _ (s₁.setTop (mkF m 0 #[.val (.ref a1), .val (.int p2)] []))
  subst hp2
  show own_R p.tables e below _ (s₁.setTop (mkF m 0 #[.val (.ref a1), .val (.int (Int32.ofNat I))] []))
  refine own_by (fun _ kZ => XS.iloadN X0.here hx rfl (hb hby d4_0) rfl kZ) ?_
  show own_R p.tables e below _ (s₁.setTop (mkF m 1 #[.val (.ref a1), .val (.int (Int32.ofNat I))] [(.int (Int32.ofNat I))]))
  refine own_by (fun _ kZ => XS.iconst X0.here hx rfl (hb hby d4_1) kZ) ?_
  show own_R p.tables e below _ (s₁.setTop (mkF m 2 #[.val (.ref a1), .val (.int (Int32.ofNat I))] [(.int (1 : Int32)), (.int (Int32.ofNat I))]))
  refine own_by (fun _ kZ => XS.iadd X0.here hx rfl (hb hby d4_2) rfl kZ) ?_
  show own_R p.tables e below _ (s₁.setTop (mkF m 3 #[.val (.ref a1), .val (.int (Int32.ofNat I))] [(.int ((Int32.ofNat I) + (1 : Int32)))]))
  refine own_by (fun _ kZ => XS.aloadN X0.here hx rfl (hb hby d4_3) rfl rfl kZ) ?_
  show own_R p.tables e below _ (s₁.setTop (mkF m 4 #[.val (.ref a1), .val (.int (Int32.ofNat I))] [(.ref a1), (.int ((Int32.ofNat I) + (1 : Int32)))]))
  obtain ⟨T141, X141, e141, st141⟩ := getF X0 hx hZ hown (host := "") (Or.inl (hw _ (List.mem_of_getElem? (i := 11) rfl))) Via.refl e0 Ffa (g := (mkF m 4 #[.val (.ref a1), .val (.int (Int32.ofNat I))] [(.ref a1), (.int ((Int32.ofNat I) + (1 : Int32)))])) rfl rfl (hb hby d4_4)
  refine own_by st141 ?_
  show own_R p.tables e below _ (T141.setTop (mkF m 7 #[.val (.ref a1), .val (.int (Int32.ofNat I))] [(.ref b), (.int ((Int32.ofNat I) + (1 : Int32)))]))
  obtain ⟨cl142, Ar142, hln142⟩ := Vb.ln
  refine own_by (fun _ kZ => X141.arraylength hx (by rw [e141]; exact Ar142.1) (State.isArrayOf_alike hZ.alike Ar142.2.1) (g := (mkF m 7 #[.val (.ref a1), .val (.int (Int32.ofNat I))] [(.ref b), (.int ((Int32.ofNat I) + (1 : Int32)))])) rfl rfl (hb hby d4_7) _ kZ) ?_
  rw [hln142]
  show own_R p.tables e below _ (T141.setTop (mkF m 8 #[.val (.ref a1), .val (.int (Int32.ofNat I))] [(.int (Int32.ofNat N)), (.int ((Int32.ofNat I) + (1 : Int32)))]))
  rw [show ((Int32.ofNat I) + (1 : Int32)) = (Int32.ofNat (I + 1)) from own_add1 I]
  show own_R p.tables e below _ (T141.setTop (mkF m 8 #[.val (.ref a1), .val (.int (Int32.ofNat I))] [(.int (Int32.ofNat N)), (.int (Int32.ofNat (I + 1)))]))
  by_cases h1 : (Int32.ofNat (I + 1)) < (Int32.ofNat N)
  · skip
    refine own_by (fun _ kZ => XS.icmpNo X141.here hx rfl (hb hby d4_8) rfl (tlt h1).2.1 kZ) ?_
    show own_R p.tables e below _ (T141.setTop (mkF m 11 #[.val (.ref a1), .val (.int (Int32.ofNat I))] []))
    refine own_by (fun _ kZ => XS.aloadN X141.here hx rfl (hb hby d4_11) rfl rfl kZ) ?_
    show own_R p.tables e below _ (T141.setTop (mkF m 12 #[.val (.ref a1), .val (.int (Int32.ofNat I))] [(.ref a1)]))
    obtain ⟨T143, X143, e143, st143⟩ := getF X141 hx hZ hown (host := "") (Or.inl (hw _ (List.mem_of_getElem? (i := 11) rfl))) Via.refl e141 Ffa (g := (mkF m 12 #[.val (.ref a1), .val (.int (Int32.ofNat I))] [(.ref a1)])) rfl rfl (hb hby d4_12)
    refine own_by st143 ?_
    show own_R p.tables e below _ (T143.setTop (mkF m 15 #[.val (.ref a1), .val (.int (Int32.ofNat I))] [(.ref b)]))
    refine own_by (fun _ kZ => XS.iloadN X143.here hx rfl (hb hby d4_15) rfl kZ) ?_
    show own_R p.tables e below _ (T143.setTop (mkF m 16 #[.val (.ref a1), .val (.int (Int32.ofNat I))] [(.int (Int32.ofNat I)), (.ref b)]))
    refine own_by (fun _ kZ => XS.iconst X143.here hx rfl (hb hby d4_16) kZ) ?_
    show own_R p.tables e below _ (T143.setTop (mkF m 17 #[.val (.ref a1), .val (.int (Int32.ofNat I))] [(.int (1 : Int32)), (.int (Int32.ofNat I)), (.ref b)]))
    refine own_by (fun _ kZ => XS.iadd X143.here hx rfl (hb hby d4_17) rfl kZ) ?_
    show own_R p.tables e below _ (T143.setTop (mkF m 18 #[.val (.ref a1), .val (.int (Int32.ofNat I))] [(.int ((Int32.ofNat I) + (1 : Int32))), (.ref b)]))
    rw [show ((Int32.ofNat I) + (1 : Int32)) = (Int32.ofNat (I + 1)) from own_add1 I]
    show own_R p.tables e below _ (T143.setTop (mkF m 18 #[.val (.ref a1), .val (.int (Int32.ofNat I))] [(.int (Int32.ofNat (I + 1))), (.ref b)]))
    have h2 : I + 1 < N := (own_ltI (by omega) (by omega)).mp h1
    obtain ⟨cl144, Ar144, hin144, hat144⟩ := Vb.rd (i := (Int32.ofNat (I + 1))) (p := (I + 1)) (own_clamp (by omega)) (own_nn (by omega)) h2
    refine own_by (fun _ kZ => X143.iaload hx (j := (Int32.ofNat (I + 1))) (v := (.int (gb (I + 1)))) (by rw [e143]; exact Ar144.1) (State.isArrayOf_alike hZ.alike Ar144.2.1) Ar144.2.2 hin144 hat144 (g := (mkF m 18 #[.val (.ref a1), .val (.int (Int32.ofNat I))] [(.int (Int32.ofNat (I + 1))), (.ref b)])) rfl rfl (hb hby d4_18) _ kZ) ?_
    show own_R p.tables e below _ (T143.setTop (mkF m 19 #[.val (.ref a1), .val (.int (Int32.ofNat I))] [(.int (gb (I + 1)))]))
    refine own_by (fun _ kZ => XS.goto X143.here hx rfl (pc0 := 19) (pc' := 27) rfl (hb hby d4_19) (by decide) (by decide) kZ) ?_
    show own_R p.tables e below _ (T143.setTop (mkF m 27 #[.val (.ref a1), .val (.int (Int32.ofNat I))] [(.int (gb (I + 1)))]))
    obtain ⟨fs, hr, hrun, hended, hW, hsame⟩ := X143.leave (v := some (.int (gb (I + 1)))) (fun h => by rw [Bd.returns] at h; cases h)
    refine own_end ⟨_, _, ?_, hrun, hended, _, _, rfl, ?_, ⟨_, rfl⟩, hW, hsame.mono (by decide) (by decide)⟩
    · exact own_retI X143 hx Bd.returns (hb hby d4_27) hr
    · show Q4 Z a1 (Int32.ofNat I) b cc N M gb gc I h0 n0 _ T143.heap _
      rw [e143]
      exact ⟨by rw [own_ea1 hI hN h1], N0, rfl⟩
  · skip
    refine own_by (fun _ kZ => XS.icmpYes X141.here hx rfl (pc0 := 8) (pc' := 22) rfl (hb hby d4_8) rfl (flt h1).2.1 (by decide) (by decide) kZ) ?_
    show own_R p.tables e below _ (T141.setTop (mkF m 22 #[.val (.ref a1), .val (.int (Int32.ofNat I))] []))
    refine own_by (fun _ kZ => XS.aloadN X141.here hx rfl (hb hby d4_22) rfl rfl kZ) ?_
    show own_R p.tables e below _ (T141.setTop (mkF m 23 #[.val (.ref a1), .val (.int (Int32.ofNat I))] [(.ref a1)]))
    obtain ⟨T145, X145, e145, st145⟩ := getF X141 hx hZ hown (host := "") (Or.inl (hw _ (List.mem_of_getElem? (i := 13) rfl))) Via.refl e141 Fh (g := (mkF m 23 #[.val (.ref a1), .val (.int (Int32.ofNat I))] [(.ref a1)])) rfl rfl (hb hby d4_23)
    refine own_by st145 ?_
    show own_R p.tables e below _ (T145.setTop (mkF m 26 #[.val (.ref a1), .val (.int (Int32.ofNat I))] [(.ref cc)]))
    obtain ⟨cl146, Ar146, hln146⟩ := Vc.ln
    refine own_by (fun _ kZ => X145.arraylength hx (by rw [e145]; exact Ar146.1) (State.isArrayOf_alike hZ.alike Ar146.2.1) (g := (mkF m 26 #[.val (.ref a1), .val (.int (Int32.ofNat I))] [(.ref cc)])) rfl rfl (hb hby d4_26) _ kZ) ?_
    rw [hln146]
    show own_R p.tables e below _ (T145.setTop (mkF m 27 #[.val (.ref a1), .val (.int (Int32.ofNat I))] [(.int (Int32.ofNat M))]))
    obtain ⟨fs, hr, hrun, hended, hW, hsame⟩ := X145.leave (v := some (.int (Int32.ofNat M))) (fun h => by rw [Bd.returns] at h; cases h)
    refine own_end ⟨_, _, ?_, hrun, hended, _, _, rfl, ?_, ⟨_, rfl⟩, hW, hsame.mono (by decide) (by decide)⟩
    · exact own_retI X145 hx Bd.returns (hb hby d4_27) hr
    · show Q4 Z a1 (Int32.ofNat I) b cc N M gb gc I h0 n0 _ T145.heap _
      rw [e145]
      exact ⟨by rw [own_ea2 hI hN h1], N0, rfl⟩
theorem ef_0 (m : MethodId) (p1 : Int32) (p2 : Int32) (p3 : Int32) (p4 : Int32) (p5 : Int32) (p6 : Int32) : entryFrame m #[(.int p1), (.int p2), (.int p3), (.int p4), (.int p5), (.int p6)] maxLocals = mkF m 0 #[.val (.int p1), .val (.int p2), .val (.int p3), .val (.int p4), .val (.int p5), .val (.int p6), .unset, .unset, .unset, .unset, .unset, .unset, .unset, .unset, .unset] [] := by first | (simp [entryFrame, mkF, argsToLocals, Value.category, maxLocals]; done) | rfl
def Q0 (Z : State) (p1 : Int32) (p2 : Int32) (p3 : Int32) (p4 : Int32) (p5 : Int32) (p6 : Int32)  (h0 : Heap) (n0 : Nat) (v : Option Value) (h : Heap) (L : List Loc) : Prop := v = some (.int 1) ∧ Fr n0 L
set_option maxRecDepth 65536 in
set_option maxHeartbeats 40000000 in
theorem rm0 (l : Launch) (Z : State) (a0 : Array Value) (hw : ∀ d ∈ tables_1, d.before a0 Z = true) (ws : List Jvm.Cond) (p1 : Int32) (p2 : Int32) (p3 : Int32) (p4 : Int32) (p5 : Int32) (p6 : Int32)  (h0 : Heap) (n0 : Nat) (Z0 : n0 ≤ h0.size)  :
    MetFree l x (head1 (Jvm.Cond.code x code maxLocals ret :: ws) room_1) (fun a U => a = #[(.int p1), (.int p2), (.int p3), (.int p4), (.int p5), (.int p6)] ∧ Z.Warmed39 U.vm ∧ U.heap = h0) (fun _ _ _ _ _ => True) (fun _ U o U' => ∃ v L, o = .returned v ∧ Q0 Z p1 p2 p3 p4 p5 p6 h0 n0 v U'.heap L ∧ FrameEnd U o U' L room_1.cells room_1.slots) := by
  refine MetFree.of_bodySF (plainFor_of_name pn_0) hisR ?_
  intro p e s m args below meth cd s₁ Bd hml0 hP hK
  obtain ⟨rfl, hZ, hh⟩ := hP
  have hx := Bd.exec
  have hby := Bd.bytes
  have hml : cd.maxLocals = 15 := hml0
  have hown : s.vm.findClass "com/example/bucket/bucket/graph/GraphEndArcPinLaw" = some m.cls := findClass_of_methodNamed Bd.named
  have hnm := (name_of_methodNamed Bd.named Bd.method).1
  have X0 : Stand p l e room_1 s m #[(.int p1), (.int p2), (.int p3), (.int p4), (.int p5), (.int p6)] below meth cd s₁ [] 0 0 := Stand.of_body Bd
  have e0 : s₁.heap = h0 := by rw [← hh, Bd.state]; rfl
  have N0 := Fr.nil n0
  show own_R p.tables e below _ (s₁.setTop (entryFrame m #[(.int p1), (.int p2), (.int p3), (.int p4), (.int p5), (.int p6)] maxLocals))
  refine own_by (fun t kZ => castTop (ef_0 m p1 p2 p3 p4 p5 p6) kZ) ?_
  show own_R p.tables e below _ (s₁.setTop (mkF m 0 #[.val (.int p1), .val (.int p2), .val (.int p3), .val (.int p4), .val (.int p5), .val (.int p6), .unset, .unset, .unset, .unset, .unset, .unset, .unset, .unset, .unset] []))
  refine own_by (fun _ kZ => XS.iconst X0.here hx rfl (hb hby at_0) kZ) ?_
  show own_R p.tables e below _ (s₁.setTop (mkF m 1 #[.val (.int p1), .val (.int p2), .val (.int p3), .val (.int p4), .val (.int p5), .val (.int p6), .unset, .unset, .unset, .unset, .unset, .unset, .unset, .unset, .unset] [(.int (1 : Int32))]))
  refine own_by (fun _ kZ => XS.iloadN X0.here hx rfl (hb hby at_1) rfl kZ) ?_
  show own_R p.tables e below _ (s₁.setTop (mkF m 2 #[.val (.int p1), .val (.int p2), .val (.int p3), .val (.int p4), .val (.int p5), .val (.int p6), .unset, .unset, .unset, .unset, .unset, .unset, .unset, .unset, .unset] [(.int p1), (.int (1 : Int32))]))
  refine own_by (fun _ kZ => XS.iconst X0.here hx rfl (hb hby at_2) kZ) ?_
  show own_R p.tables e below _ (s₁.setTop (mkF m 3 #[.val (.int p1), .val (.int p2), .val (.int p3), .val (.int p4), .val (.int p5), .val (.int p6), .unset, .unset, .unset, .unset, .unset, .unset, .unset, .unset, .unset] [(.int (3 : Int32)), (.int p1), (.int (1 : Int32))]))
  refine own_by (fun _ kZ => XS.iand X0.here hx rfl (hb hby at_3) rfl kZ) ?_
  show own_R p.tables e below _ (s₁.setTop (mkF m 4 #[.val (.int p1), .val (.int p2), .val (.int p3), .val (.int p4), .val (.int p5), .val (.int p6), .unset, .unset, .unset, .unset, .unset, .unset, .unset, .unset, .unset] [(.int (p1 &&& (3 : Int32))), (.int (1 : Int32))]))
  refine own_by (fun _ kZ => XS.iadd X0.here hx rfl (hb hby at_4) rfl kZ) ?_
  show own_R p.tables e below _ (s₁.setTop (mkF m 5 #[.val (.int p1), .val (.int p2), .val (.int p3), .val (.int p4), .val (.int p5), .val (.int p6), .unset, .unset, .unset, .unset, .unset, .unset, .unset, .unset, .unset] [(.int ((1 : Int32) + (p1 &&& (3 : Int32))))]))
  obtain ⟨N, hN, hN1, hN4⟩ := own_nodes p1
  rw [show ((1 : Int32) + (p1 &&& (3 : Int32))) = (Int32.ofNat N) from hN]
  show own_R p.tables e below _ (s₁.setTop (mkF m 5 #[.val (.int p1), .val (.int p2), .val (.int p3), .val (.int p4), .val (.int p5), .val (.int p6), .unset, .unset, .unset, .unset, .unset, .unset, .unset, .unset, .unset] [(.int (Int32.ofNat N))]))
  refine own_by (fun _ kZ => XS.istore X0.here hx rfl (hb hby at_5) rfl (l' := #[.val (.int p1), .val (.int p2), .val (.int p3), .val (.int p4), .val (.int p5), .val (.int p6), .val (.int (Int32.ofNat N)), .unset, .unset, .unset, .unset, .unset, .unset, .unset, .unset]) rfl kZ) ?_
  show own_R p.tables e below _ (s₁.setTop (mkF m 7 #[.val (.int p1), .val (.int p2), .val (.int p3), .val (.int p4), .val (.int p5), .val (.int p6), .val (.int (Int32.ofNat N)), .unset, .unset, .unset, .unset, .unset, .unset, .unset, .unset] []))
  refine own_by (fun _ kZ => XS.iloadN X0.here hx rfl (hb hby at_7) rfl kZ) ?_
  show own_R p.tables e below _ (s₁.setTop (mkF m 8 #[.val (.int p1), .val (.int p2), .val (.int p3), .val (.int p4), .val (.int p5), .val (.int p6), .val (.int (Int32.ofNat N)), .unset, .unset, .unset, .unset, .unset, .unset, .unset, .unset] [(.int p2)]))
  refine own_by (fun _ kZ => X0.ldcInt hx hown (mvT hZ (hw _ (List.mem_of_getElem? (i := 0) rfl))) (g := (mkF m 8 #[.val (.int p1), .val (.int p2), .val (.int p3), .val (.int p4), .val (.int p5), .val (.int p6), .val (.int (Int32.ofNat N)), .unset, .unset, .unset, .unset, .unset, .unset, .unset, .unset] [(.int p2)])) rfl (hb hby at_8) _ kZ) ?_
  show own_R p.tables e below _ (s₁.setTop (mkF m 10 #[.val (.int p1), .val (.int p2), .val (.int p3), .val (.int p4), .val (.int p5), .val (.int p6), .val (.int (Int32.ofNat N)), .unset, .unset, .unset, .unset, .unset, .unset, .unset, .unset] [(.int (2147483647 : Int32)), (.int p2)]))
  refine own_by (fun _ kZ => XS.iand X0.here hx rfl (hb hby at_10) rfl kZ) ?_
  show own_R p.tables e below _ (s₁.setTop (mkF m 11 #[.val (.int p1), .val (.int p2), .val (.int p3), .val (.int p4), .val (.int p5), .val (.int p6), .val (.int (Int32.ofNat N)), .unset, .unset, .unset, .unset, .unset, .unset, .unset, .unset] [(.int (p2 &&& (2147483647 : Int32)))]))
  refine own_by (fun _ kZ => XS.iconst X0.here hx rfl (hb hby at_11) kZ) ?_
  show own_R p.tables e below _ (s₁.setTop (mkF m 12 #[.val (.int p1), .val (.int p2), .val (.int p3), .val (.int p4), .val (.int p5), .val (.int p6), .val (.int (Int32.ofNat N)), .unset, .unset, .unset, .unset, .unset, .unset, .unset, .unset] [(.int (5 : Int32)), (.int (p2 &&& (2147483647 : Int32)))]))
  refine own_by (fun _ kZ => iremM X0 hx rfl (hb hby at_12) rfl (by decide) kZ) ?_
  show own_R p.tables e below _ (s₁.setTop (mkF m 13 #[.val (.int p1), .val (.int p2), .val (.int p3), .val (.int p4), .val (.int p5), .val (.int p6), .val (.int (Int32.ofNat N)), .unset, .unset, .unset, .unset, .unset, .unset, .unset, .unset] [(.int ((p2 &&& (2147483647 : Int32)) % (5 : Int32)))]))
  obtain ⟨M, hM, hM4⟩ := own_arcs p2
  rw [show ((p2 &&& (2147483647 : Int32)) % (5 : Int32)) = (Int32.ofNat M) from hM]
  show own_R p.tables e below _ (s₁.setTop (mkF m 13 #[.val (.int p1), .val (.int p2), .val (.int p3), .val (.int p4), .val (.int p5), .val (.int p6), .val (.int (Int32.ofNat N)), .unset, .unset, .unset, .unset, .unset, .unset, .unset, .unset] [(.int (Int32.ofNat M))]))
  have hnz : Int32.ofNat N ≠ 0 := own_nz hN1 hN4
  refine own_by (fun _ kZ => XS.istore X0.here hx rfl (hb hby at_13) rfl (l' := #[.val (.int p1), .val (.int p2), .val (.int p3), .val (.int p4), .val (.int p5), .val (.int p6), .val (.int (Int32.ofNat N)), .val (.int (Int32.ofNat M)), .unset, .unset, .unset, .unset, .unset, .unset, .unset]) rfl kZ) ?_
  show own_R p.tables e below _ (s₁.setTop (mkF m 15 #[.val (.int p1), .val (.int p2), .val (.int p3), .val (.int p4), .val (.int p5), .val (.int p6), .val (.int (Int32.ofNat N)), .val (.int (Int32.ofNat M)), .unset, .unset, .unset, .unset, .unset, .unset, .unset] []))
  refine own_by (fun _ kZ => XS.iconst X0.here hx rfl (hb hby at_15) kZ) ?_
  show own_R p.tables e below _ (s₁.setTop (mkF m 16 #[.val (.int p1), .val (.int p2), .val (.int p3), .val (.int p4), .val (.int p5), .val (.int p6), .val (.int (Int32.ofNat N)), .val (.int (Int32.ofNat M)), .unset, .unset, .unset, .unset, .unset, .unset, .unset] [(.int (4 : Int32))]))
  obtain ⟨T147, h147, k147, X147, e147, E147, A147, st147⟩ := newP X0 hx hZ (hw _ (List.mem_of_getElem? (i := 1) rfl)) e0 (g := (mkF m 16 #[.val (.int p1), .val (.int p2), .val (.int p3), .val (.int p4), .val (.int p5), .val (.int p6), .val (.int (Int32.ofNat N)), .val (.int (Int32.ofNat M)), .unset, .unset, .unset, .unset, .unset, .unset, .unset] [(.int (4 : Int32))])) rfl (hb hby at_16) rfl (by decide) (cap := 4) (by decide) (by decide) (by decide) (by decide)
  obtain ⟨bf, g147⟩ : ∃ z, z = h0.size := ⟨_, rfl⟩
  have ge_bf : n0 ≤ bf := Nat.le_trans Z0 (Nat.le_of_eq g147.symm)
  rw [← g147] at A147 st147
  have Z148 : n0 ≤ h147.size := Nat.le_trans Z0 E147.1
  have V147 : own_K .int Z h147 bf .int 4 (fun _ => (0 : Int32)) := own_K.new A147 (by decide) rfl rfl
  refine own_by st147 ?_
  show own_R p.tables e below _ (T147.setTop (mkF m 18 #[.val (.int p1), .val (.int p2), .val (.int p3), .val (.int p4), .val (.int p5), .val (.int p6), .val (.int (Int32.ofNat N)), .val (.int (Int32.ofNat M)), .unset, .unset, .unset, .unset, .unset, .unset, .unset] [(.ref bf)]))
  refine own_by (fun _ kZ => XS.astore X147.here hx rfl (hb hby at_18) rfl rfl (l' := #[.val (.int p1), .val (.int p2), .val (.int p3), .val (.int p4), .val (.int p5), .val (.int p6), .val (.int (Int32.ofNat N)), .val (.int (Int32.ofNat M)), .val (.ref bf), .unset, .unset, .unset, .unset, .unset, .unset]) rfl kZ) ?_
  show own_R p.tables e below _ (T147.setTop (mkF m 20 #[.val (.int p1), .val (.int p2), .val (.int p3), .val (.int p4), .val (.int p5), .val (.int p6), .val (.int (Int32.ofNat N)), .val (.int (Int32.ofNat M)), .val (.ref bf), .unset, .unset, .unset, .unset, .unset, .unset] []))
  refine own_by (fun _ kZ => XS.iconst X147.here hx rfl (hb hby at_20) kZ) ?_
  show own_R p.tables e below _ (T147.setTop (mkF m 21 #[.val (.int p1), .val (.int p2), .val (.int p3), .val (.int p4), .val (.int p5), .val (.int p6), .val (.int (Int32.ofNat N)), .val (.int (Int32.ofNat M)), .val (.ref bf), .unset, .unset, .unset, .unset, .unset, .unset] [(.int (4 : Int32))]))
  obtain ⟨T149, h149, k149, X149, e149, E149, A149, st149⟩ := newP X147 hx hZ (hw _ (List.mem_of_getElem? (i := 1) rfl)) e147 (g := (mkF m 21 #[.val (.int p1), .val (.int p2), .val (.int p3), .val (.int p4), .val (.int p5), .val (.int p6), .val (.int (Int32.ofNat N)), .val (.int (Int32.ofNat M)), .val (.ref bf), .unset, .unset, .unset, .unset, .unset, .unset] [(.int (4 : Int32))])) rfl (hb hby at_21) rfl (by decide) (cap := 4) (by decide) (by decide) (by decide) (by decide)
  obtain ⟨bt, g149⟩ : ∃ z, z = h147.size := ⟨_, rfl⟩
  have ne_bf_bt : bf ≠ bt := Nat.ne_of_lt (Nat.lt_of_lt_of_le V147.lt (Nat.le_of_eq g149.symm))
  have ge_bt : n0 ≤ bt := Nat.le_trans Z148 (Nat.le_of_eq g149.symm)
  rw [← g149] at A149 st149
  have f150_bf : own_K .int Z h149 bf .int 4 (fun _ => (0 : Int32)) := V147.ext E149
  have Z151 : n0 ≤ h149.size := Nat.le_trans Z148 E149.1
  have V149 : own_K .int Z h149 bt .int 4 (fun _ => (0 : Int32)) := own_K.new A149 (by decide) rfl rfl
  refine own_by st149 ?_
  show own_R p.tables e below _ (T149.setTop (mkF m 23 #[.val (.int p1), .val (.int p2), .val (.int p3), .val (.int p4), .val (.int p5), .val (.int p6), .val (.int (Int32.ofNat N)), .val (.int (Int32.ofNat M)), .val (.ref bf), .unset, .unset, .unset, .unset, .unset, .unset] [(.ref bt)]))
  refine own_by (fun _ kZ => XS.astore X149.here hx rfl (hb hby at_23) rfl rfl (l' := #[.val (.int p1), .val (.int p2), .val (.int p3), .val (.int p4), .val (.int p5), .val (.int p6), .val (.int (Int32.ofNat N)), .val (.int (Int32.ofNat M)), .val (.ref bf), .val (.ref bt), .unset, .unset, .unset, .unset, .unset]) rfl kZ) ?_
  show own_R p.tables e below _ (T149.setTop (mkF m 25 #[.val (.int p1), .val (.int p2), .val (.int p3), .val (.int p4), .val (.int p5), .val (.int p6), .val (.int (Int32.ofNat N)), .val (.int (Int32.ofNat M)), .val (.ref bf), .val (.ref bt), .unset, .unset, .unset, .unset, .unset] []))
  refine own_by (fun _ kZ => XS.iconst X149.here hx rfl (hb hby at_25) kZ) ?_
  show own_R p.tables e below _ (T149.setTop (mkF m 26 #[.val (.int p1), .val (.int p2), .val (.int p3), .val (.int p4), .val (.int p5), .val (.int p6), .val (.int (Int32.ofNat N)), .val (.int (Int32.ofNat M)), .val (.ref bf), .val (.ref bt), .unset, .unset, .unset, .unset, .unset] [(.int (4 : Int32))]))
  obtain ⟨T152, h152, k152, X152, e152, E152, A152, st152⟩ := newP X149 hx hZ (hw _ (List.mem_of_getElem? (i := 1) rfl)) e149 (g := (mkF m 26 #[.val (.int p1), .val (.int p2), .val (.int p3), .val (.int p4), .val (.int p5), .val (.int p6), .val (.int (Int32.ofNat N)), .val (.int (Int32.ofNat M)), .val (.ref bf), .val (.ref bt), .unset, .unset, .unset, .unset, .unset] [(.int (4 : Int32))])) rfl (hb hby at_26) rfl (by decide) (cap := 4) (by decide) (by decide) (by decide) (by decide)
  obtain ⟨bw, g152⟩ : ∃ z, z = h149.size := ⟨_, rfl⟩
  have ne_bf_bw : bf ≠ bw := Nat.ne_of_lt (Nat.lt_of_lt_of_le f150_bf.lt (Nat.le_of_eq g152.symm))
  have ne_bt_bw : bt ≠ bw := Nat.ne_of_lt (Nat.lt_of_lt_of_le V149.lt (Nat.le_of_eq g152.symm))
  have ge_bw : n0 ≤ bw := Nat.le_trans Z151 (Nat.le_of_eq g152.symm)
  rw [← g152] at A152 st152
  have f153_bf : own_K .int Z h152 bf .int 4 (fun _ => (0 : Int32)) := f150_bf.ext E152
  have f154_bt : own_K .int Z h152 bt .int 4 (fun _ => (0 : Int32)) := V149.ext E152
  have Z155 : n0 ≤ h152.size := Nat.le_trans Z151 E152.1
  have V152 : own_K .int Z h152 bw .int 4 (fun _ => (0 : Int32)) := own_K.new A152 (by decide) rfl rfl
  refine own_by st152 ?_
  show own_R p.tables e below _ (T152.setTop (mkF m 28 #[.val (.int p1), .val (.int p2), .val (.int p3), .val (.int p4), .val (.int p5), .val (.int p6), .val (.int (Int32.ofNat N)), .val (.int (Int32.ofNat M)), .val (.ref bf), .val (.ref bt), .unset, .unset, .unset, .unset, .unset] [(.ref bw)]))
  refine own_by (fun _ kZ => XS.astore X152.here hx rfl (hb hby at_28) rfl rfl (l' := #[.val (.int p1), .val (.int p2), .val (.int p3), .val (.int p4), .val (.int p5), .val (.int p6), .val (.int (Int32.ofNat N)), .val (.int (Int32.ofNat M)), .val (.ref bf), .val (.ref bt), .val (.ref bw), .unset, .unset, .unset, .unset]) rfl kZ) ?_
  show own_R p.tables e below _ (T152.setTop (mkF m 30 #[.val (.int p1), .val (.int p2), .val (.int p3), .val (.int p4), .val (.int p5), .val (.int p6), .val (.int (Int32.ofNat N)), .val (.int (Int32.ofNat M)), .val (.ref bf), .val (.ref bt), .val (.ref bw), .unset, .unset, .unset, .unset] []))
  refine own_by (fun _ kZ => XS.aload X152.here hx rfl (hb hby at_30) rfl rfl kZ) ?_
  show own_R p.tables e below _ (T152.setTop (mkF m 32 #[.val (.int p1), .val (.int p2), .val (.int p3), .val (.int p4), .val (.int p5), .val (.int p6), .val (.int (Int32.ofNat N)), .val (.int (Int32.ofNat M)), .val (.ref bf), .val (.ref bt), .val (.ref bw), .unset, .unset, .unset, .unset] [(.ref bf)]))
  refine own_by (fun _ kZ => XS.iconst X152.here hx rfl (hb hby at_32) kZ) ?_
  show own_R p.tables e below _ (T152.setTop (mkF m 33 #[.val (.int p1), .val (.int p2), .val (.int p3), .val (.int p4), .val (.int p5), .val (.int p6), .val (.int (Int32.ofNat N)), .val (.int (Int32.ofNat M)), .val (.ref bf), .val (.ref bt), .val (.ref bw), .unset, .unset, .unset, .unset] [(.int (0 : Int32)), (.ref bf)]))
  refine own_by (fun _ kZ => XS.iconst X152.here hx rfl (hb hby at_33) kZ) ?_
  show own_R p.tables e below _ (T152.setTop (mkF m 34 #[.val (.int p1), .val (.int p2), .val (.int p3), .val (.int p4), .val (.int p5), .val (.int p6), .val (.int (Int32.ofNat N)), .val (.int (Int32.ofNat M)), .val (.ref bf), .val (.ref bt), .val (.ref bw), .unset, .unset, .unset, .unset] [(.int (1 : Int32)), (.int (0 : Int32)), (.ref bf)]))
  refine own_by (fun _ kZ => XS.iloadN X152.here hx rfl (hb hby at_34) rfl kZ) ?_
  show own_R p.tables e below _ (T152.setTop (mkF m 35 #[.val (.int p1), .val (.int p2), .val (.int p3), .val (.int p4), .val (.int p5), .val (.int p6), .val (.int (Int32.ofNat N)), .val (.int (Int32.ofNat M)), .val (.ref bf), .val (.ref bt), .val (.ref bw), .unset, .unset, .unset, .unset] [(.int p3), (.int (1 : Int32)), (.int (0 : Int32)), (.ref bf)]))
  refine own_by (fun _ kZ => XS.sipush X152.here hx rfl (hb hby at_35) kZ) ?_
  show own_R p.tables e below _ (T152.setTop (mkF m 38 #[.val (.int p1), .val (.int p2), .val (.int p3), .val (.int p4), .val (.int p5), .val (.int p6), .val (.int (Int32.ofNat N)), .val (.int (Int32.ofNat M)), .val (.ref bf), .val (.ref bt), .val (.ref bw), .unset, .unset, .unset, .unset] [(.int (255 : Int32)), (.int p3), (.int (1 : Int32)), (.int (0 : Int32)), (.ref bf)]))
  refine own_by (fun _ kZ => XS.iand X152.here hx rfl (hb hby at_38) rfl kZ) ?_
  show own_R p.tables e below _ (T152.setTop (mkF m 39 #[.val (.int p1), .val (.int p2), .val (.int p3), .val (.int p4), .val (.int p5), .val (.int p6), .val (.int (Int32.ofNat N)), .val (.int (Int32.ofNat M)), .val (.ref bf), .val (.ref bt), .val (.ref bw), .unset, .unset, .unset, .unset] [(.int (p3 &&& (255 : Int32))), (.int (1 : Int32)), (.int (0 : Int32)), (.ref bf)]))
  refine own_by (fun _ kZ => XS.iload X152.here hx rfl (hb hby at_39) rfl kZ) ?_
  show own_R p.tables e below _ (T152.setTop (mkF m 41 #[.val (.int p1), .val (.int p2), .val (.int p3), .val (.int p4), .val (.int p5), .val (.int p6), .val (.int (Int32.ofNat N)), .val (.int (Int32.ofNat M)), .val (.ref bf), .val (.ref bt), .val (.ref bw), .unset, .unset, .unset, .unset] [(.int (Int32.ofNat N)), (.int (p3 &&& (255 : Int32))), (.int (1 : Int32)), (.int (0 : Int32)), (.ref bf)]))
  refine own_by (fun _ kZ => iremM X152 hx rfl (hb hby at_41) rfl hnz kZ) ?_
  show own_R p.tables e below _ (T152.setTop (mkF m 42 #[.val (.int p1), .val (.int p2), .val (.int p3), .val (.int p4), .val (.int p5), .val (.int p6), .val (.int (Int32.ofNat N)), .val (.int (Int32.ofNat M)), .val (.ref bf), .val (.ref bt), .val (.ref bw), .unset, .unset, .unset, .unset] [(.int ((p3 &&& (255 : Int32)) % (Int32.ofNat N))), (.int (1 : Int32)), (.int (0 : Int32)), (.ref bf)]))
  refine own_by (fun _ kZ => XS.iadd X152.here hx rfl (hb hby at_42) rfl kZ) ?_
  show own_R p.tables e below _ (T152.setTop (mkF m 43 #[.val (.int p1), .val (.int p2), .val (.int p3), .val (.int p4), .val (.int p5), .val (.int p6), .val (.int (Int32.ofNat N)), .val (.int (Int32.ofNat M)), .val (.ref bf), .val (.ref bt), .val (.ref bw), .unset, .unset, .unset, .unset] [(.int ((1 : Int32) + ((p3 &&& (255 : Int32)) % (Int32.ofNat N)))), (.int (0 : Int32)), (.ref bf)]))
  obtain ⟨F0, hF0, lF0⟩ := own_from p3 N hN1 hN4
  rw [show ((1 : Int32) + ((p3 &&& (255 : Int32)) % (Int32.ofNat N))) = (Int32.ofNat (F0 + 1)) from hF0]
  show own_R p.tables e below _ (T152.setTop (mkF m 43 #[.val (.int p1), .val (.int p2), .val (.int p3), .val (.int p4), .val (.int p5), .val (.int p6), .val (.int (Int32.ofNat N)), .val (.int (Int32.ofNat M)), .val (.ref bf), .val (.ref bt), .val (.ref bw), .unset, .unset, .unset, .unset] [(.int (Int32.ofNat (F0 + 1))), (.int (0 : Int32)), (.ref bf)]))
  obtain ⟨cl156, Ar156, hin156, -⟩ := f153_bf.rd (i := (0 : Int32)) (p := 0) rfl (by decide) (by decide)
  obtain ⟨T157, h157, X157, e157, W157, st157⟩ := stI X152 hx hZ e152 Ar156 (j := (0 : Int32)) hin156 (g := (mkF m 43 #[.val (.int p1), .val (.int p2), .val (.int p3), .val (.int p4), .val (.int p5), .val (.int p6), .val (.int (Int32.ofNat N)), .val (.int (Int32.ofNat M)), .val (.ref bf), .val (.ref bt), .val (.ref bw), .unset, .unset, .unset, .unset] [(.int (Int32.ofNat (F0 + 1))), (.int (0 : Int32)), (.ref bf)])) rfl rfl (hb hby at_43)
  have f158_bt : own_K .int Z h157 bt .int 4 (fun _ => (0 : Int32)) := f154_bt.other W157 (Ne.symm ne_bf_bt)
  have f159_bw : own_K .int Z h157 bw .int 4 (fun _ => (0 : Int32)) := V152.other W157 (Ne.symm ne_bf_bw)
  have Z160 : n0 ≤ h157.size := Nat.le_trans Z155 (Keep.of_wr W157).1
  have N160 := Fr.snoc X157 N0 ge_bf
  have V157 : own_K .int Z h157 bf .int 4 (own_uk (fun _ => (0 : Int32)) 0 (Int32.ofNat (F0 + 1))) := f153_bf.set (i := (0 : Int32)) (p := 0) rfl W157
  refine own_by st157 ?_
  show own_R p.tables e below _ (T157.setTop (mkF m 44 #[.val (.int p1), .val (.int p2), .val (.int p3), .val (.int p4), .val (.int p5), .val (.int p6), .val (.int (Int32.ofNat N)), .val (.int (Int32.ofNat M)), .val (.ref bf), .val (.ref bt), .val (.ref bw), .unset, .unset, .unset, .unset] []))
  refine own_by (fun _ kZ => XS.aload X157.here hx rfl (hb hby at_44) rfl rfl kZ) ?_
  show own_R p.tables e below _ (T157.setTop (mkF m 46 #[.val (.int p1), .val (.int p2), .val (.int p3), .val (.int p4), .val (.int p5), .val (.int p6), .val (.int (Int32.ofNat N)), .val (.int (Int32.ofNat M)), .val (.ref bf), .val (.ref bt), .val (.ref bw), .unset, .unset, .unset, .unset] [(.ref bf)]))
  refine own_by (fun _ kZ => XS.iconst X157.here hx rfl (hb hby at_46) kZ) ?_
  show own_R p.tables e below _ (T157.setTop (mkF m 47 #[.val (.int p1), .val (.int p2), .val (.int p3), .val (.int p4), .val (.int p5), .val (.int p6), .val (.int (Int32.ofNat N)), .val (.int (Int32.ofNat M)), .val (.ref bf), .val (.ref bt), .val (.ref bw), .unset, .unset, .unset, .unset] [(.int (1 : Int32)), (.ref bf)]))
  refine own_by (fun _ kZ => XS.iconst X157.here hx rfl (hb hby at_47) kZ) ?_
  show own_R p.tables e below _ (T157.setTop (mkF m 48 #[.val (.int p1), .val (.int p2), .val (.int p3), .val (.int p4), .val (.int p5), .val (.int p6), .val (.int (Int32.ofNat N)), .val (.int (Int32.ofNat M)), .val (.ref bf), .val (.ref bt), .val (.ref bw), .unset, .unset, .unset, .unset] [(.int (1 : Int32)), (.int (1 : Int32)), (.ref bf)]))
  refine own_by (fun _ kZ => XS.iloadN X157.here hx rfl (hb hby at_48) rfl kZ) ?_
  show own_R p.tables e below _ (T157.setTop (mkF m 49 #[.val (.int p1), .val (.int p2), .val (.int p3), .val (.int p4), .val (.int p5), .val (.int p6), .val (.int (Int32.ofNat N)), .val (.int (Int32.ofNat M)), .val (.ref bf), .val (.ref bt), .val (.ref bw), .unset, .unset, .unset, .unset] [(.int p3), (.int (1 : Int32)), (.int (1 : Int32)), (.ref bf)]))
  refine own_by (fun _ kZ => XS.bipush X157.here hx rfl (hb hby at_49) kZ) ?_
  show own_R p.tables e below _ (T157.setTop (mkF m 51 #[.val (.int p1), .val (.int p2), .val (.int p3), .val (.int p4), .val (.int p5), .val (.int p6), .val (.int (Int32.ofNat N)), .val (.int (Int32.ofNat M)), .val (.ref bf), .val (.ref bt), .val (.ref bw), .unset, .unset, .unset, .unset] [(.int (8 : Int32)), (.int p3), (.int (1 : Int32)), (.int (1 : Int32)), (.ref bf)]))
  refine own_by (fun _ kZ => XS.iushr X157.here hx rfl (hb hby at_51) rfl kZ) ?_
  show own_R p.tables e below _ (T157.setTop (mkF m 52 #[.val (.int p1), .val (.int p2), .val (.int p3), .val (.int p4), .val (.int p5), .val (.int p6), .val (.int (Int32.ofNat N)), .val (.int (Int32.ofNat M)), .val (.ref bf), .val (.ref bt), .val (.ref bw), .unset, .unset, .unset, .unset] [(.int ((p3.toUInt32 >>> ((8 : Int32) &&& 31).toUInt32).toInt32)), (.int (1 : Int32)), (.int (1 : Int32)), (.ref bf)]))
  refine own_by (fun _ kZ => XS.sipush X157.here hx rfl (hb hby at_52) kZ) ?_
  show own_R p.tables e below _ (T157.setTop (mkF m 55 #[.val (.int p1), .val (.int p2), .val (.int p3), .val (.int p4), .val (.int p5), .val (.int p6), .val (.int (Int32.ofNat N)), .val (.int (Int32.ofNat M)), .val (.ref bf), .val (.ref bt), .val (.ref bw), .unset, .unset, .unset, .unset] [(.int (255 : Int32)), (.int ((p3.toUInt32 >>> ((8 : Int32) &&& 31).toUInt32).toInt32)), (.int (1 : Int32)), (.int (1 : Int32)), (.ref bf)]))
  refine own_by (fun _ kZ => XS.iand X157.here hx rfl (hb hby at_55) rfl kZ) ?_
  show own_R p.tables e below _ (T157.setTop (mkF m 56 #[.val (.int p1), .val (.int p2), .val (.int p3), .val (.int p4), .val (.int p5), .val (.int p6), .val (.int (Int32.ofNat N)), .val (.int (Int32.ofNat M)), .val (.ref bf), .val (.ref bt), .val (.ref bw), .unset, .unset, .unset, .unset] [(.int (((p3.toUInt32 >>> ((8 : Int32) &&& 31).toUInt32).toInt32) &&& (255 : Int32))), (.int (1 : Int32)), (.int (1 : Int32)), (.ref bf)]))
  refine own_by (fun _ kZ => XS.iload X157.here hx rfl (hb hby at_56) rfl kZ) ?_
  show own_R p.tables e below _ (T157.setTop (mkF m 58 #[.val (.int p1), .val (.int p2), .val (.int p3), .val (.int p4), .val (.int p5), .val (.int p6), .val (.int (Int32.ofNat N)), .val (.int (Int32.ofNat M)), .val (.ref bf), .val (.ref bt), .val (.ref bw), .unset, .unset, .unset, .unset] [(.int (Int32.ofNat N)), (.int (((p3.toUInt32 >>> ((8 : Int32) &&& 31).toUInt32).toInt32) &&& (255 : Int32))), (.int (1 : Int32)), (.int (1 : Int32)), (.ref bf)]))
  refine own_by (fun _ kZ => iremM X157 hx rfl (hb hby at_58) rfl hnz kZ) ?_
  show own_R p.tables e below _ (T157.setTop (mkF m 59 #[.val (.int p1), .val (.int p2), .val (.int p3), .val (.int p4), .val (.int p5), .val (.int p6), .val (.int (Int32.ofNat N)), .val (.int (Int32.ofNat M)), .val (.ref bf), .val (.ref bt), .val (.ref bw), .unset, .unset, .unset, .unset] [(.int ((((p3.toUInt32 >>> ((8 : Int32) &&& 31).toUInt32).toInt32) &&& (255 : Int32)) % (Int32.ofNat N))), (.int (1 : Int32)), (.int (1 : Int32)), (.ref bf)]))
  refine own_by (fun _ kZ => XS.iadd X157.here hx rfl (hb hby at_59) rfl kZ) ?_
  show own_R p.tables e below _ (T157.setTop (mkF m 60 #[.val (.int p1), .val (.int p2), .val (.int p3), .val (.int p4), .val (.int p5), .val (.int p6), .val (.int (Int32.ofNat N)), .val (.int (Int32.ofNat M)), .val (.ref bf), .val (.ref bt), .val (.ref bw), .unset, .unset, .unset, .unset] [(.int ((1 : Int32) + ((((p3.toUInt32 >>> ((8 : Int32) &&& 31).toUInt32).toInt32) &&& (255 : Int32)) % (Int32.ofNat N)))), (.int (1 : Int32)), (.ref bf)]))
  obtain ⟨F1, hF1, lF1⟩ := own_from ((p3.toUInt32 >>> ((8 : Int32) &&& 31).toUInt32).toInt32) N hN1 hN4
  rw [show ((1 : Int32) + ((((p3.toUInt32 >>> ((8 : Int32) &&& 31).toUInt32).toInt32) &&& (255 : Int32)) % (Int32.ofNat N))) = (Int32.ofNat (F1 + 1)) from hF1]
  show own_R p.tables e below _ (T157.setTop (mkF m 60 #[.val (.int p1), .val (.int p2), .val (.int p3), .val (.int p4), .val (.int p5), .val (.int p6), .val (.int (Int32.ofNat N)), .val (.int (Int32.ofNat M)), .val (.ref bf), .val (.ref bt), .val (.ref bw), .unset, .unset, .unset, .unset] [(.int (Int32.ofNat (F1 + 1))), (.int (1 : Int32)), (.ref bf)]))
  obtain ⟨cl161, Ar161, hin161, -⟩ := V157.rd (i := (1 : Int32)) (p := 1) rfl (by decide) (by decide)
  obtain ⟨T162, h162, X162, e162, W162, st162⟩ := stI X157 hx hZ e157 Ar161 (j := (1 : Int32)) hin161 (g := (mkF m 60 #[.val (.int p1), .val (.int p2), .val (.int p3), .val (.int p4), .val (.int p5), .val (.int p6), .val (.int (Int32.ofNat N)), .val (.int (Int32.ofNat M)), .val (.ref bf), .val (.ref bt), .val (.ref bw), .unset, .unset, .unset, .unset] [(.int (Int32.ofNat (F1 + 1))), (.int (1 : Int32)), (.ref bf)])) rfl rfl (hb hby at_60)
  have f163_bt : own_K .int Z h162 bt .int 4 (fun _ => (0 : Int32)) := f158_bt.other W162 (Ne.symm ne_bf_bt)
  have f164_bw : own_K .int Z h162 bw .int 4 (fun _ => (0 : Int32)) := f159_bw.other W162 (Ne.symm ne_bf_bw)
  have Z165 : n0 ≤ h162.size := Nat.le_trans Z160 (Keep.of_wr W162).1
  have N165 := Fr.snoc X162 N160 ge_bf
  have V162 : own_K .int Z h162 bf .int 4 (own_uk (own_uk (fun _ => (0 : Int32)) 0 (Int32.ofNat (F0 + 1))) 1 (Int32.ofNat (F1 + 1))) := V157.set (i := (1 : Int32)) (p := 1) rfl W162
  refine own_by st162 ?_
  show own_R p.tables e below _ (T162.setTop (mkF m 61 #[.val (.int p1), .val (.int p2), .val (.int p3), .val (.int p4), .val (.int p5), .val (.int p6), .val (.int (Int32.ofNat N)), .val (.int (Int32.ofNat M)), .val (.ref bf), .val (.ref bt), .val (.ref bw), .unset, .unset, .unset, .unset] []))
  refine own_by (fun _ kZ => XS.aload X162.here hx rfl (hb hby at_61) rfl rfl kZ) ?_
  show own_R p.tables e below _ (T162.setTop (mkF m 63 #[.val (.int p1), .val (.int p2), .val (.int p3), .val (.int p4), .val (.int p5), .val (.int p6), .val (.int (Int32.ofNat N)), .val (.int (Int32.ofNat M)), .val (.ref bf), .val (.ref bt), .val (.ref bw), .unset, .unset, .unset, .unset] [(.ref bf)]))
  refine own_by (fun _ kZ => XS.iconst X162.here hx rfl (hb hby at_63) kZ) ?_
  show own_R p.tables e below _ (T162.setTop (mkF m 64 #[.val (.int p1), .val (.int p2), .val (.int p3), .val (.int p4), .val (.int p5), .val (.int p6), .val (.int (Int32.ofNat N)), .val (.int (Int32.ofNat M)), .val (.ref bf), .val (.ref bt), .val (.ref bw), .unset, .unset, .unset, .unset] [(.int (2 : Int32)), (.ref bf)]))
  refine own_by (fun _ kZ => XS.iconst X162.here hx rfl (hb hby at_64) kZ) ?_
  show own_R p.tables e below _ (T162.setTop (mkF m 65 #[.val (.int p1), .val (.int p2), .val (.int p3), .val (.int p4), .val (.int p5), .val (.int p6), .val (.int (Int32.ofNat N)), .val (.int (Int32.ofNat M)), .val (.ref bf), .val (.ref bt), .val (.ref bw), .unset, .unset, .unset, .unset] [(.int (1 : Int32)), (.int (2 : Int32)), (.ref bf)]))
  refine own_by (fun _ kZ => XS.iloadN X162.here hx rfl (hb hby at_65) rfl kZ) ?_
  show own_R p.tables e below _ (T162.setTop (mkF m 66 #[.val (.int p1), .val (.int p2), .val (.int p3), .val (.int p4), .val (.int p5), .val (.int p6), .val (.int (Int32.ofNat N)), .val (.int (Int32.ofNat M)), .val (.ref bf), .val (.ref bt), .val (.ref bw), .unset, .unset, .unset, .unset] [(.int p3), (.int (1 : Int32)), (.int (2 : Int32)), (.ref bf)]))
  refine own_by (fun _ kZ => XS.bipush X162.here hx rfl (hb hby at_66) kZ) ?_
  show own_R p.tables e below _ (T162.setTop (mkF m 68 #[.val (.int p1), .val (.int p2), .val (.int p3), .val (.int p4), .val (.int p5), .val (.int p6), .val (.int (Int32.ofNat N)), .val (.int (Int32.ofNat M)), .val (.ref bf), .val (.ref bt), .val (.ref bw), .unset, .unset, .unset, .unset] [(.int (16 : Int32)), (.int p3), (.int (1 : Int32)), (.int (2 : Int32)), (.ref bf)]))
  refine own_by (fun _ kZ => XS.iushr X162.here hx rfl (hb hby at_68) rfl kZ) ?_
  show own_R p.tables e below _ (T162.setTop (mkF m 69 #[.val (.int p1), .val (.int p2), .val (.int p3), .val (.int p4), .val (.int p5), .val (.int p6), .val (.int (Int32.ofNat N)), .val (.int (Int32.ofNat M)), .val (.ref bf), .val (.ref bt), .val (.ref bw), .unset, .unset, .unset, .unset] [(.int ((p3.toUInt32 >>> ((16 : Int32) &&& 31).toUInt32).toInt32)), (.int (1 : Int32)), (.int (2 : Int32)), (.ref bf)]))
  refine own_by (fun _ kZ => XS.sipush X162.here hx rfl (hb hby at_69) kZ) ?_
  show own_R p.tables e below _ (T162.setTop (mkF m 72 #[.val (.int p1), .val (.int p2), .val (.int p3), .val (.int p4), .val (.int p5), .val (.int p6), .val (.int (Int32.ofNat N)), .val (.int (Int32.ofNat M)), .val (.ref bf), .val (.ref bt), .val (.ref bw), .unset, .unset, .unset, .unset] [(.int (255 : Int32)), (.int ((p3.toUInt32 >>> ((16 : Int32) &&& 31).toUInt32).toInt32)), (.int (1 : Int32)), (.int (2 : Int32)), (.ref bf)]))
  refine own_by (fun _ kZ => XS.iand X162.here hx rfl (hb hby at_72) rfl kZ) ?_
  show own_R p.tables e below _ (T162.setTop (mkF m 73 #[.val (.int p1), .val (.int p2), .val (.int p3), .val (.int p4), .val (.int p5), .val (.int p6), .val (.int (Int32.ofNat N)), .val (.int (Int32.ofNat M)), .val (.ref bf), .val (.ref bt), .val (.ref bw), .unset, .unset, .unset, .unset] [(.int (((p3.toUInt32 >>> ((16 : Int32) &&& 31).toUInt32).toInt32) &&& (255 : Int32))), (.int (1 : Int32)), (.int (2 : Int32)), (.ref bf)]))
  refine own_by (fun _ kZ => XS.iload X162.here hx rfl (hb hby at_73) rfl kZ) ?_
  show own_R p.tables e below _ (T162.setTop (mkF m 75 #[.val (.int p1), .val (.int p2), .val (.int p3), .val (.int p4), .val (.int p5), .val (.int p6), .val (.int (Int32.ofNat N)), .val (.int (Int32.ofNat M)), .val (.ref bf), .val (.ref bt), .val (.ref bw), .unset, .unset, .unset, .unset] [(.int (Int32.ofNat N)), (.int (((p3.toUInt32 >>> ((16 : Int32) &&& 31).toUInt32).toInt32) &&& (255 : Int32))), (.int (1 : Int32)), (.int (2 : Int32)), (.ref bf)]))
  refine own_by (fun _ kZ => iremM X162 hx rfl (hb hby at_75) rfl hnz kZ) ?_
  show own_R p.tables e below _ (T162.setTop (mkF m 76 #[.val (.int p1), .val (.int p2), .val (.int p3), .val (.int p4), .val (.int p5), .val (.int p6), .val (.int (Int32.ofNat N)), .val (.int (Int32.ofNat M)), .val (.ref bf), .val (.ref bt), .val (.ref bw), .unset, .unset, .unset, .unset] [(.int ((((p3.toUInt32 >>> ((16 : Int32) &&& 31).toUInt32).toInt32) &&& (255 : Int32)) % (Int32.ofNat N))), (.int (1 : Int32)), (.int (2 : Int32)), (.ref bf)]))
  refine own_by (fun _ kZ => XS.iadd X162.here hx rfl (hb hby at_76) rfl kZ) ?_
  show own_R p.tables e below _ (T162.setTop (mkF m 77 #[.val (.int p1), .val (.int p2), .val (.int p3), .val (.int p4), .val (.int p5), .val (.int p6), .val (.int (Int32.ofNat N)), .val (.int (Int32.ofNat M)), .val (.ref bf), .val (.ref bt), .val (.ref bw), .unset, .unset, .unset, .unset] [(.int ((1 : Int32) + ((((p3.toUInt32 >>> ((16 : Int32) &&& 31).toUInt32).toInt32) &&& (255 : Int32)) % (Int32.ofNat N)))), (.int (2 : Int32)), (.ref bf)]))
  obtain ⟨F2, hF2, lF2⟩ := own_from ((p3.toUInt32 >>> ((16 : Int32) &&& 31).toUInt32).toInt32) N hN1 hN4
  rw [show ((1 : Int32) + ((((p3.toUInt32 >>> ((16 : Int32) &&& 31).toUInt32).toInt32) &&& (255 : Int32)) % (Int32.ofNat N))) = (Int32.ofNat (F2 + 1)) from hF2]
  show own_R p.tables e below _ (T162.setTop (mkF m 77 #[.val (.int p1), .val (.int p2), .val (.int p3), .val (.int p4), .val (.int p5), .val (.int p6), .val (.int (Int32.ofNat N)), .val (.int (Int32.ofNat M)), .val (.ref bf), .val (.ref bt), .val (.ref bw), .unset, .unset, .unset, .unset] [(.int (Int32.ofNat (F2 + 1))), (.int (2 : Int32)), (.ref bf)]))
  obtain ⟨cl166, Ar166, hin166, -⟩ := V162.rd (i := (2 : Int32)) (p := 2) rfl (by decide) (by decide)
  obtain ⟨T167, h167, X167, e167, W167, st167⟩ := stI X162 hx hZ e162 Ar166 (j := (2 : Int32)) hin166 (g := (mkF m 77 #[.val (.int p1), .val (.int p2), .val (.int p3), .val (.int p4), .val (.int p5), .val (.int p6), .val (.int (Int32.ofNat N)), .val (.int (Int32.ofNat M)), .val (.ref bf), .val (.ref bt), .val (.ref bw), .unset, .unset, .unset, .unset] [(.int (Int32.ofNat (F2 + 1))), (.int (2 : Int32)), (.ref bf)])) rfl rfl (hb hby at_77)
  have f168_bt : own_K .int Z h167 bt .int 4 (fun _ => (0 : Int32)) := f163_bt.other W167 (Ne.symm ne_bf_bt)
  have f169_bw : own_K .int Z h167 bw .int 4 (fun _ => (0 : Int32)) := f164_bw.other W167 (Ne.symm ne_bf_bw)
  have Z170 : n0 ≤ h167.size := Nat.le_trans Z165 (Keep.of_wr W167).1
  have N170 := Fr.snoc X167 N165 ge_bf
  have V167 : own_K .int Z h167 bf .int 4 (own_uk (own_uk (own_uk (fun _ => (0 : Int32)) 0 (Int32.ofNat (F0 + 1))) 1 (Int32.ofNat (F1 + 1))) 2 (Int32.ofNat (F2 + 1))) := V162.set (i := (2 : Int32)) (p := 2) rfl W167
  refine own_by st167 ?_
  show own_R p.tables e below _ (T167.setTop (mkF m 78 #[.val (.int p1), .val (.int p2), .val (.int p3), .val (.int p4), .val (.int p5), .val (.int p6), .val (.int (Int32.ofNat N)), .val (.int (Int32.ofNat M)), .val (.ref bf), .val (.ref bt), .val (.ref bw), .unset, .unset, .unset, .unset] []))
  refine own_by (fun _ kZ => XS.aload X167.here hx rfl (hb hby at_78) rfl rfl kZ) ?_
  show own_R p.tables e below _ (T167.setTop (mkF m 80 #[.val (.int p1), .val (.int p2), .val (.int p3), .val (.int p4), .val (.int p5), .val (.int p6), .val (.int (Int32.ofNat N)), .val (.int (Int32.ofNat M)), .val (.ref bf), .val (.ref bt), .val (.ref bw), .unset, .unset, .unset, .unset] [(.ref bf)]))
  refine own_by (fun _ kZ => XS.iconst X167.here hx rfl (hb hby at_80) kZ) ?_
  show own_R p.tables e below _ (T167.setTop (mkF m 81 #[.val (.int p1), .val (.int p2), .val (.int p3), .val (.int p4), .val (.int p5), .val (.int p6), .val (.int (Int32.ofNat N)), .val (.int (Int32.ofNat M)), .val (.ref bf), .val (.ref bt), .val (.ref bw), .unset, .unset, .unset, .unset] [(.int (3 : Int32)), (.ref bf)]))
  refine own_by (fun _ kZ => XS.iconst X167.here hx rfl (hb hby at_81) kZ) ?_
  show own_R p.tables e below _ (T167.setTop (mkF m 82 #[.val (.int p1), .val (.int p2), .val (.int p3), .val (.int p4), .val (.int p5), .val (.int p6), .val (.int (Int32.ofNat N)), .val (.int (Int32.ofNat M)), .val (.ref bf), .val (.ref bt), .val (.ref bw), .unset, .unset, .unset, .unset] [(.int (1 : Int32)), (.int (3 : Int32)), (.ref bf)]))
  refine own_by (fun _ kZ => XS.iloadN X167.here hx rfl (hb hby at_82) rfl kZ) ?_
  show own_R p.tables e below _ (T167.setTop (mkF m 83 #[.val (.int p1), .val (.int p2), .val (.int p3), .val (.int p4), .val (.int p5), .val (.int p6), .val (.int (Int32.ofNat N)), .val (.int (Int32.ofNat M)), .val (.ref bf), .val (.ref bt), .val (.ref bw), .unset, .unset, .unset, .unset] [(.int p3), (.int (1 : Int32)), (.int (3 : Int32)), (.ref bf)]))
  refine own_by (fun _ kZ => XS.bipush X167.here hx rfl (hb hby at_83) kZ) ?_
  show own_R p.tables e below _ (T167.setTop (mkF m 85 #[.val (.int p1), .val (.int p2), .val (.int p3), .val (.int p4), .val (.int p5), .val (.int p6), .val (.int (Int32.ofNat N)), .val (.int (Int32.ofNat M)), .val (.ref bf), .val (.ref bt), .val (.ref bw), .unset, .unset, .unset, .unset] [(.int (24 : Int32)), (.int p3), (.int (1 : Int32)), (.int (3 : Int32)), (.ref bf)]))
  refine own_by (fun _ kZ => XS.iushr X167.here hx rfl (hb hby at_85) rfl kZ) ?_
  show own_R p.tables e below _ (T167.setTop (mkF m 86 #[.val (.int p1), .val (.int p2), .val (.int p3), .val (.int p4), .val (.int p5), .val (.int p6), .val (.int (Int32.ofNat N)), .val (.int (Int32.ofNat M)), .val (.ref bf), .val (.ref bt), .val (.ref bw), .unset, .unset, .unset, .unset] [(.int ((p3.toUInt32 >>> ((24 : Int32) &&& 31).toUInt32).toInt32)), (.int (1 : Int32)), (.int (3 : Int32)), (.ref bf)]))
  refine own_by (fun _ kZ => XS.sipush X167.here hx rfl (hb hby at_86) kZ) ?_
  show own_R p.tables e below _ (T167.setTop (mkF m 89 #[.val (.int p1), .val (.int p2), .val (.int p3), .val (.int p4), .val (.int p5), .val (.int p6), .val (.int (Int32.ofNat N)), .val (.int (Int32.ofNat M)), .val (.ref bf), .val (.ref bt), .val (.ref bw), .unset, .unset, .unset, .unset] [(.int (255 : Int32)), (.int ((p3.toUInt32 >>> ((24 : Int32) &&& 31).toUInt32).toInt32)), (.int (1 : Int32)), (.int (3 : Int32)), (.ref bf)]))
  refine own_by (fun _ kZ => XS.iand X167.here hx rfl (hb hby at_89) rfl kZ) ?_
  show own_R p.tables e below _ (T167.setTop (mkF m 90 #[.val (.int p1), .val (.int p2), .val (.int p3), .val (.int p4), .val (.int p5), .val (.int p6), .val (.int (Int32.ofNat N)), .val (.int (Int32.ofNat M)), .val (.ref bf), .val (.ref bt), .val (.ref bw), .unset, .unset, .unset, .unset] [(.int (((p3.toUInt32 >>> ((24 : Int32) &&& 31).toUInt32).toInt32) &&& (255 : Int32))), (.int (1 : Int32)), (.int (3 : Int32)), (.ref bf)]))
  refine own_by (fun _ kZ => XS.iload X167.here hx rfl (hb hby at_90) rfl kZ) ?_
  show own_R p.tables e below _ (T167.setTop (mkF m 92 #[.val (.int p1), .val (.int p2), .val (.int p3), .val (.int p4), .val (.int p5), .val (.int p6), .val (.int (Int32.ofNat N)), .val (.int (Int32.ofNat M)), .val (.ref bf), .val (.ref bt), .val (.ref bw), .unset, .unset, .unset, .unset] [(.int (Int32.ofNat N)), (.int (((p3.toUInt32 >>> ((24 : Int32) &&& 31).toUInt32).toInt32) &&& (255 : Int32))), (.int (1 : Int32)), (.int (3 : Int32)), (.ref bf)]))
  refine own_by (fun _ kZ => iremM X167 hx rfl (hb hby at_92) rfl hnz kZ) ?_
  show own_R p.tables e below _ (T167.setTop (mkF m 93 #[.val (.int p1), .val (.int p2), .val (.int p3), .val (.int p4), .val (.int p5), .val (.int p6), .val (.int (Int32.ofNat N)), .val (.int (Int32.ofNat M)), .val (.ref bf), .val (.ref bt), .val (.ref bw), .unset, .unset, .unset, .unset] [(.int ((((p3.toUInt32 >>> ((24 : Int32) &&& 31).toUInt32).toInt32) &&& (255 : Int32)) % (Int32.ofNat N))), (.int (1 : Int32)), (.int (3 : Int32)), (.ref bf)]))
  refine own_by (fun _ kZ => XS.iadd X167.here hx rfl (hb hby at_93) rfl kZ) ?_
  show own_R p.tables e below _ (T167.setTop (mkF m 94 #[.val (.int p1), .val (.int p2), .val (.int p3), .val (.int p4), .val (.int p5), .val (.int p6), .val (.int (Int32.ofNat N)), .val (.int (Int32.ofNat M)), .val (.ref bf), .val (.ref bt), .val (.ref bw), .unset, .unset, .unset, .unset] [(.int ((1 : Int32) + ((((p3.toUInt32 >>> ((24 : Int32) &&& 31).toUInt32).toInt32) &&& (255 : Int32)) % (Int32.ofNat N)))), (.int (3 : Int32)), (.ref bf)]))
  obtain ⟨F3, hF3, lF3⟩ := own_from ((p3.toUInt32 >>> ((24 : Int32) &&& 31).toUInt32).toInt32) N hN1 hN4
  rw [show ((1 : Int32) + ((((p3.toUInt32 >>> ((24 : Int32) &&& 31).toUInt32).toInt32) &&& (255 : Int32)) % (Int32.ofNat N))) = (Int32.ofNat (F3 + 1)) from hF3]
  show own_R p.tables e below _ (T167.setTop (mkF m 94 #[.val (.int p1), .val (.int p2), .val (.int p3), .val (.int p4), .val (.int p5), .val (.int p6), .val (.int (Int32.ofNat N)), .val (.int (Int32.ofNat M)), .val (.ref bf), .val (.ref bt), .val (.ref bw), .unset, .unset, .unset, .unset] [(.int (Int32.ofNat (F3 + 1))), (.int (3 : Int32)), (.ref bf)]))
  obtain ⟨cl171, Ar171, hin171, -⟩ := V167.rd (i := (3 : Int32)) (p := 3) rfl (by decide) (by decide)
  obtain ⟨T172, h172, X172, e172, W172, st172⟩ := stI X167 hx hZ e167 Ar171 (j := (3 : Int32)) hin171 (g := (mkF m 94 #[.val (.int p1), .val (.int p2), .val (.int p3), .val (.int p4), .val (.int p5), .val (.int p6), .val (.int (Int32.ofNat N)), .val (.int (Int32.ofNat M)), .val (.ref bf), .val (.ref bt), .val (.ref bw), .unset, .unset, .unset, .unset] [(.int (Int32.ofNat (F3 + 1))), (.int (3 : Int32)), (.ref bf)])) rfl rfl (hb hby at_94)
  have f173_bt : own_K .int Z h172 bt .int 4 (fun _ => (0 : Int32)) := f168_bt.other W172 (Ne.symm ne_bf_bt)
  have f174_bw : own_K .int Z h172 bw .int 4 (fun _ => (0 : Int32)) := f169_bw.other W172 (Ne.symm ne_bf_bw)
  have Z175 : n0 ≤ h172.size := Nat.le_trans Z170 (Keep.of_wr W172).1
  have N175 := Fr.snoc X172 N170 ge_bf
  have V172 : own_K .int Z h172 bf .int 4 (own_uk (own_uk (own_uk (own_uk (fun _ => (0 : Int32)) 0 (Int32.ofNat (F0 + 1))) 1 (Int32.ofNat (F1 + 1))) 2 (Int32.ofNat (F2 + 1))) 3 (Int32.ofNat (F3 + 1))) := V167.set (i := (3 : Int32)) (p := 3) rfl W172
  refine own_by st172 ?_
  show own_R p.tables e below _ (T172.setTop (mkF m 95 #[.val (.int p1), .val (.int p2), .val (.int p3), .val (.int p4), .val (.int p5), .val (.int p6), .val (.int (Int32.ofNat N)), .val (.int (Int32.ofNat M)), .val (.ref bf), .val (.ref bt), .val (.ref bw), .unset, .unset, .unset, .unset] []))
  refine own_by (fun _ kZ => XS.aload X172.here hx rfl (hb hby at_95) rfl rfl kZ) ?_
  show own_R p.tables e below _ (T172.setTop (mkF m 97 #[.val (.int p1), .val (.int p2), .val (.int p3), .val (.int p4), .val (.int p5), .val (.int p6), .val (.int (Int32.ofNat N)), .val (.int (Int32.ofNat M)), .val (.ref bf), .val (.ref bt), .val (.ref bw), .unset, .unset, .unset, .unset] [(.ref bt)]))
  refine own_by (fun _ kZ => XS.iconst X172.here hx rfl (hb hby at_97) kZ) ?_
  show own_R p.tables e below _ (T172.setTop (mkF m 98 #[.val (.int p1), .val (.int p2), .val (.int p3), .val (.int p4), .val (.int p5), .val (.int p6), .val (.int (Int32.ofNat N)), .val (.int (Int32.ofNat M)), .val (.ref bf), .val (.ref bt), .val (.ref bw), .unset, .unset, .unset, .unset] [(.int (0 : Int32)), (.ref bt)]))
  refine own_by (fun _ kZ => XS.iconst X172.here hx rfl (hb hby at_98) kZ) ?_
  show own_R p.tables e below _ (T172.setTop (mkF m 99 #[.val (.int p1), .val (.int p2), .val (.int p3), .val (.int p4), .val (.int p5), .val (.int p6), .val (.int (Int32.ofNat N)), .val (.int (Int32.ofNat M)), .val (.ref bf), .val (.ref bt), .val (.ref bw), .unset, .unset, .unset, .unset] [(.int (1 : Int32)), (.int (0 : Int32)), (.ref bt)]))
  refine own_by (fun _ kZ => XS.iloadN X172.here hx rfl (hb hby at_99) rfl kZ) ?_
  show own_R p.tables e below _ (T172.setTop (mkF m 100 #[.val (.int p1), .val (.int p2), .val (.int p3), .val (.int p4), .val (.int p5), .val (.int p6), .val (.int (Int32.ofNat N)), .val (.int (Int32.ofNat M)), .val (.ref bf), .val (.ref bt), .val (.ref bw), .unset, .unset, .unset, .unset] [(.int p4), (.int (1 : Int32)), (.int (0 : Int32)), (.ref bt)]))
  refine own_by (fun _ kZ => XS.sipush X172.here hx rfl (hb hby at_100) kZ) ?_
  show own_R p.tables e below _ (T172.setTop (mkF m 103 #[.val (.int p1), .val (.int p2), .val (.int p3), .val (.int p4), .val (.int p5), .val (.int p6), .val (.int (Int32.ofNat N)), .val (.int (Int32.ofNat M)), .val (.ref bf), .val (.ref bt), .val (.ref bw), .unset, .unset, .unset, .unset] [(.int (255 : Int32)), (.int p4), (.int (1 : Int32)), (.int (0 : Int32)), (.ref bt)]))
  refine own_by (fun _ kZ => XS.iand X172.here hx rfl (hb hby at_103) rfl kZ) ?_
  show own_R p.tables e below _ (T172.setTop (mkF m 104 #[.val (.int p1), .val (.int p2), .val (.int p3), .val (.int p4), .val (.int p5), .val (.int p6), .val (.int (Int32.ofNat N)), .val (.int (Int32.ofNat M)), .val (.ref bf), .val (.ref bt), .val (.ref bw), .unset, .unset, .unset, .unset] [(.int (p4 &&& (255 : Int32))), (.int (1 : Int32)), (.int (0 : Int32)), (.ref bt)]))
  refine own_by (fun _ kZ => XS.iload X172.here hx rfl (hb hby at_104) rfl kZ) ?_
  show own_R p.tables e below _ (T172.setTop (mkF m 106 #[.val (.int p1), .val (.int p2), .val (.int p3), .val (.int p4), .val (.int p5), .val (.int p6), .val (.int (Int32.ofNat N)), .val (.int (Int32.ofNat M)), .val (.ref bf), .val (.ref bt), .val (.ref bw), .unset, .unset, .unset, .unset] [(.int (Int32.ofNat N)), (.int (p4 &&& (255 : Int32))), (.int (1 : Int32)), (.int (0 : Int32)), (.ref bt)]))
  refine own_by (fun _ kZ => iremM X172 hx rfl (hb hby at_106) rfl hnz kZ) ?_
  show own_R p.tables e below _ (T172.setTop (mkF m 107 #[.val (.int p1), .val (.int p2), .val (.int p3), .val (.int p4), .val (.int p5), .val (.int p6), .val (.int (Int32.ofNat N)), .val (.int (Int32.ofNat M)), .val (.ref bf), .val (.ref bt), .val (.ref bw), .unset, .unset, .unset, .unset] [(.int ((p4 &&& (255 : Int32)) % (Int32.ofNat N))), (.int (1 : Int32)), (.int (0 : Int32)), (.ref bt)]))
  refine own_by (fun _ kZ => XS.iadd X172.here hx rfl (hb hby at_107) rfl kZ) ?_
  show own_R p.tables e below _ (T172.setTop (mkF m 108 #[.val (.int p1), .val (.int p2), .val (.int p3), .val (.int p4), .val (.int p5), .val (.int p6), .val (.int (Int32.ofNat N)), .val (.int (Int32.ofNat M)), .val (.ref bf), .val (.ref bt), .val (.ref bw), .unset, .unset, .unset, .unset] [(.int ((1 : Int32) + ((p4 &&& (255 : Int32)) % (Int32.ofNat N)))), (.int (0 : Int32)), (.ref bt)]))
  obtain ⟨cl176, Ar176, hin176, -⟩ := f173_bt.rd (i := (0 : Int32)) (p := 0) rfl (by decide) (by decide)
  obtain ⟨T177, h177, X177, e177, W177, st177⟩ := stI X172 hx hZ e172 Ar176 (j := (0 : Int32)) hin176 (g := (mkF m 108 #[.val (.int p1), .val (.int p2), .val (.int p3), .val (.int p4), .val (.int p5), .val (.int p6), .val (.int (Int32.ofNat N)), .val (.int (Int32.ofNat M)), .val (.ref bf), .val (.ref bt), .val (.ref bw), .unset, .unset, .unset, .unset] [(.int ((1 : Int32) + ((p4 &&& (255 : Int32)) % (Int32.ofNat N)))), (.int (0 : Int32)), (.ref bt)])) rfl rfl (hb hby at_108)
  have f178_bw : own_K .int Z h177 bw .int 4 (fun _ => (0 : Int32)) := f174_bw.other W177 (Ne.symm ne_bt_bw)
  have f179_bf : own_K .int Z h177 bf .int 4 (own_uk (own_uk (own_uk (own_uk (fun _ => (0 : Int32)) 0 (Int32.ofNat (F0 + 1))) 1 (Int32.ofNat (F1 + 1))) 2 (Int32.ofNat (F2 + 1))) 3 (Int32.ofNat (F3 + 1))) := V172.other W177 ne_bf_bt
  have Z180 : n0 ≤ h177.size := Nat.le_trans Z175 (Keep.of_wr W177).1
  have N180 := Fr.snoc X177 N175 ge_bt
  have V177 : own_K .int Z h177 bt .int 4 (own_uk (fun _ => (0 : Int32)) 0 ((1 : Int32) + ((p4 &&& (255 : Int32)) % (Int32.ofNat N)))) := f173_bt.set (i := (0 : Int32)) (p := 0) rfl W177
  refine own_by st177 ?_
  show own_R p.tables e below _ (T177.setTop (mkF m 109 #[.val (.int p1), .val (.int p2), .val (.int p3), .val (.int p4), .val (.int p5), .val (.int p6), .val (.int (Int32.ofNat N)), .val (.int (Int32.ofNat M)), .val (.ref bf), .val (.ref bt), .val (.ref bw), .unset, .unset, .unset, .unset] []))
  refine own_by (fun _ kZ => XS.aload X177.here hx rfl (hb hby at_109) rfl rfl kZ) ?_
  show own_R p.tables e below _ (T177.setTop (mkF m 111 #[.val (.int p1), .val (.int p2), .val (.int p3), .val (.int p4), .val (.int p5), .val (.int p6), .val (.int (Int32.ofNat N)), .val (.int (Int32.ofNat M)), .val (.ref bf), .val (.ref bt), .val (.ref bw), .unset, .unset, .unset, .unset] [(.ref bt)]))
  refine own_by (fun _ kZ => XS.iconst X177.here hx rfl (hb hby at_111) kZ) ?_
  show own_R p.tables e below _ (T177.setTop (mkF m 112 #[.val (.int p1), .val (.int p2), .val (.int p3), .val (.int p4), .val (.int p5), .val (.int p6), .val (.int (Int32.ofNat N)), .val (.int (Int32.ofNat M)), .val (.ref bf), .val (.ref bt), .val (.ref bw), .unset, .unset, .unset, .unset] [(.int (1 : Int32)), (.ref bt)]))
  refine own_by (fun _ kZ => XS.iconst X177.here hx rfl (hb hby at_112) kZ) ?_
  show own_R p.tables e below _ (T177.setTop (mkF m 113 #[.val (.int p1), .val (.int p2), .val (.int p3), .val (.int p4), .val (.int p5), .val (.int p6), .val (.int (Int32.ofNat N)), .val (.int (Int32.ofNat M)), .val (.ref bf), .val (.ref bt), .val (.ref bw), .unset, .unset, .unset, .unset] [(.int (1 : Int32)), (.int (1 : Int32)), (.ref bt)]))
  refine own_by (fun _ kZ => XS.iloadN X177.here hx rfl (hb hby at_113) rfl kZ) ?_
  show own_R p.tables e below _ (T177.setTop (mkF m 114 #[.val (.int p1), .val (.int p2), .val (.int p3), .val (.int p4), .val (.int p5), .val (.int p6), .val (.int (Int32.ofNat N)), .val (.int (Int32.ofNat M)), .val (.ref bf), .val (.ref bt), .val (.ref bw), .unset, .unset, .unset, .unset] [(.int p4), (.int (1 : Int32)), (.int (1 : Int32)), (.ref bt)]))
  refine own_by (fun _ kZ => XS.bipush X177.here hx rfl (hb hby at_114) kZ) ?_
  show own_R p.tables e below _ (T177.setTop (mkF m 116 #[.val (.int p1), .val (.int p2), .val (.int p3), .val (.int p4), .val (.int p5), .val (.int p6), .val (.int (Int32.ofNat N)), .val (.int (Int32.ofNat M)), .val (.ref bf), .val (.ref bt), .val (.ref bw), .unset, .unset, .unset, .unset] [(.int (8 : Int32)), (.int p4), (.int (1 : Int32)), (.int (1 : Int32)), (.ref bt)]))
  refine own_by (fun _ kZ => XS.iushr X177.here hx rfl (hb hby at_116) rfl kZ) ?_
  show own_R p.tables e below _ (T177.setTop (mkF m 117 #[.val (.int p1), .val (.int p2), .val (.int p3), .val (.int p4), .val (.int p5), .val (.int p6), .val (.int (Int32.ofNat N)), .val (.int (Int32.ofNat M)), .val (.ref bf), .val (.ref bt), .val (.ref bw), .unset, .unset, .unset, .unset] [(.int ((p4.toUInt32 >>> ((8 : Int32) &&& 31).toUInt32).toInt32)), (.int (1 : Int32)), (.int (1 : Int32)), (.ref bt)]))
  refine own_by (fun _ kZ => XS.sipush X177.here hx rfl (hb hby at_117) kZ) ?_
  show own_R p.tables e below _ (T177.setTop (mkF m 120 #[.val (.int p1), .val (.int p2), .val (.int p3), .val (.int p4), .val (.int p5), .val (.int p6), .val (.int (Int32.ofNat N)), .val (.int (Int32.ofNat M)), .val (.ref bf), .val (.ref bt), .val (.ref bw), .unset, .unset, .unset, .unset] [(.int (255 : Int32)), (.int ((p4.toUInt32 >>> ((8 : Int32) &&& 31).toUInt32).toInt32)), (.int (1 : Int32)), (.int (1 : Int32)), (.ref bt)]))
  refine own_by (fun _ kZ => XS.iand X177.here hx rfl (hb hby at_120) rfl kZ) ?_
  show own_R p.tables e below _ (T177.setTop (mkF m 121 #[.val (.int p1), .val (.int p2), .val (.int p3), .val (.int p4), .val (.int p5), .val (.int p6), .val (.int (Int32.ofNat N)), .val (.int (Int32.ofNat M)), .val (.ref bf), .val (.ref bt), .val (.ref bw), .unset, .unset, .unset, .unset] [(.int (((p4.toUInt32 >>> ((8 : Int32) &&& 31).toUInt32).toInt32) &&& (255 : Int32))), (.int (1 : Int32)), (.int (1 : Int32)), (.ref bt)]))
  refine own_by (fun _ kZ => XS.iload X177.here hx rfl (hb hby at_121) rfl kZ) ?_
  show own_R p.tables e below _ (T177.setTop (mkF m 123 #[.val (.int p1), .val (.int p2), .val (.int p3), .val (.int p4), .val (.int p5), .val (.int p6), .val (.int (Int32.ofNat N)), .val (.int (Int32.ofNat M)), .val (.ref bf), .val (.ref bt), .val (.ref bw), .unset, .unset, .unset, .unset] [(.int (Int32.ofNat N)), (.int (((p4.toUInt32 >>> ((8 : Int32) &&& 31).toUInt32).toInt32) &&& (255 : Int32))), (.int (1 : Int32)), (.int (1 : Int32)), (.ref bt)]))
  refine own_by (fun _ kZ => iremM X177 hx rfl (hb hby at_123) rfl hnz kZ) ?_
  show own_R p.tables e below _ (T177.setTop (mkF m 124 #[.val (.int p1), .val (.int p2), .val (.int p3), .val (.int p4), .val (.int p5), .val (.int p6), .val (.int (Int32.ofNat N)), .val (.int (Int32.ofNat M)), .val (.ref bf), .val (.ref bt), .val (.ref bw), .unset, .unset, .unset, .unset] [(.int ((((p4.toUInt32 >>> ((8 : Int32) &&& 31).toUInt32).toInt32) &&& (255 : Int32)) % (Int32.ofNat N))), (.int (1 : Int32)), (.int (1 : Int32)), (.ref bt)]))
  refine own_by (fun _ kZ => XS.iadd X177.here hx rfl (hb hby at_124) rfl kZ) ?_
  show own_R p.tables e below _ (T177.setTop (mkF m 125 #[.val (.int p1), .val (.int p2), .val (.int p3), .val (.int p4), .val (.int p5), .val (.int p6), .val (.int (Int32.ofNat N)), .val (.int (Int32.ofNat M)), .val (.ref bf), .val (.ref bt), .val (.ref bw), .unset, .unset, .unset, .unset] [(.int ((1 : Int32) + ((((p4.toUInt32 >>> ((8 : Int32) &&& 31).toUInt32).toInt32) &&& (255 : Int32)) % (Int32.ofNat N)))), (.int (1 : Int32)), (.ref bt)]))
  obtain ⟨cl181, Ar181, hin181, -⟩ := V177.rd (i := (1 : Int32)) (p := 1) rfl (by decide) (by decide)
  obtain ⟨T182, h182, X182, e182, W182, st182⟩ := stI X177 hx hZ e177 Ar181 (j := (1 : Int32)) hin181 (g := (mkF m 125 #[.val (.int p1), .val (.int p2), .val (.int p3), .val (.int p4), .val (.int p5), .val (.int p6), .val (.int (Int32.ofNat N)), .val (.int (Int32.ofNat M)), .val (.ref bf), .val (.ref bt), .val (.ref bw), .unset, .unset, .unset, .unset] [(.int ((1 : Int32) + ((((p4.toUInt32 >>> ((8 : Int32) &&& 31).toUInt32).toInt32) &&& (255 : Int32)) % (Int32.ofNat N)))), (.int (1 : Int32)), (.ref bt)])) rfl rfl (hb hby at_125)
  have f183_bw : own_K .int Z h182 bw .int 4 (fun _ => (0 : Int32)) := f178_bw.other W182 (Ne.symm ne_bt_bw)
  have f184_bf : own_K .int Z h182 bf .int 4 (own_uk (own_uk (own_uk (own_uk (fun _ => (0 : Int32)) 0 (Int32.ofNat (F0 + 1))) 1 (Int32.ofNat (F1 + 1))) 2 (Int32.ofNat (F2 + 1))) 3 (Int32.ofNat (F3 + 1))) := f179_bf.other W182 ne_bf_bt
  have Z185 : n0 ≤ h182.size := Nat.le_trans Z180 (Keep.of_wr W182).1
  have N185 := Fr.snoc X182 N180 ge_bt
  have V182 : own_K .int Z h182 bt .int 4 (own_uk (own_uk (fun _ => (0 : Int32)) 0 ((1 : Int32) + ((p4 &&& (255 : Int32)) % (Int32.ofNat N)))) 1 ((1 : Int32) + ((((p4.toUInt32 >>> ((8 : Int32) &&& 31).toUInt32).toInt32) &&& (255 : Int32)) % (Int32.ofNat N)))) := V177.set (i := (1 : Int32)) (p := 1) rfl W182
  refine own_by st182 ?_
  show own_R p.tables e below _ (T182.setTop (mkF m 126 #[.val (.int p1), .val (.int p2), .val (.int p3), .val (.int p4), .val (.int p5), .val (.int p6), .val (.int (Int32.ofNat N)), .val (.int (Int32.ofNat M)), .val (.ref bf), .val (.ref bt), .val (.ref bw), .unset, .unset, .unset, .unset] []))
  refine own_by (fun _ kZ => XS.aload X182.here hx rfl (hb hby at_126) rfl rfl kZ) ?_
  show own_R p.tables e below _ (T182.setTop (mkF m 128 #[.val (.int p1), .val (.int p2), .val (.int p3), .val (.int p4), .val (.int p5), .val (.int p6), .val (.int (Int32.ofNat N)), .val (.int (Int32.ofNat M)), .val (.ref bf), .val (.ref bt), .val (.ref bw), .unset, .unset, .unset, .unset] [(.ref bt)]))
  refine own_by (fun _ kZ => XS.iconst X182.here hx rfl (hb hby at_128) kZ) ?_
  show own_R p.tables e below _ (T182.setTop (mkF m 129 #[.val (.int p1), .val (.int p2), .val (.int p3), .val (.int p4), .val (.int p5), .val (.int p6), .val (.int (Int32.ofNat N)), .val (.int (Int32.ofNat M)), .val (.ref bf), .val (.ref bt), .val (.ref bw), .unset, .unset, .unset, .unset] [(.int (2 : Int32)), (.ref bt)]))
  refine own_by (fun _ kZ => XS.iconst X182.here hx rfl (hb hby at_129) kZ) ?_
  show own_R p.tables e below _ (T182.setTop (mkF m 130 #[.val (.int p1), .val (.int p2), .val (.int p3), .val (.int p4), .val (.int p5), .val (.int p6), .val (.int (Int32.ofNat N)), .val (.int (Int32.ofNat M)), .val (.ref bf), .val (.ref bt), .val (.ref bw), .unset, .unset, .unset, .unset] [(.int (1 : Int32)), (.int (2 : Int32)), (.ref bt)]))
  refine own_by (fun _ kZ => XS.iloadN X182.here hx rfl (hb hby at_130) rfl kZ) ?_
  show own_R p.tables e below _ (T182.setTop (mkF m 131 #[.val (.int p1), .val (.int p2), .val (.int p3), .val (.int p4), .val (.int p5), .val (.int p6), .val (.int (Int32.ofNat N)), .val (.int (Int32.ofNat M)), .val (.ref bf), .val (.ref bt), .val (.ref bw), .unset, .unset, .unset, .unset] [(.int p4), (.int (1 : Int32)), (.int (2 : Int32)), (.ref bt)]))
  refine own_by (fun _ kZ => XS.bipush X182.here hx rfl (hb hby at_131) kZ) ?_
  show own_R p.tables e below _ (T182.setTop (mkF m 133 #[.val (.int p1), .val (.int p2), .val (.int p3), .val (.int p4), .val (.int p5), .val (.int p6), .val (.int (Int32.ofNat N)), .val (.int (Int32.ofNat M)), .val (.ref bf), .val (.ref bt), .val (.ref bw), .unset, .unset, .unset, .unset] [(.int (16 : Int32)), (.int p4), (.int (1 : Int32)), (.int (2 : Int32)), (.ref bt)]))
  refine own_by (fun _ kZ => XS.iushr X182.here hx rfl (hb hby at_133) rfl kZ) ?_
  show own_R p.tables e below _ (T182.setTop (mkF m 134 #[.val (.int p1), .val (.int p2), .val (.int p3), .val (.int p4), .val (.int p5), .val (.int p6), .val (.int (Int32.ofNat N)), .val (.int (Int32.ofNat M)), .val (.ref bf), .val (.ref bt), .val (.ref bw), .unset, .unset, .unset, .unset] [(.int ((p4.toUInt32 >>> ((16 : Int32) &&& 31).toUInt32).toInt32)), (.int (1 : Int32)), (.int (2 : Int32)), (.ref bt)]))
  refine own_by (fun _ kZ => XS.sipush X182.here hx rfl (hb hby at_134) kZ) ?_
  show own_R p.tables e below _ (T182.setTop (mkF m 137 #[.val (.int p1), .val (.int p2), .val (.int p3), .val (.int p4), .val (.int p5), .val (.int p6), .val (.int (Int32.ofNat N)), .val (.int (Int32.ofNat M)), .val (.ref bf), .val (.ref bt), .val (.ref bw), .unset, .unset, .unset, .unset] [(.int (255 : Int32)), (.int ((p4.toUInt32 >>> ((16 : Int32) &&& 31).toUInt32).toInt32)), (.int (1 : Int32)), (.int (2 : Int32)), (.ref bt)]))
  refine own_by (fun _ kZ => XS.iand X182.here hx rfl (hb hby at_137) rfl kZ) ?_
  show own_R p.tables e below _ (T182.setTop (mkF m 138 #[.val (.int p1), .val (.int p2), .val (.int p3), .val (.int p4), .val (.int p5), .val (.int p6), .val (.int (Int32.ofNat N)), .val (.int (Int32.ofNat M)), .val (.ref bf), .val (.ref bt), .val (.ref bw), .unset, .unset, .unset, .unset] [(.int (((p4.toUInt32 >>> ((16 : Int32) &&& 31).toUInt32).toInt32) &&& (255 : Int32))), (.int (1 : Int32)), (.int (2 : Int32)), (.ref bt)]))
  refine own_by (fun _ kZ => XS.iload X182.here hx rfl (hb hby at_138) rfl kZ) ?_
  show own_R p.tables e below _ (T182.setTop (mkF m 140 #[.val (.int p1), .val (.int p2), .val (.int p3), .val (.int p4), .val (.int p5), .val (.int p6), .val (.int (Int32.ofNat N)), .val (.int (Int32.ofNat M)), .val (.ref bf), .val (.ref bt), .val (.ref bw), .unset, .unset, .unset, .unset] [(.int (Int32.ofNat N)), (.int (((p4.toUInt32 >>> ((16 : Int32) &&& 31).toUInt32).toInt32) &&& (255 : Int32))), (.int (1 : Int32)), (.int (2 : Int32)), (.ref bt)]))
  refine own_by (fun _ kZ => iremM X182 hx rfl (hb hby at_140) rfl hnz kZ) ?_
  show own_R p.tables e below _ (T182.setTop (mkF m 141 #[.val (.int p1), .val (.int p2), .val (.int p3), .val (.int p4), .val (.int p5), .val (.int p6), .val (.int (Int32.ofNat N)), .val (.int (Int32.ofNat M)), .val (.ref bf), .val (.ref bt), .val (.ref bw), .unset, .unset, .unset, .unset] [(.int ((((p4.toUInt32 >>> ((16 : Int32) &&& 31).toUInt32).toInt32) &&& (255 : Int32)) % (Int32.ofNat N))), (.int (1 : Int32)), (.int (2 : Int32)), (.ref bt)]))
  refine own_by (fun _ kZ => XS.iadd X182.here hx rfl (hb hby at_141) rfl kZ) ?_
  show own_R p.tables e below _ (T182.setTop (mkF m 142 #[.val (.int p1), .val (.int p2), .val (.int p3), .val (.int p4), .val (.int p5), .val (.int p6), .val (.int (Int32.ofNat N)), .val (.int (Int32.ofNat M)), .val (.ref bf), .val (.ref bt), .val (.ref bw), .unset, .unset, .unset, .unset] [(.int ((1 : Int32) + ((((p4.toUInt32 >>> ((16 : Int32) &&& 31).toUInt32).toInt32) &&& (255 : Int32)) % (Int32.ofNat N)))), (.int (2 : Int32)), (.ref bt)]))
  obtain ⟨cl186, Ar186, hin186, -⟩ := V182.rd (i := (2 : Int32)) (p := 2) rfl (by decide) (by decide)
  obtain ⟨T187, h187, X187, e187, W187, st187⟩ := stI X182 hx hZ e182 Ar186 (j := (2 : Int32)) hin186 (g := (mkF m 142 #[.val (.int p1), .val (.int p2), .val (.int p3), .val (.int p4), .val (.int p5), .val (.int p6), .val (.int (Int32.ofNat N)), .val (.int (Int32.ofNat M)), .val (.ref bf), .val (.ref bt), .val (.ref bw), .unset, .unset, .unset, .unset] [(.int ((1 : Int32) + ((((p4.toUInt32 >>> ((16 : Int32) &&& 31).toUInt32).toInt32) &&& (255 : Int32)) % (Int32.ofNat N)))), (.int (2 : Int32)), (.ref bt)])) rfl rfl (hb hby at_142)
  have f188_bw : own_K .int Z h187 bw .int 4 (fun _ => (0 : Int32)) := f183_bw.other W187 (Ne.symm ne_bt_bw)
  have f189_bf : own_K .int Z h187 bf .int 4 (own_uk (own_uk (own_uk (own_uk (fun _ => (0 : Int32)) 0 (Int32.ofNat (F0 + 1))) 1 (Int32.ofNat (F1 + 1))) 2 (Int32.ofNat (F2 + 1))) 3 (Int32.ofNat (F3 + 1))) := f184_bf.other W187 ne_bf_bt
  have Z190 : n0 ≤ h187.size := Nat.le_trans Z185 (Keep.of_wr W187).1
  have N190 := Fr.snoc X187 N185 ge_bt
  have V187 : own_K .int Z h187 bt .int 4 (own_uk (own_uk (own_uk (fun _ => (0 : Int32)) 0 ((1 : Int32) + ((p4 &&& (255 : Int32)) % (Int32.ofNat N)))) 1 ((1 : Int32) + ((((p4.toUInt32 >>> ((8 : Int32) &&& 31).toUInt32).toInt32) &&& (255 : Int32)) % (Int32.ofNat N)))) 2 ((1 : Int32) + ((((p4.toUInt32 >>> ((16 : Int32) &&& 31).toUInt32).toInt32) &&& (255 : Int32)) % (Int32.ofNat N)))) := V182.set (i := (2 : Int32)) (p := 2) rfl W187
  refine own_by st187 ?_
  show own_R p.tables e below _ (T187.setTop (mkF m 143 #[.val (.int p1), .val (.int p2), .val (.int p3), .val (.int p4), .val (.int p5), .val (.int p6), .val (.int (Int32.ofNat N)), .val (.int (Int32.ofNat M)), .val (.ref bf), .val (.ref bt), .val (.ref bw), .unset, .unset, .unset, .unset] []))
  refine own_by (fun _ kZ => XS.aload X187.here hx rfl (hb hby at_143) rfl rfl kZ) ?_
  show own_R p.tables e below _ (T187.setTop (mkF m 145 #[.val (.int p1), .val (.int p2), .val (.int p3), .val (.int p4), .val (.int p5), .val (.int p6), .val (.int (Int32.ofNat N)), .val (.int (Int32.ofNat M)), .val (.ref bf), .val (.ref bt), .val (.ref bw), .unset, .unset, .unset, .unset] [(.ref bt)]))
  refine own_by (fun _ kZ => XS.iconst X187.here hx rfl (hb hby at_145) kZ) ?_
  show own_R p.tables e below _ (T187.setTop (mkF m 146 #[.val (.int p1), .val (.int p2), .val (.int p3), .val (.int p4), .val (.int p5), .val (.int p6), .val (.int (Int32.ofNat N)), .val (.int (Int32.ofNat M)), .val (.ref bf), .val (.ref bt), .val (.ref bw), .unset, .unset, .unset, .unset] [(.int (3 : Int32)), (.ref bt)]))
  refine own_by (fun _ kZ => XS.iconst X187.here hx rfl (hb hby at_146) kZ) ?_
  show own_R p.tables e below _ (T187.setTop (mkF m 147 #[.val (.int p1), .val (.int p2), .val (.int p3), .val (.int p4), .val (.int p5), .val (.int p6), .val (.int (Int32.ofNat N)), .val (.int (Int32.ofNat M)), .val (.ref bf), .val (.ref bt), .val (.ref bw), .unset, .unset, .unset, .unset] [(.int (1 : Int32)), (.int (3 : Int32)), (.ref bt)]))
  refine own_by (fun _ kZ => XS.iloadN X187.here hx rfl (hb hby at_147) rfl kZ) ?_
  show own_R p.tables e below _ (T187.setTop (mkF m 148 #[.val (.int p1), .val (.int p2), .val (.int p3), .val (.int p4), .val (.int p5), .val (.int p6), .val (.int (Int32.ofNat N)), .val (.int (Int32.ofNat M)), .val (.ref bf), .val (.ref bt), .val (.ref bw), .unset, .unset, .unset, .unset] [(.int p4), (.int (1 : Int32)), (.int (3 : Int32)), (.ref bt)]))
  refine own_by (fun _ kZ => XS.bipush X187.here hx rfl (hb hby at_148) kZ) ?_
  show own_R p.tables e below _ (T187.setTop (mkF m 150 #[.val (.int p1), .val (.int p2), .val (.int p3), .val (.int p4), .val (.int p5), .val (.int p6), .val (.int (Int32.ofNat N)), .val (.int (Int32.ofNat M)), .val (.ref bf), .val (.ref bt), .val (.ref bw), .unset, .unset, .unset, .unset] [(.int (24 : Int32)), (.int p4), (.int (1 : Int32)), (.int (3 : Int32)), (.ref bt)]))
  refine own_by (fun _ kZ => XS.iushr X187.here hx rfl (hb hby at_150) rfl kZ) ?_
  show own_R p.tables e below _ (T187.setTop (mkF m 151 #[.val (.int p1), .val (.int p2), .val (.int p3), .val (.int p4), .val (.int p5), .val (.int p6), .val (.int (Int32.ofNat N)), .val (.int (Int32.ofNat M)), .val (.ref bf), .val (.ref bt), .val (.ref bw), .unset, .unset, .unset, .unset] [(.int ((p4.toUInt32 >>> ((24 : Int32) &&& 31).toUInt32).toInt32)), (.int (1 : Int32)), (.int (3 : Int32)), (.ref bt)]))
  refine own_by (fun _ kZ => XS.sipush X187.here hx rfl (hb hby at_151) kZ) ?_
  show own_R p.tables e below _ (T187.setTop (mkF m 154 #[.val (.int p1), .val (.int p2), .val (.int p3), .val (.int p4), .val (.int p5), .val (.int p6), .val (.int (Int32.ofNat N)), .val (.int (Int32.ofNat M)), .val (.ref bf), .val (.ref bt), .val (.ref bw), .unset, .unset, .unset, .unset] [(.int (255 : Int32)), (.int ((p4.toUInt32 >>> ((24 : Int32) &&& 31).toUInt32).toInt32)), (.int (1 : Int32)), (.int (3 : Int32)), (.ref bt)]))
  refine own_by (fun _ kZ => XS.iand X187.here hx rfl (hb hby at_154) rfl kZ) ?_
  show own_R p.tables e below _ (T187.setTop (mkF m 155 #[.val (.int p1), .val (.int p2), .val (.int p3), .val (.int p4), .val (.int p5), .val (.int p6), .val (.int (Int32.ofNat N)), .val (.int (Int32.ofNat M)), .val (.ref bf), .val (.ref bt), .val (.ref bw), .unset, .unset, .unset, .unset] [(.int (((p4.toUInt32 >>> ((24 : Int32) &&& 31).toUInt32).toInt32) &&& (255 : Int32))), (.int (1 : Int32)), (.int (3 : Int32)), (.ref bt)]))
  refine own_by (fun _ kZ => XS.iload X187.here hx rfl (hb hby at_155) rfl kZ) ?_
  show own_R p.tables e below _ (T187.setTop (mkF m 157 #[.val (.int p1), .val (.int p2), .val (.int p3), .val (.int p4), .val (.int p5), .val (.int p6), .val (.int (Int32.ofNat N)), .val (.int (Int32.ofNat M)), .val (.ref bf), .val (.ref bt), .val (.ref bw), .unset, .unset, .unset, .unset] [(.int (Int32.ofNat N)), (.int (((p4.toUInt32 >>> ((24 : Int32) &&& 31).toUInt32).toInt32) &&& (255 : Int32))), (.int (1 : Int32)), (.int (3 : Int32)), (.ref bt)]))
  refine own_by (fun _ kZ => iremM X187 hx rfl (hb hby at_157) rfl hnz kZ) ?_
  show own_R p.tables e below _ (T187.setTop (mkF m 158 #[.val (.int p1), .val (.int p2), .val (.int p3), .val (.int p4), .val (.int p5), .val (.int p6), .val (.int (Int32.ofNat N)), .val (.int (Int32.ofNat M)), .val (.ref bf), .val (.ref bt), .val (.ref bw), .unset, .unset, .unset, .unset] [(.int ((((p4.toUInt32 >>> ((24 : Int32) &&& 31).toUInt32).toInt32) &&& (255 : Int32)) % (Int32.ofNat N))), (.int (1 : Int32)), (.int (3 : Int32)), (.ref bt)]))
  refine own_by (fun _ kZ => XS.iadd X187.here hx rfl (hb hby at_158) rfl kZ) ?_
  show own_R p.tables e below _ (T187.setTop (mkF m 159 #[.val (.int p1), .val (.int p2), .val (.int p3), .val (.int p4), .val (.int p5), .val (.int p6), .val (.int (Int32.ofNat N)), .val (.int (Int32.ofNat M)), .val (.ref bf), .val (.ref bt), .val (.ref bw), .unset, .unset, .unset, .unset] [(.int ((1 : Int32) + ((((p4.toUInt32 >>> ((24 : Int32) &&& 31).toUInt32).toInt32) &&& (255 : Int32)) % (Int32.ofNat N)))), (.int (3 : Int32)), (.ref bt)]))
  obtain ⟨cl191, Ar191, hin191, -⟩ := V187.rd (i := (3 : Int32)) (p := 3) rfl (by decide) (by decide)
  obtain ⟨T192, h192, X192, e192, W192, st192⟩ := stI X187 hx hZ e187 Ar191 (j := (3 : Int32)) hin191 (g := (mkF m 159 #[.val (.int p1), .val (.int p2), .val (.int p3), .val (.int p4), .val (.int p5), .val (.int p6), .val (.int (Int32.ofNat N)), .val (.int (Int32.ofNat M)), .val (.ref bf), .val (.ref bt), .val (.ref bw), .unset, .unset, .unset, .unset] [(.int ((1 : Int32) + ((((p4.toUInt32 >>> ((24 : Int32) &&& 31).toUInt32).toInt32) &&& (255 : Int32)) % (Int32.ofNat N)))), (.int (3 : Int32)), (.ref bt)])) rfl rfl (hb hby at_159)
  have f193_bw : own_K .int Z h192 bw .int 4 (fun _ => (0 : Int32)) := f188_bw.other W192 (Ne.symm ne_bt_bw)
  have f194_bf : own_K .int Z h192 bf .int 4 (own_uk (own_uk (own_uk (own_uk (fun _ => (0 : Int32)) 0 (Int32.ofNat (F0 + 1))) 1 (Int32.ofNat (F1 + 1))) 2 (Int32.ofNat (F2 + 1))) 3 (Int32.ofNat (F3 + 1))) := f189_bf.other W192 ne_bf_bt
  have Z195 : n0 ≤ h192.size := Nat.le_trans Z190 (Keep.of_wr W192).1
  have N195 := Fr.snoc X192 N190 ge_bt
  have V192 : own_K .int Z h192 bt .int 4 (own_uk (own_uk (own_uk (own_uk (fun _ => (0 : Int32)) 0 ((1 : Int32) + ((p4 &&& (255 : Int32)) % (Int32.ofNat N)))) 1 ((1 : Int32) + ((((p4.toUInt32 >>> ((8 : Int32) &&& 31).toUInt32).toInt32) &&& (255 : Int32)) % (Int32.ofNat N)))) 2 ((1 : Int32) + ((((p4.toUInt32 >>> ((16 : Int32) &&& 31).toUInt32).toInt32) &&& (255 : Int32)) % (Int32.ofNat N)))) 3 ((1 : Int32) + ((((p4.toUInt32 >>> ((24 : Int32) &&& 31).toUInt32).toInt32) &&& (255 : Int32)) % (Int32.ofNat N)))) := V187.set (i := (3 : Int32)) (p := 3) rfl W192
  refine own_by st192 ?_
  show own_R p.tables e below _ (T192.setTop (mkF m 160 #[.val (.int p1), .val (.int p2), .val (.int p3), .val (.int p4), .val (.int p5), .val (.int p6), .val (.int (Int32.ofNat N)), .val (.int (Int32.ofNat M)), .val (.ref bf), .val (.ref bt), .val (.ref bw), .unset, .unset, .unset, .unset] []))
  refine own_by (fun _ kZ => XS.aload X192.here hx rfl (hb hby at_160) rfl rfl kZ) ?_
  show own_R p.tables e below _ (T192.setTop (mkF m 162 #[.val (.int p1), .val (.int p2), .val (.int p3), .val (.int p4), .val (.int p5), .val (.int p6), .val (.int (Int32.ofNat N)), .val (.int (Int32.ofNat M)), .val (.ref bf), .val (.ref bt), .val (.ref bw), .unset, .unset, .unset, .unset] [(.ref bw)]))
  refine own_by (fun _ kZ => XS.iconst X192.here hx rfl (hb hby at_162) kZ) ?_
  show own_R p.tables e below _ (T192.setTop (mkF m 163 #[.val (.int p1), .val (.int p2), .val (.int p3), .val (.int p4), .val (.int p5), .val (.int p6), .val (.int (Int32.ofNat N)), .val (.int (Int32.ofNat M)), .val (.ref bf), .val (.ref bt), .val (.ref bw), .unset, .unset, .unset, .unset] [(.int (0 : Int32)), (.ref bw)]))
  refine own_by (fun _ kZ => XS.iload X192.here hx rfl (hb hby at_163) rfl kZ) ?_
  show own_R p.tables e below _ (T192.setTop (mkF m 165 #[.val (.int p1), .val (.int p2), .val (.int p3), .val (.int p4), .val (.int p5), .val (.int p6), .val (.int (Int32.ofNat N)), .val (.int (Int32.ofNat M)), .val (.ref bf), .val (.ref bt), .val (.ref bw), .unset, .unset, .unset, .unset] [(.int p5), (.int (0 : Int32)), (.ref bw)]))
  refine own_by (fun _ kZ => XS.sipush X192.here hx rfl (hb hby at_165) kZ) ?_
  show own_R p.tables e below _ (T192.setTop (mkF m 168 #[.val (.int p1), .val (.int p2), .val (.int p3), .val (.int p4), .val (.int p5), .val (.int p6), .val (.int (Int32.ofNat N)), .val (.int (Int32.ofNat M)), .val (.ref bf), .val (.ref bt), .val (.ref bw), .unset, .unset, .unset, .unset] [(.int (255 : Int32)), (.int p5), (.int (0 : Int32)), (.ref bw)]))
  refine own_by (fun _ kZ => XS.iand X192.here hx rfl (hb hby at_168) rfl kZ) ?_
  show own_R p.tables e below _ (T192.setTop (mkF m 169 #[.val (.int p1), .val (.int p2), .val (.int p3), .val (.int p4), .val (.int p5), .val (.int p6), .val (.int (Int32.ofNat N)), .val (.int (Int32.ofNat M)), .val (.ref bf), .val (.ref bt), .val (.ref bw), .unset, .unset, .unset, .unset] [(.int (p5 &&& (255 : Int32))), (.int (0 : Int32)), (.ref bw)]))
  obtain ⟨cl196, Ar196, hin196, -⟩ := f193_bw.rd (i := (0 : Int32)) (p := 0) rfl (by decide) (by decide)
  obtain ⟨T197, h197, X197, e197, W197, st197⟩ := stI X192 hx hZ e192 Ar196 (j := (0 : Int32)) hin196 (g := (mkF m 169 #[.val (.int p1), .val (.int p2), .val (.int p3), .val (.int p4), .val (.int p5), .val (.int p6), .val (.int (Int32.ofNat N)), .val (.int (Int32.ofNat M)), .val (.ref bf), .val (.ref bt), .val (.ref bw), .unset, .unset, .unset, .unset] [(.int (p5 &&& (255 : Int32))), (.int (0 : Int32)), (.ref bw)])) rfl rfl (hb hby at_169)
  have f198_bf : own_K .int Z h197 bf .int 4 (own_uk (own_uk (own_uk (own_uk (fun _ => (0 : Int32)) 0 (Int32.ofNat (F0 + 1))) 1 (Int32.ofNat (F1 + 1))) 2 (Int32.ofNat (F2 + 1))) 3 (Int32.ofNat (F3 + 1))) := f194_bf.other W197 ne_bf_bw
  have f199_bt : own_K .int Z h197 bt .int 4 (own_uk (own_uk (own_uk (own_uk (fun _ => (0 : Int32)) 0 ((1 : Int32) + ((p4 &&& (255 : Int32)) % (Int32.ofNat N)))) 1 ((1 : Int32) + ((((p4.toUInt32 >>> ((8 : Int32) &&& 31).toUInt32).toInt32) &&& (255 : Int32)) % (Int32.ofNat N)))) 2 ((1 : Int32) + ((((p4.toUInt32 >>> ((16 : Int32) &&& 31).toUInt32).toInt32) &&& (255 : Int32)) % (Int32.ofNat N)))) 3 ((1 : Int32) + ((((p4.toUInt32 >>> ((24 : Int32) &&& 31).toUInt32).toInt32) &&& (255 : Int32)) % (Int32.ofNat N)))) := V192.other W197 ne_bt_bw
  have Z200 : n0 ≤ h197.size := Nat.le_trans Z195 (Keep.of_wr W197).1
  have N200 := Fr.snoc X197 N195 ge_bw
  have V197 : own_K .int Z h197 bw .int 4 (own_uk (fun _ => (0 : Int32)) 0 (p5 &&& (255 : Int32))) := f193_bw.set (i := (0 : Int32)) (p := 0) rfl W197
  refine own_by st197 ?_
  show own_R p.tables e below _ (T197.setTop (mkF m 170 #[.val (.int p1), .val (.int p2), .val (.int p3), .val (.int p4), .val (.int p5), .val (.int p6), .val (.int (Int32.ofNat N)), .val (.int (Int32.ofNat M)), .val (.ref bf), .val (.ref bt), .val (.ref bw), .unset, .unset, .unset, .unset] []))
  refine own_by (fun _ kZ => XS.aload X197.here hx rfl (hb hby at_170) rfl rfl kZ) ?_
  show own_R p.tables e below _ (T197.setTop (mkF m 172 #[.val (.int p1), .val (.int p2), .val (.int p3), .val (.int p4), .val (.int p5), .val (.int p6), .val (.int (Int32.ofNat N)), .val (.int (Int32.ofNat M)), .val (.ref bf), .val (.ref bt), .val (.ref bw), .unset, .unset, .unset, .unset] [(.ref bw)]))
  refine own_by (fun _ kZ => XS.iconst X197.here hx rfl (hb hby at_172) kZ) ?_
  show own_R p.tables e below _ (T197.setTop (mkF m 173 #[.val (.int p1), .val (.int p2), .val (.int p3), .val (.int p4), .val (.int p5), .val (.int p6), .val (.int (Int32.ofNat N)), .val (.int (Int32.ofNat M)), .val (.ref bf), .val (.ref bt), .val (.ref bw), .unset, .unset, .unset, .unset] [(.int (1 : Int32)), (.ref bw)]))
  refine own_by (fun _ kZ => XS.iload X197.here hx rfl (hb hby at_173) rfl kZ) ?_
  show own_R p.tables e below _ (T197.setTop (mkF m 175 #[.val (.int p1), .val (.int p2), .val (.int p3), .val (.int p4), .val (.int p5), .val (.int p6), .val (.int (Int32.ofNat N)), .val (.int (Int32.ofNat M)), .val (.ref bf), .val (.ref bt), .val (.ref bw), .unset, .unset, .unset, .unset] [(.int p5), (.int (1 : Int32)), (.ref bw)]))
  refine own_by (fun _ kZ => XS.bipush X197.here hx rfl (hb hby at_175) kZ) ?_
  show own_R p.tables e below _ (T197.setTop (mkF m 177 #[.val (.int p1), .val (.int p2), .val (.int p3), .val (.int p4), .val (.int p5), .val (.int p6), .val (.int (Int32.ofNat N)), .val (.int (Int32.ofNat M)), .val (.ref bf), .val (.ref bt), .val (.ref bw), .unset, .unset, .unset, .unset] [(.int (8 : Int32)), (.int p5), (.int (1 : Int32)), (.ref bw)]))
  refine own_by (fun _ kZ => XS.iushr X197.here hx rfl (hb hby at_177) rfl kZ) ?_
  show own_R p.tables e below _ (T197.setTop (mkF m 178 #[.val (.int p1), .val (.int p2), .val (.int p3), .val (.int p4), .val (.int p5), .val (.int p6), .val (.int (Int32.ofNat N)), .val (.int (Int32.ofNat M)), .val (.ref bf), .val (.ref bt), .val (.ref bw), .unset, .unset, .unset, .unset] [(.int ((p5.toUInt32 >>> ((8 : Int32) &&& 31).toUInt32).toInt32)), (.int (1 : Int32)), (.ref bw)]))
  refine own_by (fun _ kZ => XS.sipush X197.here hx rfl (hb hby at_178) kZ) ?_
  show own_R p.tables e below _ (T197.setTop (mkF m 181 #[.val (.int p1), .val (.int p2), .val (.int p3), .val (.int p4), .val (.int p5), .val (.int p6), .val (.int (Int32.ofNat N)), .val (.int (Int32.ofNat M)), .val (.ref bf), .val (.ref bt), .val (.ref bw), .unset, .unset, .unset, .unset] [(.int (255 : Int32)), (.int ((p5.toUInt32 >>> ((8 : Int32) &&& 31).toUInt32).toInt32)), (.int (1 : Int32)), (.ref bw)]))
  refine own_by (fun _ kZ => XS.iand X197.here hx rfl (hb hby at_181) rfl kZ) ?_
  show own_R p.tables e below _ (T197.setTop (mkF m 182 #[.val (.int p1), .val (.int p2), .val (.int p3), .val (.int p4), .val (.int p5), .val (.int p6), .val (.int (Int32.ofNat N)), .val (.int (Int32.ofNat M)), .val (.ref bf), .val (.ref bt), .val (.ref bw), .unset, .unset, .unset, .unset] [(.int (((p5.toUInt32 >>> ((8 : Int32) &&& 31).toUInt32).toInt32) &&& (255 : Int32))), (.int (1 : Int32)), (.ref bw)]))
  obtain ⟨cl201, Ar201, hin201, -⟩ := V197.rd (i := (1 : Int32)) (p := 1) rfl (by decide) (by decide)
  obtain ⟨T202, h202, X202, e202, W202, st202⟩ := stI X197 hx hZ e197 Ar201 (j := (1 : Int32)) hin201 (g := (mkF m 182 #[.val (.int p1), .val (.int p2), .val (.int p3), .val (.int p4), .val (.int p5), .val (.int p6), .val (.int (Int32.ofNat N)), .val (.int (Int32.ofNat M)), .val (.ref bf), .val (.ref bt), .val (.ref bw), .unset, .unset, .unset, .unset] [(.int (((p5.toUInt32 >>> ((8 : Int32) &&& 31).toUInt32).toInt32) &&& (255 : Int32))), (.int (1 : Int32)), (.ref bw)])) rfl rfl (hb hby at_182)
  have f203_bf : own_K .int Z h202 bf .int 4 (own_uk (own_uk (own_uk (own_uk (fun _ => (0 : Int32)) 0 (Int32.ofNat (F0 + 1))) 1 (Int32.ofNat (F1 + 1))) 2 (Int32.ofNat (F2 + 1))) 3 (Int32.ofNat (F3 + 1))) := f198_bf.other W202 ne_bf_bw
  have f204_bt : own_K .int Z h202 bt .int 4 (own_uk (own_uk (own_uk (own_uk (fun _ => (0 : Int32)) 0 ((1 : Int32) + ((p4 &&& (255 : Int32)) % (Int32.ofNat N)))) 1 ((1 : Int32) + ((((p4.toUInt32 >>> ((8 : Int32) &&& 31).toUInt32).toInt32) &&& (255 : Int32)) % (Int32.ofNat N)))) 2 ((1 : Int32) + ((((p4.toUInt32 >>> ((16 : Int32) &&& 31).toUInt32).toInt32) &&& (255 : Int32)) % (Int32.ofNat N)))) 3 ((1 : Int32) + ((((p4.toUInt32 >>> ((24 : Int32) &&& 31).toUInt32).toInt32) &&& (255 : Int32)) % (Int32.ofNat N)))) := f199_bt.other W202 ne_bt_bw
  have Z205 : n0 ≤ h202.size := Nat.le_trans Z200 (Keep.of_wr W202).1
  have N205 := Fr.snoc X202 N200 ge_bw
  have V202 : own_K .int Z h202 bw .int 4 (own_uk (own_uk (fun _ => (0 : Int32)) 0 (p5 &&& (255 : Int32))) 1 (((p5.toUInt32 >>> ((8 : Int32) &&& 31).toUInt32).toInt32) &&& (255 : Int32))) := V197.set (i := (1 : Int32)) (p := 1) rfl W202
  refine own_by st202 ?_
  show own_R p.tables e below _ (T202.setTop (mkF m 183 #[.val (.int p1), .val (.int p2), .val (.int p3), .val (.int p4), .val (.int p5), .val (.int p6), .val (.int (Int32.ofNat N)), .val (.int (Int32.ofNat M)), .val (.ref bf), .val (.ref bt), .val (.ref bw), .unset, .unset, .unset, .unset] []))
  refine own_by (fun _ kZ => XS.aload X202.here hx rfl (hb hby at_183) rfl rfl kZ) ?_
  show own_R p.tables e below _ (T202.setTop (mkF m 185 #[.val (.int p1), .val (.int p2), .val (.int p3), .val (.int p4), .val (.int p5), .val (.int p6), .val (.int (Int32.ofNat N)), .val (.int (Int32.ofNat M)), .val (.ref bf), .val (.ref bt), .val (.ref bw), .unset, .unset, .unset, .unset] [(.ref bw)]))
  refine own_by (fun _ kZ => XS.iconst X202.here hx rfl (hb hby at_185) kZ) ?_
  show own_R p.tables e below _ (T202.setTop (mkF m 186 #[.val (.int p1), .val (.int p2), .val (.int p3), .val (.int p4), .val (.int p5), .val (.int p6), .val (.int (Int32.ofNat N)), .val (.int (Int32.ofNat M)), .val (.ref bf), .val (.ref bt), .val (.ref bw), .unset, .unset, .unset, .unset] [(.int (2 : Int32)), (.ref bw)]))
  refine own_by (fun _ kZ => XS.iload X202.here hx rfl (hb hby at_186) rfl kZ) ?_
  show own_R p.tables e below _ (T202.setTop (mkF m 188 #[.val (.int p1), .val (.int p2), .val (.int p3), .val (.int p4), .val (.int p5), .val (.int p6), .val (.int (Int32.ofNat N)), .val (.int (Int32.ofNat M)), .val (.ref bf), .val (.ref bt), .val (.ref bw), .unset, .unset, .unset, .unset] [(.int p5), (.int (2 : Int32)), (.ref bw)]))
  refine own_by (fun _ kZ => XS.bipush X202.here hx rfl (hb hby at_188) kZ) ?_
  show own_R p.tables e below _ (T202.setTop (mkF m 190 #[.val (.int p1), .val (.int p2), .val (.int p3), .val (.int p4), .val (.int p5), .val (.int p6), .val (.int (Int32.ofNat N)), .val (.int (Int32.ofNat M)), .val (.ref bf), .val (.ref bt), .val (.ref bw), .unset, .unset, .unset, .unset] [(.int (16 : Int32)), (.int p5), (.int (2 : Int32)), (.ref bw)]))
  refine own_by (fun _ kZ => XS.iushr X202.here hx rfl (hb hby at_190) rfl kZ) ?_
  show own_R p.tables e below _ (T202.setTop (mkF m 191 #[.val (.int p1), .val (.int p2), .val (.int p3), .val (.int p4), .val (.int p5), .val (.int p6), .val (.int (Int32.ofNat N)), .val (.int (Int32.ofNat M)), .val (.ref bf), .val (.ref bt), .val (.ref bw), .unset, .unset, .unset, .unset] [(.int ((p5.toUInt32 >>> ((16 : Int32) &&& 31).toUInt32).toInt32)), (.int (2 : Int32)), (.ref bw)]))
  refine own_by (fun _ kZ => XS.sipush X202.here hx rfl (hb hby at_191) kZ) ?_
  show own_R p.tables e below _ (T202.setTop (mkF m 194 #[.val (.int p1), .val (.int p2), .val (.int p3), .val (.int p4), .val (.int p5), .val (.int p6), .val (.int (Int32.ofNat N)), .val (.int (Int32.ofNat M)), .val (.ref bf), .val (.ref bt), .val (.ref bw), .unset, .unset, .unset, .unset] [(.int (255 : Int32)), (.int ((p5.toUInt32 >>> ((16 : Int32) &&& 31).toUInt32).toInt32)), (.int (2 : Int32)), (.ref bw)]))
  refine own_by (fun _ kZ => XS.iand X202.here hx rfl (hb hby at_194) rfl kZ) ?_
  show own_R p.tables e below _ (T202.setTop (mkF m 195 #[.val (.int p1), .val (.int p2), .val (.int p3), .val (.int p4), .val (.int p5), .val (.int p6), .val (.int (Int32.ofNat N)), .val (.int (Int32.ofNat M)), .val (.ref bf), .val (.ref bt), .val (.ref bw), .unset, .unset, .unset, .unset] [(.int (((p5.toUInt32 >>> ((16 : Int32) &&& 31).toUInt32).toInt32) &&& (255 : Int32))), (.int (2 : Int32)), (.ref bw)]))
  obtain ⟨cl206, Ar206, hin206, -⟩ := V202.rd (i := (2 : Int32)) (p := 2) rfl (by decide) (by decide)
  obtain ⟨T207, h207, X207, e207, W207, st207⟩ := stI X202 hx hZ e202 Ar206 (j := (2 : Int32)) hin206 (g := (mkF m 195 #[.val (.int p1), .val (.int p2), .val (.int p3), .val (.int p4), .val (.int p5), .val (.int p6), .val (.int (Int32.ofNat N)), .val (.int (Int32.ofNat M)), .val (.ref bf), .val (.ref bt), .val (.ref bw), .unset, .unset, .unset, .unset] [(.int (((p5.toUInt32 >>> ((16 : Int32) &&& 31).toUInt32).toInt32) &&& (255 : Int32))), (.int (2 : Int32)), (.ref bw)])) rfl rfl (hb hby at_195)
  have f208_bf : own_K .int Z h207 bf .int 4 (own_uk (own_uk (own_uk (own_uk (fun _ => (0 : Int32)) 0 (Int32.ofNat (F0 + 1))) 1 (Int32.ofNat (F1 + 1))) 2 (Int32.ofNat (F2 + 1))) 3 (Int32.ofNat (F3 + 1))) := f203_bf.other W207 ne_bf_bw
  have f209_bt : own_K .int Z h207 bt .int 4 (own_uk (own_uk (own_uk (own_uk (fun _ => (0 : Int32)) 0 ((1 : Int32) + ((p4 &&& (255 : Int32)) % (Int32.ofNat N)))) 1 ((1 : Int32) + ((((p4.toUInt32 >>> ((8 : Int32) &&& 31).toUInt32).toInt32) &&& (255 : Int32)) % (Int32.ofNat N)))) 2 ((1 : Int32) + ((((p4.toUInt32 >>> ((16 : Int32) &&& 31).toUInt32).toInt32) &&& (255 : Int32)) % (Int32.ofNat N)))) 3 ((1 : Int32) + ((((p4.toUInt32 >>> ((24 : Int32) &&& 31).toUInt32).toInt32) &&& (255 : Int32)) % (Int32.ofNat N)))) := f204_bt.other W207 ne_bt_bw
  have Z210 : n0 ≤ h207.size := Nat.le_trans Z205 (Keep.of_wr W207).1
  have N210 := Fr.snoc X207 N205 ge_bw
  have V207 : own_K .int Z h207 bw .int 4 (own_uk (own_uk (own_uk (fun _ => (0 : Int32)) 0 (p5 &&& (255 : Int32))) 1 (((p5.toUInt32 >>> ((8 : Int32) &&& 31).toUInt32).toInt32) &&& (255 : Int32))) 2 (((p5.toUInt32 >>> ((16 : Int32) &&& 31).toUInt32).toInt32) &&& (255 : Int32))) := V202.set (i := (2 : Int32)) (p := 2) rfl W207
  refine own_by st207 ?_
  show own_R p.tables e below _ (T207.setTop (mkF m 196 #[.val (.int p1), .val (.int p2), .val (.int p3), .val (.int p4), .val (.int p5), .val (.int p6), .val (.int (Int32.ofNat N)), .val (.int (Int32.ofNat M)), .val (.ref bf), .val (.ref bt), .val (.ref bw), .unset, .unset, .unset, .unset] []))
  refine own_by (fun _ kZ => XS.aload X207.here hx rfl (hb hby at_196) rfl rfl kZ) ?_
  show own_R p.tables e below _ (T207.setTop (mkF m 198 #[.val (.int p1), .val (.int p2), .val (.int p3), .val (.int p4), .val (.int p5), .val (.int p6), .val (.int (Int32.ofNat N)), .val (.int (Int32.ofNat M)), .val (.ref bf), .val (.ref bt), .val (.ref bw), .unset, .unset, .unset, .unset] [(.ref bw)]))
  refine own_by (fun _ kZ => XS.iconst X207.here hx rfl (hb hby at_198) kZ) ?_
  show own_R p.tables e below _ (T207.setTop (mkF m 199 #[.val (.int p1), .val (.int p2), .val (.int p3), .val (.int p4), .val (.int p5), .val (.int p6), .val (.int (Int32.ofNat N)), .val (.int (Int32.ofNat M)), .val (.ref bf), .val (.ref bt), .val (.ref bw), .unset, .unset, .unset, .unset] [(.int (3 : Int32)), (.ref bw)]))
  refine own_by (fun _ kZ => XS.iload X207.here hx rfl (hb hby at_199) rfl kZ) ?_
  show own_R p.tables e below _ (T207.setTop (mkF m 201 #[.val (.int p1), .val (.int p2), .val (.int p3), .val (.int p4), .val (.int p5), .val (.int p6), .val (.int (Int32.ofNat N)), .val (.int (Int32.ofNat M)), .val (.ref bf), .val (.ref bt), .val (.ref bw), .unset, .unset, .unset, .unset] [(.int p5), (.int (3 : Int32)), (.ref bw)]))
  refine own_by (fun _ kZ => XS.bipush X207.here hx rfl (hb hby at_201) kZ) ?_
  show own_R p.tables e below _ (T207.setTop (mkF m 203 #[.val (.int p1), .val (.int p2), .val (.int p3), .val (.int p4), .val (.int p5), .val (.int p6), .val (.int (Int32.ofNat N)), .val (.int (Int32.ofNat M)), .val (.ref bf), .val (.ref bt), .val (.ref bw), .unset, .unset, .unset, .unset] [(.int (24 : Int32)), (.int p5), (.int (3 : Int32)), (.ref bw)]))
  refine own_by (fun _ kZ => XS.iushr X207.here hx rfl (hb hby at_203) rfl kZ) ?_
  show own_R p.tables e below _ (T207.setTop (mkF m 204 #[.val (.int p1), .val (.int p2), .val (.int p3), .val (.int p4), .val (.int p5), .val (.int p6), .val (.int (Int32.ofNat N)), .val (.int (Int32.ofNat M)), .val (.ref bf), .val (.ref bt), .val (.ref bw), .unset, .unset, .unset, .unset] [(.int ((p5.toUInt32 >>> ((24 : Int32) &&& 31).toUInt32).toInt32)), (.int (3 : Int32)), (.ref bw)]))
  refine own_by (fun _ kZ => XS.sipush X207.here hx rfl (hb hby at_204) kZ) ?_
  show own_R p.tables e below _ (T207.setTop (mkF m 207 #[.val (.int p1), .val (.int p2), .val (.int p3), .val (.int p4), .val (.int p5), .val (.int p6), .val (.int (Int32.ofNat N)), .val (.int (Int32.ofNat M)), .val (.ref bf), .val (.ref bt), .val (.ref bw), .unset, .unset, .unset, .unset] [(.int (255 : Int32)), (.int ((p5.toUInt32 >>> ((24 : Int32) &&& 31).toUInt32).toInt32)), (.int (3 : Int32)), (.ref bw)]))
  refine own_by (fun _ kZ => XS.iand X207.here hx rfl (hb hby at_207) rfl kZ) ?_
  show own_R p.tables e below _ (T207.setTop (mkF m 208 #[.val (.int p1), .val (.int p2), .val (.int p3), .val (.int p4), .val (.int p5), .val (.int p6), .val (.int (Int32.ofNat N)), .val (.int (Int32.ofNat M)), .val (.ref bf), .val (.ref bt), .val (.ref bw), .unset, .unset, .unset, .unset] [(.int (((p5.toUInt32 >>> ((24 : Int32) &&& 31).toUInt32).toInt32) &&& (255 : Int32))), (.int (3 : Int32)), (.ref bw)]))
  obtain ⟨cl211, Ar211, hin211, -⟩ := V207.rd (i := (3 : Int32)) (p := 3) rfl (by decide) (by decide)
  obtain ⟨T212, h212, X212, e212, W212, st212⟩ := stI X207 hx hZ e207 Ar211 (j := (3 : Int32)) hin211 (g := (mkF m 208 #[.val (.int p1), .val (.int p2), .val (.int p3), .val (.int p4), .val (.int p5), .val (.int p6), .val (.int (Int32.ofNat N)), .val (.int (Int32.ofNat M)), .val (.ref bf), .val (.ref bt), .val (.ref bw), .unset, .unset, .unset, .unset] [(.int (((p5.toUInt32 >>> ((24 : Int32) &&& 31).toUInt32).toInt32) &&& (255 : Int32))), (.int (3 : Int32)), (.ref bw)])) rfl rfl (hb hby at_208)
  have f213_bf : own_K .int Z h212 bf .int 4 (own_uk (own_uk (own_uk (own_uk (fun _ => (0 : Int32)) 0 (Int32.ofNat (F0 + 1))) 1 (Int32.ofNat (F1 + 1))) 2 (Int32.ofNat (F2 + 1))) 3 (Int32.ofNat (F3 + 1))) := f208_bf.other W212 ne_bf_bw
  have f214_bt : own_K .int Z h212 bt .int 4 (own_uk (own_uk (own_uk (own_uk (fun _ => (0 : Int32)) 0 ((1 : Int32) + ((p4 &&& (255 : Int32)) % (Int32.ofNat N)))) 1 ((1 : Int32) + ((((p4.toUInt32 >>> ((8 : Int32) &&& 31).toUInt32).toInt32) &&& (255 : Int32)) % (Int32.ofNat N)))) 2 ((1 : Int32) + ((((p4.toUInt32 >>> ((16 : Int32) &&& 31).toUInt32).toInt32) &&& (255 : Int32)) % (Int32.ofNat N)))) 3 ((1 : Int32) + ((((p4.toUInt32 >>> ((24 : Int32) &&& 31).toUInt32).toInt32) &&& (255 : Int32)) % (Int32.ofNat N)))) := f209_bt.other W212 ne_bt_bw
  have Z215 : n0 ≤ h212.size := Nat.le_trans Z210 (Keep.of_wr W212).1
  have N215 := Fr.snoc X212 N210 ge_bw
  have V212 : own_K .int Z h212 bw .int 4 (own_uk (own_uk (own_uk (own_uk (fun _ => (0 : Int32)) 0 (p5 &&& (255 : Int32))) 1 (((p5.toUInt32 >>> ((8 : Int32) &&& 31).toUInt32).toInt32) &&& (255 : Int32))) 2 (((p5.toUInt32 >>> ((16 : Int32) &&& 31).toUInt32).toInt32) &&& (255 : Int32))) 3 (((p5.toUInt32 >>> ((24 : Int32) &&& 31).toUInt32).toInt32) &&& (255 : Int32))) := V207.set (i := (3 : Int32)) (p := 3) rfl W212
  refine own_by st212 ?_
  show own_R p.tables e below _ (T212.setTop (mkF m 209 #[.val (.int p1), .val (.int p2), .val (.int p3), .val (.int p4), .val (.int p5), .val (.int p6), .val (.int (Int32.ofNat N)), .val (.int (Int32.ofNat M)), .val (.ref bf), .val (.ref bt), .val (.ref bw), .unset, .unset, .unset, .unset] []))
  obtain ⟨T216, h216, X216, e216, E216, A216, D216, -, st216⟩ := newO X212 hx hZ hown (hw _ (List.mem_of_getElem? (i := 2) rfl)) (hw _ (List.mem_of_getElem? (i := 3) rfl)) (hw _ (List.mem_of_getElem? (i := 4) rfl)) e212 (g := (mkF m 209 #[.val (.int p1), .val (.int p2), .val (.int p3), .val (.int p4), .val (.int p5), .val (.int p6), .val (.int (Int32.ofNat N)), .val (.int (Int32.ofNat M)), .val (.ref bf), .val (.ref bt), .val (.ref bw), .unset, .unset, .unset, .unset] [])) rfl (hb hby at_209) (by decide) (by decide)
  obtain ⟨bg, g216⟩ : ∃ z, z = h212.size := ⟨_, rfl⟩
  have ne_bf_bg : bf ≠ bg := Nat.ne_of_lt (Nat.lt_of_lt_of_le f213_bf.lt (Nat.le_of_eq g216.symm))
  have ne_bt_bg : bt ≠ bg := Nat.ne_of_lt (Nat.lt_of_lt_of_le f214_bt.lt (Nat.le_of_eq g216.symm))
  have ne_bw_bg : bw ≠ bg := Nat.ne_of_lt (Nat.lt_of_lt_of_le V212.lt (Nat.le_of_eq g216.symm))
  have ge_bg : n0 ≤ bg := Nat.le_trans Z215 (Nat.le_of_eq g216.symm)
  rw [← g216] at A216 D216 st216
  have f217_bf : own_K .int Z h216 bf .int 4 (own_uk (own_uk (own_uk (own_uk (fun _ => (0 : Int32)) 0 (Int32.ofNat (F0 + 1))) 1 (Int32.ofNat (F1 + 1))) 2 (Int32.ofNat (F2 + 1))) 3 (Int32.ofNat (F3 + 1))) := f213_bf.ext E216
  have f218_bt : own_K .int Z h216 bt .int 4 (own_uk (own_uk (own_uk (own_uk (fun _ => (0 : Int32)) 0 ((1 : Int32) + ((p4 &&& (255 : Int32)) % (Int32.ofNat N)))) 1 ((1 : Int32) + ((((p4.toUInt32 >>> ((8 : Int32) &&& 31).toUInt32).toInt32) &&& (255 : Int32)) % (Int32.ofNat N)))) 2 ((1 : Int32) + ((((p4.toUInt32 >>> ((16 : Int32) &&& 31).toUInt32).toInt32) &&& (255 : Int32)) % (Int32.ofNat N)))) 3 ((1 : Int32) + ((((p4.toUInt32 >>> ((24 : Int32) &&& 31).toUInt32).toInt32) &&& (255 : Int32)) % (Int32.ofNat N)))) := f214_bt.ext E216
  have f219_bw : own_K .int Z h216 bw .int 4 (own_uk (own_uk (own_uk (own_uk (fun _ => (0 : Int32)) 0 (p5 &&& (255 : Int32))) 1 (((p5.toUInt32 >>> ((8 : Int32) &&& 31).toUInt32).toInt32) &&& (255 : Int32))) 2 (((p5.toUInt32 >>> ((16 : Int32) &&& 31).toUInt32).toInt32) &&& (255 : Int32))) 3 (((p5.toUInt32 >>> ((24 : Int32) &&& 31).toUInt32).toInt32) &&& (255 : Int32))) := V212.ext E216
  have Z220 : n0 ≤ h216.size := Nat.le_trans Z215 E216.1
  have F216_m_firstArc : Fld Z h216 bg "com/example/bucket/bucket/graph/Graph" "m_firstArc" "[I" .null := D216 (Or.inr (hw _ (List.mem_of_getElem? (i := 12) rfl))) (ty := (.array .int)) (by decide)
  have F216_m_head : Fld Z h216 bg "com/example/bucket/bucket/graph/Graph" "m_head" "[I" .null := D216 (Or.inr (hw _ (List.mem_of_getElem? (i := 14) rfl))) (ty := (.array .int)) (by decide)
  have F216_m_weight : Fld Z h216 bg "com/example/bucket/bucket/graph/Graph" "m_weight" "[I" .null := D216 (Or.inr (hw _ (List.mem_of_getElem? (i := 16) rfl))) (ty := (.array .int)) (by decide)
  refine own_by st216 ?_
  show own_R p.tables e below _ (T216.setTop (mkF m 212 #[.val (.int p1), .val (.int p2), .val (.int p3), .val (.int p4), .val (.int p5), .val (.int p6), .val (.int (Int32.ofNat N)), .val (.int (Int32.ofNat M)), .val (.ref bf), .val (.ref bt), .val (.ref bw), .unset, .unset, .unset, .unset] [(.ref bg)]))
  refine own_by (fun _ kZ => XS.dup X216.here hx rfl (hb hby at_212) rfl rfl kZ) ?_
  show own_R p.tables e below _ (T216.setTop (mkF m 213 #[.val (.int p1), .val (.int p2), .val (.int p3), .val (.int p4), .val (.int p5), .val (.int p6), .val (.int (Int32.ofNat N)), .val (.int (Int32.ofNat M)), .val (.ref bf), .val (.ref bt), .val (.ref bw), .unset, .unset, .unset, .unset] [(.ref bg), (.ref bg)]))
  refine own_by (fun _ kZ => XS.iload X216.here hx rfl (hb hby at_213) rfl kZ) ?_
  show own_R p.tables e below _ (T216.setTop (mkF m 215 #[.val (.int p1), .val (.int p2), .val (.int p3), .val (.int p4), .val (.int p5), .val (.int p6), .val (.int (Int32.ofNat N)), .val (.int (Int32.ofNat M)), .val (.ref bf), .val (.ref bt), .val (.ref bw), .unset, .unset, .unset, .unset] [(.int (Int32.ofNat N)), (.ref bg), (.ref bg)]))
  refine own_by (fun _ kZ => XS.iload X216.here hx rfl (hb hby at_215) rfl kZ) ?_
  show own_R p.tables e below _ (T216.setTop (mkF m 217 #[.val (.int p1), .val (.int p2), .val (.int p3), .val (.int p4), .val (.int p5), .val (.int p6), .val (.int (Int32.ofNat N)), .val (.int (Int32.ofNat M)), .val (.ref bf), .val (.ref bt), .val (.ref bw), .unset, .unset, .unset, .unset] [(.int (Int32.ofNat M)), (.int (Int32.ofNat N)), (.ref bg), (.ref bg)]))
  refine own_by (fun _ kZ => XS.aload X216.here hx rfl (hb hby at_217) rfl rfl kZ) ?_
  show own_R p.tables e below _ (T216.setTop (mkF m 219 #[.val (.int p1), .val (.int p2), .val (.int p3), .val (.int p4), .val (.int p5), .val (.int p6), .val (.int (Int32.ofNat N)), .val (.int (Int32.ofNat M)), .val (.ref bf), .val (.ref bt), .val (.ref bw), .unset, .unset, .unset, .unset] [(.ref bf), (.int (Int32.ofNat M)), (.int (Int32.ofNat N)), (.ref bg), (.ref bg)]))
  refine own_by (fun _ kZ => XS.aload X216.here hx rfl (hb hby at_219) rfl rfl kZ) ?_
  show own_R p.tables e below _ (T216.setTop (mkF m 221 #[.val (.int p1), .val (.int p2), .val (.int p3), .val (.int p4), .val (.int p5), .val (.int p6), .val (.int (Int32.ofNat N)), .val (.int (Int32.ofNat M)), .val (.ref bf), .val (.ref bt), .val (.ref bw), .unset, .unset, .unset, .unset] [(.ref bt), (.ref bf), (.int (Int32.ofNat M)), (.int (Int32.ofNat N)), (.ref bg), (.ref bg)]))
  refine own_by (fun _ kZ => XS.aload X216.here hx rfl (hb hby at_221) rfl rfl kZ) ?_
  show own_R p.tables e below _ (T216.setTop (mkF m 223 #[.val (.int p1), .val (.int p2), .val (.int p3), .val (.int p4), .val (.int p5), .val (.int p6), .val (.int (Int32.ofNat N)), .val (.int (Int32.ofNat M)), .val (.ref bf), .val (.ref bt), .val (.ref bw), .unset, .unset, .unset, .unset] [(.ref bw), (.ref bt), (.ref bf), (.int (Int32.ofNat M)), (.int (Int32.ofNat N)), (.ref bg), (.ref bg)]))
  have hgf : ∀ j, j < M → (own_uk (own_uk (own_uk (own_uk (fun _ => (0 : Int32)) 0 (Int32.ofNat (F0 + 1))) 1 (Int32.ofNat (F1 + 1))) 2 (Int32.ofNat (F2 + 1))) 3 (Int32.ofNat (F3 + 1))) j = Int32.ofNat (own_F F0 F1 F2 F3 j + 1) := fun j hj => own_gf F0 F1 F2 F3 j (by omega)
  have hFn : ∀ j, j < M → own_F F0 F1 F2 F3 j < N := fun j hj => own_Flt lF0 lF1 lF2 lF3 j (by omega)
  obtain ⟨_, _, ⟨T221, L221, k221, n221⟩, -, X221, ⟨Lc221, hQ221, l221, y221, z221⟩, st221⟩ := X216.specialBack hx (y := (⟨"com/example/bucket/bucket/graph/Graph", "<init>", "(II[I[I[I)V"⟩ : MethodName)) rfl hown (mvT hZ (hw _ (List.mem_of_getElem? (i := 5) rfl))) (mvT hZ (hw _ (List.mem_of_getElem? (i := 6) rfl))) (mvT hZ (hw _ (List.mem_of_getElem? (i := 7) rfl))) (by decide) (backOf (W := 1) (rm1 l Z a0 hw [] bg (Int32.ofNat N) (Int32.ofNat M) bf bt bw M N (own_F F0 F1 F2 F3) (own_uk (own_uk (own_uk (own_uk (fun _ => (0 : Int32)) 0 (Int32.ofNat (F0 + 1))) 1 (Int32.ofNat (F1 + 1))) 2 (Int32.ofNat (F2 + 1))) 3 (Int32.ofNat (F3 + 1))) (own_uk (own_uk (own_uk (own_uk (fun _ => (0 : Int32)) 0 ((1 : Int32) + ((p4 &&& (255 : Int32)) % (Int32.ofNat N)))) 1 ((1 : Int32) + ((((p4.toUInt32 >>> ((8 : Int32) &&& 31).toUInt32).toInt32) &&& (255 : Int32)) % (Int32.ofNat N)))) 2 ((1 : Int32) + ((((p4.toUInt32 >>> ((16 : Int32) &&& 31).toUInt32).toInt32) &&& (255 : Int32)) % (Int32.ofNat N)))) 3 ((1 : Int32) + ((((p4.toUInt32 >>> ((24 : Int32) &&& 31).toUInt32).toInt32) &&& (255 : Int32)) % (Int32.ofNat N)))) (own_uk (own_uk (own_uk (own_uk (fun _ => (0 : Int32)) 0 (p5 &&& (255 : Int32))) 1 (((p5.toUInt32 >>> ((8 : Int32) &&& 31).toUInt32).toInt32) &&& (255 : Int32))) 2 (((p5.toUInt32 >>> ((16 : Int32) &&& 31).toUInt32).toInt32) &&& (255 : Int32))) 3 (((p5.toUInt32 >>> ((24 : Int32) &&& 31).toUInt32).toInt32) &&& (255 : Int32))) h216 n0 Z220 hM4 hN4 hN1 hFn hgf rfl rfl ge_bg ne_bf_bg ne_bt_bg ne_bw_bg A216 F216_m_firstArc F216_m_head F216_m_weight f217_bf f218_bt f219_bw) hZ (hw _ (List.mem_of_getElem? (i := 7) rfl)) (hw _ (List.mem_of_getElem? (i := 4) rfl)) (by decide) (by decide)) (g := (mkF m 223 #[.val (.int p1), .val (.int p2), .val (.int p3), .val (.int p4), .val (.int p5), .val (.int p6), .val (.int (Int32.ofNat N)), .val (.int (Int32.ofNat M)), .val (.ref bf), .val (.ref bt), .val (.ref bw), .unset, .unset, .unset, .unset] [(.ref bw), (.ref bt), (.ref bf), (.int (Int32.ofNat M)), (.int (Int32.ofNat N)), (.ref bg), (.ref bg)])) rfl (by rw [hml]; rfl) (Steps.refl _) (a := bg) (argsL := [(.int (Int32.ofNat N)), (.int (Int32.ofNat M)), (.ref bf), (.ref bt), (.ref bw)]) (rest := [(.ref bg)]) (lenOf own_pd0 rfl) rfl (by show 2 * 0 + _ ≤ _; exact Nat.le_of_eq rfl) (hb hby at_223) (fun _ _ => ⟨rfl, e216, (by decide : 4 + 3 ≤ _), (by decide : 15 + 12 ≤ _)⟩)
  dsimp only [Pt.U, Pt.locs, Pt.cells, Pt.slots] at X221 l221 y221 z221 st221 hQ221
  subst l221 y221 z221
  obtain ⟨rfl, Nq221, K221, bb221, bc221, gc221, Ffa221, Fh221, Vb221, Vc221⟩ := hQ221
  have N221 := Fr.app N215 Nq221
  have f222_bf : own_K .int Z T221.heap bf .int 4 (own_uk (own_uk (own_uk (own_uk (fun _ => (0 : Int32)) 0 (Int32.ofNat (F0 + 1))) 1 (Int32.ofNat (F1 + 1))) 2 (Int32.ofNat (F2 + 1))) 3 (Int32.ofNat (F3 + 1))) := f217_bf.keep K221 (ninS ne_bf_bg nin0)
  have f223_bt : own_K .int Z T221.heap bt .int 4 (own_uk (own_uk (own_uk (own_uk (fun _ => (0 : Int32)) 0 ((1 : Int32) + ((p4 &&& (255 : Int32)) % (Int32.ofNat N)))) 1 ((1 : Int32) + ((((p4.toUInt32 >>> ((8 : Int32) &&& 31).toUInt32).toInt32) &&& (255 : Int32)) % (Int32.ofNat N)))) 2 ((1 : Int32) + ((((p4.toUInt32 >>> ((16 : Int32) &&& 31).toUInt32).toInt32) &&& (255 : Int32)) % (Int32.ofNat N)))) 3 ((1 : Int32) + ((((p4.toUInt32 >>> ((24 : Int32) &&& 31).toUInt32).toInt32) &&& (255 : Int32)) % (Int32.ofNat N)))) := f218_bt.keep K221 (ninS ne_bt_bg nin0)
  have f224_bw : own_K .int Z T221.heap bw .int 4 (own_uk (own_uk (own_uk (own_uk (fun _ => (0 : Int32)) 0 (p5 &&& (255 : Int32))) 1 (((p5.toUInt32 >>> ((8 : Int32) &&& 31).toUInt32).toInt32) &&& (255 : Int32))) 2 (((p5.toUInt32 >>> ((16 : Int32) &&& 31).toUInt32).toInt32) &&& (255 : Int32))) 3 (((p5.toUInt32 >>> ((24 : Int32) &&& 31).toUInt32).toInt32) &&& (255 : Int32))) := f219_bw.keep K221 (ninS ne_bw_bg nin0)
  have f225_bg : Exa Z T221.heap bg "com/example/bucket/bucket/graph/Graph" := A216.keep K221
  have Z226 : n0 ≤ T221.heap.size := Nat.le_trans Z220 K221.1
  refine own_by (fun _ kZ => st221.trans kZ) ?_
  show own_R p.tables e below _ (T221.setTop (mkF m 226 #[.val (.int p1), .val (.int p2), .val (.int p3), .val (.int p4), .val (.int p5), .val (.int p6), .val (.int (Int32.ofNat N)), .val (.int (Int32.ofNat M)), .val (.ref bf), .val (.ref bt), .val (.ref bw), .unset, .unset, .unset, .unset] [(.ref bg)]))
  refine own_by (fun _ kZ => XS.astore X221.here hx rfl (hb hby at_226) rfl rfl (l' := #[.val (.int p1), .val (.int p2), .val (.int p3), .val (.int p4), .val (.int p5), .val (.int p6), .val (.int (Int32.ofNat N)), .val (.int (Int32.ofNat M)), .val (.ref bf), .val (.ref bt), .val (.ref bw), .val (.ref bg), .unset, .unset, .unset]) rfl kZ) ?_
  show own_R p.tables e below _ (T221.setTop (mkF m 228 #[.val (.int p1), .val (.int p2), .val (.int p3), .val (.int p4), .val (.int p5), .val (.int p6), .val (.int (Int32.ofNat N)), .val (.int (Int32.ofNat M)), .val (.ref bf), .val (.ref bt), .val (.ref bw), .val (.ref bg), .unset, .unset, .unset] []))
  refine own_by (fun _ kZ => XS.iload X221.here hx rfl (hb hby at_228) rfl kZ) ?_
  show own_R p.tables e below _ (T221.setTop (mkF m 230 #[.val (.int p1), .val (.int p2), .val (.int p3), .val (.int p4), .val (.int p5), .val (.int p6), .val (.int (Int32.ofNat N)), .val (.int (Int32.ofNat M)), .val (.ref bf), .val (.ref bt), .val (.ref bw), .val (.ref bg), .unset, .unset, .unset] [(.int p6)]))
  refine own_by (fun _ kZ => X221.ldcInt hx hown (mvT hZ (hw _ (List.mem_of_getElem? (i := 0) rfl))) (g := (mkF m 230 #[.val (.int p1), .val (.int p2), .val (.int p3), .val (.int p4), .val (.int p5), .val (.int p6), .val (.int (Int32.ofNat N)), .val (.int (Int32.ofNat M)), .val (.ref bf), .val (.ref bt), .val (.ref bw), .val (.ref bg), .unset, .unset, .unset] [(.int p6)])) rfl (hb hby at_230) _ kZ) ?_
  show own_R p.tables e below _ (T221.setTop (mkF m 232 #[.val (.int p1), .val (.int p2), .val (.int p3), .val (.int p4), .val (.int p5), .val (.int p6), .val (.int (Int32.ofNat N)), .val (.int (Int32.ofNat M)), .val (.ref bf), .val (.ref bt), .val (.ref bw), .val (.ref bg), .unset, .unset, .unset] [(.int (2147483647 : Int32)), (.int p6)]))
  refine own_by (fun _ kZ => XS.iand X221.here hx rfl (hb hby at_232) rfl kZ) ?_
  show own_R p.tables e below _ (T221.setTop (mkF m 233 #[.val (.int p1), .val (.int p2), .val (.int p3), .val (.int p4), .val (.int p5), .val (.int p6), .val (.int (Int32.ofNat N)), .val (.int (Int32.ofNat M)), .val (.ref bf), .val (.ref bt), .val (.ref bw), .val (.ref bg), .unset, .unset, .unset] [(.int (p6 &&& (2147483647 : Int32)))]))
  refine own_by (fun _ kZ => XS.iload X221.here hx rfl (hb hby at_233) rfl kZ) ?_
  show own_R p.tables e below _ (T221.setTop (mkF m 235 #[.val (.int p1), .val (.int p2), .val (.int p3), .val (.int p4), .val (.int p5), .val (.int p6), .val (.int (Int32.ofNat N)), .val (.int (Int32.ofNat M)), .val (.ref bf), .val (.ref bt), .val (.ref bw), .val (.ref bg), .unset, .unset, .unset] [(.int (Int32.ofNat N)), (.int (p6 &&& (2147483647 : Int32)))]))
  refine own_by (fun _ kZ => iremM X221 hx rfl (hb hby at_235) rfl hnz kZ) ?_
  show own_R p.tables e below _ (T221.setTop (mkF m 236 #[.val (.int p1), .val (.int p2), .val (.int p3), .val (.int p4), .val (.int p5), .val (.int p6), .val (.int (Int32.ofNat N)), .val (.int (Int32.ofNat M)), .val (.ref bf), .val (.ref bt), .val (.ref bw), .val (.ref bg), .unset, .unset, .unset] [(.int ((p6 &&& (2147483647 : Int32)) % (Int32.ofNat N)))]))
  obtain ⟨I, hI, lI⟩ := own_index p6 N hN1 hN4
  rw [show ((p6 &&& (2147483647 : Int32)) % (Int32.ofNat N)) = (Int32.ofNat I) from hI]
  show own_R p.tables e below _ (T221.setTop (mkF m 236 #[.val (.int p1), .val (.int p2), .val (.int p3), .val (.int p4), .val (.int p5), .val (.int p6), .val (.int (Int32.ofNat N)), .val (.int (Int32.ofNat M)), .val (.ref bf), .val (.ref bt), .val (.ref bw), .val (.ref bg), .unset, .unset, .unset] [(.int (Int32.ofNat I))]))
  refine own_by (fun _ kZ => XS.istore X221.here hx rfl (hb hby at_236) rfl (l' := #[.val (.int p1), .val (.int p2), .val (.int p3), .val (.int p4), .val (.int p5), .val (.int p6), .val (.int (Int32.ofNat N)), .val (.int (Int32.ofNat M)), .val (.ref bf), .val (.ref bt), .val (.ref bw), .val (.ref bg), .val (.int (Int32.ofNat I)), .unset, .unset]) rfl kZ) ?_
  show own_R p.tables e below _ (T221.setTop (mkF m 238 #[.val (.int p1), .val (.int p2), .val (.int p3), .val (.int p4), .val (.int p5), .val (.int p6), .val (.int (Int32.ofNat N)), .val (.int (Int32.ofNat M)), .val (.ref bf), .val (.ref bt), .val (.ref bw), .val (.ref bg), .val (.int (Int32.ofNat I)), .unset, .unset] []))
  refine own_by (fun _ kZ => XS.iload X221.here hx rfl (hb hby at_238) rfl kZ) ?_
  show own_R p.tables e below _ (T221.setTop (mkF m 240 #[.val (.int p1), .val (.int p2), .val (.int p3), .val (.int p4), .val (.int p5), .val (.int p6), .val (.int (Int32.ofNat N)), .val (.int (Int32.ofNat M)), .val (.ref bf), .val (.ref bt), .val (.ref bw), .val (.ref bg), .val (.int (Int32.ofNat I)), .unset, .unset] [(.int (Int32.ofNat I))]))
  refine own_by (fun _ kZ => XS.iconst X221.here hx rfl (hb hby at_240) kZ) ?_
  show own_R p.tables e below _ (T221.setTop (mkF m 241 #[.val (.int p1), .val (.int p2), .val (.int p3), .val (.int p4), .val (.int p5), .val (.int p6), .val (.int (Int32.ofNat N)), .val (.int (Int32.ofNat M)), .val (.ref bf), .val (.ref bt), .val (.ref bw), .val (.ref bg), .val (.int (Int32.ofNat I)), .unset, .unset] [(.int (1 : Int32)), (.int (Int32.ofNat I))]))
  refine own_by (fun _ kZ => XS.iadd X221.here hx rfl (hb hby at_241) rfl kZ) ?_
  show own_R p.tables e below _ (T221.setTop (mkF m 242 #[.val (.int p1), .val (.int p2), .val (.int p3), .val (.int p4), .val (.int p5), .val (.int p6), .val (.int (Int32.ofNat N)), .val (.int (Int32.ofNat M)), .val (.ref bf), .val (.ref bt), .val (.ref bw), .val (.ref bg), .val (.int (Int32.ofNat I)), .unset, .unset] [(.int ((Int32.ofNat I) + (1 : Int32)))]))
  rw [show ((Int32.ofNat I) + (1 : Int32)) = (Int32.ofNat (I + 1)) from own_add1 I]
  show own_R p.tables e below _ (T221.setTop (mkF m 242 #[.val (.int p1), .val (.int p2), .val (.int p3), .val (.int p4), .val (.int p5), .val (.int p6), .val (.int (Int32.ofNat N)), .val (.int (Int32.ofNat M)), .val (.ref bf), .val (.ref bt), .val (.ref bw), .val (.ref bg), .val (.int (Int32.ofNat I)), .unset, .unset] [(.int (Int32.ofNat (I + 1)))]))
  refine own_by (fun _ kZ => XS.istore X221.here hx rfl (hb hby at_242) rfl (l' := #[.val (.int p1), .val (.int p2), .val (.int p3), .val (.int p4), .val (.int p5), .val (.int p6), .val (.int (Int32.ofNat N)), .val (.int (Int32.ofNat M)), .val (.ref bf), .val (.ref bt), .val (.ref bw), .val (.ref bg), .val (.int (Int32.ofNat I)), .val (.int (Int32.ofNat (I + 1))), .unset]) rfl kZ) ?_
  show own_R p.tables e below _ (T221.setTop (mkF m 244 #[.val (.int p1), .val (.int p2), .val (.int p3), .val (.int p4), .val (.int p5), .val (.int p6), .val (.int (Int32.ofNat N)), .val (.int (Int32.ofNat M)), .val (.ref bf), .val (.ref bt), .val (.ref bw), .val (.ref bg), .val (.int (Int32.ofNat I)), .val (.int (Int32.ofNat (I + 1))), .unset] []))
  refine own_by (fun _ kZ => XS.iconst X221.here hx rfl (hb hby at_244) kZ) ?_
  show own_R p.tables e below _ (T221.setTop (mkF m 245 #[.val (.int p1), .val (.int p2), .val (.int p3), .val (.int p4), .val (.int p5), .val (.int p6), .val (.int (Int32.ofNat N)), .val (.int (Int32.ofNat M)), .val (.ref bf), .val (.ref bt), .val (.ref bw), .val (.ref bg), .val (.int (Int32.ofNat I)), .val (.int (Int32.ofNat (I + 1))), .unset] [(.int (0 : Int32))]))
  refine own_by (fun _ kZ => XS.iload X221.here hx rfl (hb hby at_245) rfl kZ) ?_
  show own_R p.tables e below _ (T221.setTop (mkF m 247 #[.val (.int p1), .val (.int p2), .val (.int p3), .val (.int p4), .val (.int p5), .val (.int p6), .val (.int (Int32.ofNat N)), .val (.int (Int32.ofNat M)), .val (.ref bf), .val (.ref bt), .val (.ref bw), .val (.ref bg), .val (.int (Int32.ofNat I)), .val (.int (Int32.ofNat (I + 1))), .unset] [(.int (Int32.ofNat M)), (.int (0 : Int32))]))
  refine own_by (fun _ kZ => XS.aload X221.here hx rfl (hb hby at_247) rfl rfl kZ) ?_
  show own_R p.tables e below _ (T221.setTop (mkF m 249 #[.val (.int p1), .val (.int p2), .val (.int p3), .val (.int p4), .val (.int p5), .val (.int p6), .val (.int (Int32.ofNat N)), .val (.int (Int32.ofNat M)), .val (.ref bf), .val (.ref bt), .val (.ref bw), .val (.ref bg), .val (.int (Int32.ofNat I)), .val (.int (Int32.ofNat (I + 1))), .unset] [(.ref bf), (.int (Int32.ofNat M)), (.int (0 : Int32))]))
  refine own_by (fun _ kZ => XS.iconst X221.here hx rfl (hb hby at_249) kZ) ?_
  show own_R p.tables e below _ (T221.setTop (mkF m 250 #[.val (.int p1), .val (.int p2), .val (.int p3), .val (.int p4), .val (.int p5), .val (.int p6), .val (.int (Int32.ofNat N)), .val (.int (Int32.ofNat M)), .val (.ref bf), .val (.ref bt), .val (.ref bw), .val (.ref bg), .val (.int (Int32.ofNat I)), .val (.int (Int32.ofNat (I + 1))), .unset] [(.int (0 : Int32)), (.ref bf), (.int (Int32.ofNat M)), (.int (0 : Int32))]))
  obtain ⟨cl227, Ar227, hin227, hat227⟩ := f222_bf.rd (i := (0 : Int32)) (p := 0) rfl (by decide) (by decide)
  refine own_by (fun _ kZ => X221.iaload hx (j := (0 : Int32)) (v := (.int ((own_uk (own_uk (own_uk (own_uk (fun _ => (0 : Int32)) 0 (Int32.ofNat (F0 + 1))) 1 (Int32.ofNat (F1 + 1))) 2 (Int32.ofNat (F2 + 1))) 3 (Int32.ofNat (F3 + 1))) 0))) (Ar227.1) (State.isArrayOf_alike hZ.alike Ar227.2.1) Ar227.2.2 hin227 hat227 (g := (mkF m 250 #[.val (.int p1), .val (.int p2), .val (.int p3), .val (.int p4), .val (.int p5), .val (.int p6), .val (.int (Int32.ofNat N)), .val (.int (Int32.ofNat M)), .val (.ref bf), .val (.ref bt), .val (.ref bw), .val (.ref bg), .val (.int (Int32.ofNat I)), .val (.int (Int32.ofNat (I + 1))), .unset] [(.int (0 : Int32)), (.ref bf), (.int (Int32.ofNat M)), (.int (0 : Int32))])) rfl rfl (hb hby at_250) _ kZ) ?_
  show own_R p.tables e below _ (T221.setTop (mkF m 251 #[.val (.int p1), .val (.int p2), .val (.int p3), .val (.int p4), .val (.int p5), .val (.int p6), .val (.int (Int32.ofNat N)), .val (.int (Int32.ofNat M)), .val (.ref bf), .val (.ref bt), .val (.ref bw), .val (.ref bg), .val (.int (Int32.ofNat I)), .val (.int (Int32.ofNat (I + 1))), .unset] [(.int ((own_uk (own_uk (own_uk (own_uk (fun _ => (0 : Int32)) 0 (Int32.ofNat (F0 + 1))) 1 (Int32.ofNat (F1 + 1))) 2 (Int32.ofNat (F2 + 1))) 3 (Int32.ofNat (F3 + 1))) 0)), (.int (Int32.ofNat M)), (.int (0 : Int32))]))
  refine own_by (fun _ kZ => XS.iload X221.here hx rfl (hb hby at_251) rfl kZ) ?_
  show own_R p.tables e below _ (T221.setTop (mkF m 253 #[.val (.int p1), .val (.int p2), .val (.int p3), .val (.int p4), .val (.int p5), .val (.int p6), .val (.int (Int32.ofNat N)), .val (.int (Int32.ofNat M)), .val (.ref bf), .val (.ref bt), .val (.ref bw), .val (.ref bg), .val (.int (Int32.ofNat I)), .val (.int (Int32.ofNat (I + 1))), .unset] [(.int (Int32.ofNat (I + 1))), (.int ((own_uk (own_uk (own_uk (own_uk (fun _ => (0 : Int32)) 0 (Int32.ofNat (F0 + 1))) 1 (Int32.ofNat (F1 + 1))) 2 (Int32.ofNat (F2 + 1))) 3 (Int32.ofNat (F3 + 1))) 0)), (.int (Int32.ofNat M)), (.int (0 : Int32))]))
  rw [show ((own_uk (own_uk (own_uk (own_uk (fun _ => (0 : Int32)) 0 (Int32.ofNat (F0 + 1))) 1 (Int32.ofNat (F1 + 1))) 2 (Int32.ofNat (F2 + 1))) 3 (Int32.ofNat (F3 + 1))) 0) = (Int32.ofNat (F0 + 1)) from own_gf F0 F1 F2 F3 0 (by decide)]
  show own_R p.tables e below _ (T221.setTop (mkF m 253 #[.val (.int p1), .val (.int p2), .val (.int p3), .val (.int p4), .val (.int p5), .val (.int p6), .val (.int (Int32.ofNat N)), .val (.int (Int32.ofNat M)), .val (.ref bf), .val (.ref bt), .val (.ref bw), .val (.ref bg), .val (.int (Int32.ofNat I)), .val (.int (Int32.ofNat (I + 1))), .unset] [(.int (Int32.ofNat (I + 1))), (.int (Int32.ofNat (F0 + 1))), (.int (Int32.ofNat M)), (.int (0 : Int32))]))
  obtain ⟨_, _, ⟨T228, L228, k228, n228⟩, -, X228, ⟨Lc228, hQ228, l228, y228, z228⟩, st228⟩ := Jvm.LawKit.callS X221 hx (y := (⟨"com/example/bucket/bucket/graph/GraphEndArcPinLaw", "c", "(IIII)I"⟩ : MethodName)) hown (mvT hZ (hw _ (List.mem_of_getElem? (i := 17) rfl))) (mvT hZ (hw _ (List.mem_of_getElem? (i := 18) rfl))) (mvT hZ (hw _ (List.mem_of_getElem? (i := 19) rfl))) (mvT hZ (hw _ (List.mem_of_getElem? (i := 20) rfl))) (by decide) (backOf (W := 0) (rm3 l Z a0 hw [] (0 : Int32) (Int32.ofNat M) (Int32.ofNat (F0 + 1)) (Int32.ofNat (I + 1)) T221.heap n0 Z226) hZ (hw _ (List.mem_of_getElem? (i := 20) rfl)) (hw _ (List.mem_of_getElem? (i := 19) rfl)) (by decide) (by decide)) (g := (mkF m 253 #[.val (.int p1), .val (.int p2), .val (.int p3), .val (.int p4), .val (.int p5), .val (.int p6), .val (.int (Int32.ofNat N)), .val (.int (Int32.ofNat M)), .val (.ref bf), .val (.ref bt), .val (.ref bw), .val (.ref bg), .val (.int (Int32.ofNat I)), .val (.int (Int32.ofNat (I + 1))), .unset] [(.int (Int32.ofNat (I + 1))), (.int (Int32.ofNat (F0 + 1))), (.int (Int32.ofNat M)), (.int (0 : Int32))])) rfl (by rw [hml]; rfl) (argsL := [(.int (0 : Int32)), (.int (Int32.ofNat M)), (.int (Int32.ofNat (F0 + 1))), (.int (Int32.ofNat (I + 1)))]) (rest := []) (lenOf own_pd1 rfl) rfl (by show 2 * 0 + _ ≤ _; exact Nat.le_of_eq rfl) (hb hby at_253) (fun _ _ => ⟨rfl, rfl, (by decide : 7 + 0 ≤ _), (by decide : 27 + 0 ≤ _)⟩)
  dsimp only [Pt.U, Pt.locs, Pt.cells, Pt.slots] at X228 l228 y228 z228 st228 hQ228
  subst l228 y228 z228
  obtain ⟨rfl, Nq228, e228⟩ := hQ228
  have N228 := Fr.app N221 Nq228
  refine own_by st228 ?_
  show own_R p.tables e below _ (T228.setTop (mkF m 256 #[.val (.int p1), .val (.int p2), .val (.int p3), .val (.int p4), .val (.int p5), .val (.int p6), .val (.int (Int32.ofNat N)), .val (.int (Int32.ofNat M)), .val (.ref bf), .val (.ref bt), .val (.ref bw), .val (.ref bg), .val (.int (Int32.ofNat I)), .val (.int (Int32.ofNat (I + 1))), .unset] [(.int (own_c (0 : Int32) (Int32.ofNat M) (Int32.ofNat (F0 + 1)) (Int32.ofNat (I + 1))))]))
  refine own_by (fun _ kZ => XS.iconst X228.here hx rfl (hb hby at_256) kZ) ?_
  show own_R p.tables e below _ (T228.setTop (mkF m 257 #[.val (.int p1), .val (.int p2), .val (.int p3), .val (.int p4), .val (.int p5), .val (.int p6), .val (.int (Int32.ofNat N)), .val (.int (Int32.ofNat M)), .val (.ref bf), .val (.ref bt), .val (.ref bw), .val (.ref bg), .val (.int (Int32.ofNat I)), .val (.int (Int32.ofNat (I + 1))), .unset] [(.int (1 : Int32)), (.int (own_c (0 : Int32) (Int32.ofNat M) (Int32.ofNat (F0 + 1)) (Int32.ofNat (I + 1))))]))
  refine own_by (fun _ kZ => XS.iload X228.here hx rfl (hb hby at_257) rfl kZ) ?_
  show own_R p.tables e below _ (T228.setTop (mkF m 259 #[.val (.int p1), .val (.int p2), .val (.int p3), .val (.int p4), .val (.int p5), .val (.int p6), .val (.int (Int32.ofNat N)), .val (.int (Int32.ofNat M)), .val (.ref bf), .val (.ref bt), .val (.ref bw), .val (.ref bg), .val (.int (Int32.ofNat I)), .val (.int (Int32.ofNat (I + 1))), .unset] [(.int (Int32.ofNat M)), (.int (1 : Int32)), (.int (own_c (0 : Int32) (Int32.ofNat M) (Int32.ofNat (F0 + 1)) (Int32.ofNat (I + 1))))]))
  refine own_by (fun _ kZ => XS.aload X228.here hx rfl (hb hby at_259) rfl rfl kZ) ?_
  show own_R p.tables e below _ (T228.setTop (mkF m 261 #[.val (.int p1), .val (.int p2), .val (.int p3), .val (.int p4), .val (.int p5), .val (.int p6), .val (.int (Int32.ofNat N)), .val (.int (Int32.ofNat M)), .val (.ref bf), .val (.ref bt), .val (.ref bw), .val (.ref bg), .val (.int (Int32.ofNat I)), .val (.int (Int32.ofNat (I + 1))), .unset] [(.ref bf), (.int (Int32.ofNat M)), (.int (1 : Int32)), (.int (own_c (0 : Int32) (Int32.ofNat M) (Int32.ofNat (F0 + 1)) (Int32.ofNat (I + 1))))]))
  refine own_by (fun _ kZ => XS.iconst X228.here hx rfl (hb hby at_261) kZ) ?_
  show own_R p.tables e below _ (T228.setTop (mkF m 262 #[.val (.int p1), .val (.int p2), .val (.int p3), .val (.int p4), .val (.int p5), .val (.int p6), .val (.int (Int32.ofNat N)), .val (.int (Int32.ofNat M)), .val (.ref bf), .val (.ref bt), .val (.ref bw), .val (.ref bg), .val (.int (Int32.ofNat I)), .val (.int (Int32.ofNat (I + 1))), .unset] [(.int (1 : Int32)), (.ref bf), (.int (Int32.ofNat M)), (.int (1 : Int32)), (.int (own_c (0 : Int32) (Int32.ofNat M) (Int32.ofNat (F0 + 1)) (Int32.ofNat (I + 1))))]))
  obtain ⟨cl229, Ar229, hin229, hat229⟩ := f222_bf.rd (i := (1 : Int32)) (p := 1) rfl (by decide) (by decide)
  refine own_by (fun _ kZ => X228.iaload hx (j := (1 : Int32)) (v := (.int ((own_uk (own_uk (own_uk (own_uk (fun _ => (0 : Int32)) 0 (Int32.ofNat (F0 + 1))) 1 (Int32.ofNat (F1 + 1))) 2 (Int32.ofNat (F2 + 1))) 3 (Int32.ofNat (F3 + 1))) 1))) (by rw [e228]; exact Ar229.1) (State.isArrayOf_alike hZ.alike Ar229.2.1) Ar229.2.2 hin229 hat229 (g := (mkF m 262 #[.val (.int p1), .val (.int p2), .val (.int p3), .val (.int p4), .val (.int p5), .val (.int p6), .val (.int (Int32.ofNat N)), .val (.int (Int32.ofNat M)), .val (.ref bf), .val (.ref bt), .val (.ref bw), .val (.ref bg), .val (.int (Int32.ofNat I)), .val (.int (Int32.ofNat (I + 1))), .unset] [(.int (1 : Int32)), (.ref bf), (.int (Int32.ofNat M)), (.int (1 : Int32)), (.int (own_c (0 : Int32) (Int32.ofNat M) (Int32.ofNat (F0 + 1)) (Int32.ofNat (I + 1))))])) rfl rfl (hb hby at_262) _ kZ) ?_
  show own_R p.tables e below _ (T228.setTop (mkF m 263 #[.val (.int p1), .val (.int p2), .val (.int p3), .val (.int p4), .val (.int p5), .val (.int p6), .val (.int (Int32.ofNat N)), .val (.int (Int32.ofNat M)), .val (.ref bf), .val (.ref bt), .val (.ref bw), .val (.ref bg), .val (.int (Int32.ofNat I)), .val (.int (Int32.ofNat (I + 1))), .unset] [(.int ((own_uk (own_uk (own_uk (own_uk (fun _ => (0 : Int32)) 0 (Int32.ofNat (F0 + 1))) 1 (Int32.ofNat (F1 + 1))) 2 (Int32.ofNat (F2 + 1))) 3 (Int32.ofNat (F3 + 1))) 1)), (.int (Int32.ofNat M)), (.int (1 : Int32)), (.int (own_c (0 : Int32) (Int32.ofNat M) (Int32.ofNat (F0 + 1)) (Int32.ofNat (I + 1))))]))
  refine own_by (fun _ kZ => XS.iload X228.here hx rfl (hb hby at_263) rfl kZ) ?_
  show own_R p.tables e below _ (T228.setTop (mkF m 265 #[.val (.int p1), .val (.int p2), .val (.int p3), .val (.int p4), .val (.int p5), .val (.int p6), .val (.int (Int32.ofNat N)), .val (.int (Int32.ofNat M)), .val (.ref bf), .val (.ref bt), .val (.ref bw), .val (.ref bg), .val (.int (Int32.ofNat I)), .val (.int (Int32.ofNat (I + 1))), .unset] [(.int (Int32.ofNat (I + 1))), (.int ((own_uk (own_uk (own_uk (own_uk (fun _ => (0 : Int32)) 0 (Int32.ofNat (F0 + 1))) 1 (Int32.ofNat (F1 + 1))) 2 (Int32.ofNat (F2 + 1))) 3 (Int32.ofNat (F3 + 1))) 1)), (.int (Int32.ofNat M)), (.int (1 : Int32)), (.int (own_c (0 : Int32) (Int32.ofNat M) (Int32.ofNat (F0 + 1)) (Int32.ofNat (I + 1))))]))
  rw [show ((own_uk (own_uk (own_uk (own_uk (fun _ => (0 : Int32)) 0 (Int32.ofNat (F0 + 1))) 1 (Int32.ofNat (F1 + 1))) 2 (Int32.ofNat (F2 + 1))) 3 (Int32.ofNat (F3 + 1))) 1) = (Int32.ofNat (F1 + 1)) from own_gf F0 F1 F2 F3 1 (by decide)]
  show own_R p.tables e below _ (T228.setTop (mkF m 265 #[.val (.int p1), .val (.int p2), .val (.int p3), .val (.int p4), .val (.int p5), .val (.int p6), .val (.int (Int32.ofNat N)), .val (.int (Int32.ofNat M)), .val (.ref bf), .val (.ref bt), .val (.ref bw), .val (.ref bg), .val (.int (Int32.ofNat I)), .val (.int (Int32.ofNat (I + 1))), .unset] [(.int (Int32.ofNat (I + 1))), (.int (Int32.ofNat (F1 + 1))), (.int (Int32.ofNat M)), (.int (1 : Int32)), (.int (own_c (0 : Int32) (Int32.ofNat M) (Int32.ofNat (F0 + 1)) (Int32.ofNat (I + 1))))]))
  obtain ⟨_, _, ⟨T230, L230, k230, n230⟩, -, X230, ⟨Lc230, hQ230, l230, y230, z230⟩, st230⟩ := Jvm.LawKit.callS X228 hx (y := (⟨"com/example/bucket/bucket/graph/GraphEndArcPinLaw", "c", "(IIII)I"⟩ : MethodName)) hown (mvT hZ (hw _ (List.mem_of_getElem? (i := 17) rfl))) (mvT hZ (hw _ (List.mem_of_getElem? (i := 18) rfl))) (mvT hZ (hw _ (List.mem_of_getElem? (i := 19) rfl))) (mvT hZ (hw _ (List.mem_of_getElem? (i := 20) rfl))) (by decide) (backOf (W := 1) (rm3 l Z a0 hw [] (1 : Int32) (Int32.ofNat M) (Int32.ofNat (F1 + 1)) (Int32.ofNat (I + 1)) T221.heap n0 Z226) hZ (hw _ (List.mem_of_getElem? (i := 20) rfl)) (hw _ (List.mem_of_getElem? (i := 19) rfl)) (by decide) (by decide)) (g := (mkF m 265 #[.val (.int p1), .val (.int p2), .val (.int p3), .val (.int p4), .val (.int p5), .val (.int p6), .val (.int (Int32.ofNat N)), .val (.int (Int32.ofNat M)), .val (.ref bf), .val (.ref bt), .val (.ref bw), .val (.ref bg), .val (.int (Int32.ofNat I)), .val (.int (Int32.ofNat (I + 1))), .unset] [(.int (Int32.ofNat (I + 1))), (.int (Int32.ofNat (F1 + 1))), (.int (Int32.ofNat M)), (.int (1 : Int32)), (.int (own_c (0 : Int32) (Int32.ofNat M) (Int32.ofNat (F0 + 1)) (Int32.ofNat (I + 1))))])) rfl (by rw [hml]; rfl) (argsL := [(.int (1 : Int32)), (.int (Int32.ofNat M)), (.int (Int32.ofNat (F1 + 1))), (.int (Int32.ofNat (I + 1)))]) (rest := [(.int (own_c (0 : Int32) (Int32.ofNat M) (Int32.ofNat (F0 + 1)) (Int32.ofNat (I + 1))))]) (lenOf own_pd1 rfl) rfl (by show 2 * 0 + _ ≤ _; exact Nat.le_of_eq rfl) (hb hby at_265) (fun _ _ => ⟨rfl, e228, (by decide : 7 + 0 ≤ _), (by decide : 27 + 0 ≤ _)⟩)
  dsimp only [Pt.U, Pt.locs, Pt.cells, Pt.slots] at X230 l230 y230 z230 st230 hQ230
  subst l230 y230 z230
  obtain ⟨rfl, Nq230, e230⟩ := hQ230
  have N230 := Fr.app N228 Nq230
  refine own_by st230 ?_
  show own_R p.tables e below _ (T230.setTop (mkF m 268 #[.val (.int p1), .val (.int p2), .val (.int p3), .val (.int p4), .val (.int p5), .val (.int p6), .val (.int (Int32.ofNat N)), .val (.int (Int32.ofNat M)), .val (.ref bf), .val (.ref bt), .val (.ref bw), .val (.ref bg), .val (.int (Int32.ofNat I)), .val (.int (Int32.ofNat (I + 1))), .unset] [(.int (own_c (1 : Int32) (Int32.ofNat M) (Int32.ofNat (F1 + 1)) (Int32.ofNat (I + 1)))), (.int (own_c (0 : Int32) (Int32.ofNat M) (Int32.ofNat (F0 + 1)) (Int32.ofNat (I + 1))))]))
  refine own_by (fun _ kZ => XS.iadd X230.here hx rfl (hb hby at_268) rfl kZ) ?_
  show own_R p.tables e below _ (T230.setTop (mkF m 269 #[.val (.int p1), .val (.int p2), .val (.int p3), .val (.int p4), .val (.int p5), .val (.int p6), .val (.int (Int32.ofNat N)), .val (.int (Int32.ofNat M)), .val (.ref bf), .val (.ref bt), .val (.ref bw), .val (.ref bg), .val (.int (Int32.ofNat I)), .val (.int (Int32.ofNat (I + 1))), .unset] [(.int ((own_c (0 : Int32) (Int32.ofNat M) (Int32.ofNat (F0 + 1)) (Int32.ofNat (I + 1))) + (own_c (1 : Int32) (Int32.ofNat M) (Int32.ofNat (F1 + 1)) (Int32.ofNat (I + 1)))))]))
  refine own_by (fun _ kZ => XS.iconst X230.here hx rfl (hb hby at_269) kZ) ?_
  show own_R p.tables e below _ (T230.setTop (mkF m 270 #[.val (.int p1), .val (.int p2), .val (.int p3), .val (.int p4), .val (.int p5), .val (.int p6), .val (.int (Int32.ofNat N)), .val (.int (Int32.ofNat M)), .val (.ref bf), .val (.ref bt), .val (.ref bw), .val (.ref bg), .val (.int (Int32.ofNat I)), .val (.int (Int32.ofNat (I + 1))), .unset] [(.int (2 : Int32)), (.int ((own_c (0 : Int32) (Int32.ofNat M) (Int32.ofNat (F0 + 1)) (Int32.ofNat (I + 1))) + (own_c (1 : Int32) (Int32.ofNat M) (Int32.ofNat (F1 + 1)) (Int32.ofNat (I + 1)))))]))
  refine own_by (fun _ kZ => XS.iload X230.here hx rfl (hb hby at_270) rfl kZ) ?_
  show own_R p.tables e below _ (T230.setTop (mkF m 272 #[.val (.int p1), .val (.int p2), .val (.int p3), .val (.int p4), .val (.int p5), .val (.int p6), .val (.int (Int32.ofNat N)), .val (.int (Int32.ofNat M)), .val (.ref bf), .val (.ref bt), .val (.ref bw), .val (.ref bg), .val (.int (Int32.ofNat I)), .val (.int (Int32.ofNat (I + 1))), .unset] [(.int (Int32.ofNat M)), (.int (2 : Int32)), (.int ((own_c (0 : Int32) (Int32.ofNat M) (Int32.ofNat (F0 + 1)) (Int32.ofNat (I + 1))) + (own_c (1 : Int32) (Int32.ofNat M) (Int32.ofNat (F1 + 1)) (Int32.ofNat (I + 1)))))]))
  refine own_by (fun _ kZ => XS.aload X230.here hx rfl (hb hby at_272) rfl rfl kZ) ?_
  show own_R p.tables e below _ (T230.setTop (mkF m 274 #[.val (.int p1), .val (.int p2), .val (.int p3), .val (.int p4), .val (.int p5), .val (.int p6), .val (.int (Int32.ofNat N)), .val (.int (Int32.ofNat M)), .val (.ref bf), .val (.ref bt), .val (.ref bw), .val (.ref bg), .val (.int (Int32.ofNat I)), .val (.int (Int32.ofNat (I + 1))), .unset] [(.ref bf), (.int (Int32.ofNat M)), (.int (2 : Int32)), (.int ((own_c (0 : Int32) (Int32.ofNat M) (Int32.ofNat (F0 + 1)) (Int32.ofNat (I + 1))) + (own_c (1 : Int32) (Int32.ofNat M) (Int32.ofNat (F1 + 1)) (Int32.ofNat (I + 1)))))]))
  refine own_by (fun _ kZ => XS.iconst X230.here hx rfl (hb hby at_274) kZ) ?_
  show own_R p.tables e below _ (T230.setTop (mkF m 275 #[.val (.int p1), .val (.int p2), .val (.int p3), .val (.int p4), .val (.int p5), .val (.int p6), .val (.int (Int32.ofNat N)), .val (.int (Int32.ofNat M)), .val (.ref bf), .val (.ref bt), .val (.ref bw), .val (.ref bg), .val (.int (Int32.ofNat I)), .val (.int (Int32.ofNat (I + 1))), .unset] [(.int (2 : Int32)), (.ref bf), (.int (Int32.ofNat M)), (.int (2 : Int32)), (.int ((own_c (0 : Int32) (Int32.ofNat M) (Int32.ofNat (F0 + 1)) (Int32.ofNat (I + 1))) + (own_c (1 : Int32) (Int32.ofNat M) (Int32.ofNat (F1 + 1)) (Int32.ofNat (I + 1)))))]))
  obtain ⟨cl231, Ar231, hin231, hat231⟩ := f222_bf.rd (i := (2 : Int32)) (p := 2) rfl (by decide) (by decide)
  refine own_by (fun _ kZ => X230.iaload hx (j := (2 : Int32)) (v := (.int ((own_uk (own_uk (own_uk (own_uk (fun _ => (0 : Int32)) 0 (Int32.ofNat (F0 + 1))) 1 (Int32.ofNat (F1 + 1))) 2 (Int32.ofNat (F2 + 1))) 3 (Int32.ofNat (F3 + 1))) 2))) (by rw [e230]; exact Ar231.1) (State.isArrayOf_alike hZ.alike Ar231.2.1) Ar231.2.2 hin231 hat231 (g := (mkF m 275 #[.val (.int p1), .val (.int p2), .val (.int p3), .val (.int p4), .val (.int p5), .val (.int p6), .val (.int (Int32.ofNat N)), .val (.int (Int32.ofNat M)), .val (.ref bf), .val (.ref bt), .val (.ref bw), .val (.ref bg), .val (.int (Int32.ofNat I)), .val (.int (Int32.ofNat (I + 1))), .unset] [(.int (2 : Int32)), (.ref bf), (.int (Int32.ofNat M)), (.int (2 : Int32)), (.int ((own_c (0 : Int32) (Int32.ofNat M) (Int32.ofNat (F0 + 1)) (Int32.ofNat (I + 1))) + (own_c (1 : Int32) (Int32.ofNat M) (Int32.ofNat (F1 + 1)) (Int32.ofNat (I + 1)))))])) rfl rfl (hb hby at_275) _ kZ) ?_
  show own_R p.tables e below _ (T230.setTop (mkF m 276 #[.val (.int p1), .val (.int p2), .val (.int p3), .val (.int p4), .val (.int p5), .val (.int p6), .val (.int (Int32.ofNat N)), .val (.int (Int32.ofNat M)), .val (.ref bf), .val (.ref bt), .val (.ref bw), .val (.ref bg), .val (.int (Int32.ofNat I)), .val (.int (Int32.ofNat (I + 1))), .unset] [(.int ((own_uk (own_uk (own_uk (own_uk (fun _ => (0 : Int32)) 0 (Int32.ofNat (F0 + 1))) 1 (Int32.ofNat (F1 + 1))) 2 (Int32.ofNat (F2 + 1))) 3 (Int32.ofNat (F3 + 1))) 2)), (.int (Int32.ofNat M)), (.int (2 : Int32)), (.int ((own_c (0 : Int32) (Int32.ofNat M) (Int32.ofNat (F0 + 1)) (Int32.ofNat (I + 1))) + (own_c (1 : Int32) (Int32.ofNat M) (Int32.ofNat (F1 + 1)) (Int32.ofNat (I + 1)))))]))
  refine own_by (fun _ kZ => XS.iload X230.here hx rfl (hb hby at_276) rfl kZ) ?_
  show own_R p.tables e below _ (T230.setTop (mkF m 278 #[.val (.int p1), .val (.int p2), .val (.int p3), .val (.int p4), .val (.int p5), .val (.int p6), .val (.int (Int32.ofNat N)), .val (.int (Int32.ofNat M)), .val (.ref bf), .val (.ref bt), .val (.ref bw), .val (.ref bg), .val (.int (Int32.ofNat I)), .val (.int (Int32.ofNat (I + 1))), .unset] [(.int (Int32.ofNat (I + 1))), (.int ((own_uk (own_uk (own_uk (own_uk (fun _ => (0 : Int32)) 0 (Int32.ofNat (F0 + 1))) 1 (Int32.ofNat (F1 + 1))) 2 (Int32.ofNat (F2 + 1))) 3 (Int32.ofNat (F3 + 1))) 2)), (.int (Int32.ofNat M)), (.int (2 : Int32)), (.int ((own_c (0 : Int32) (Int32.ofNat M) (Int32.ofNat (F0 + 1)) (Int32.ofNat (I + 1))) + (own_c (1 : Int32) (Int32.ofNat M) (Int32.ofNat (F1 + 1)) (Int32.ofNat (I + 1)))))]))
  rw [show ((own_uk (own_uk (own_uk (own_uk (fun _ => (0 : Int32)) 0 (Int32.ofNat (F0 + 1))) 1 (Int32.ofNat (F1 + 1))) 2 (Int32.ofNat (F2 + 1))) 3 (Int32.ofNat (F3 + 1))) 2) = (Int32.ofNat (F2 + 1)) from own_gf F0 F1 F2 F3 2 (by decide)]
  show own_R p.tables e below _ (T230.setTop (mkF m 278 #[.val (.int p1), .val (.int p2), .val (.int p3), .val (.int p4), .val (.int p5), .val (.int p6), .val (.int (Int32.ofNat N)), .val (.int (Int32.ofNat M)), .val (.ref bf), .val (.ref bt), .val (.ref bw), .val (.ref bg), .val (.int (Int32.ofNat I)), .val (.int (Int32.ofNat (I + 1))), .unset] [(.int (Int32.ofNat (I + 1))), (.int (Int32.ofNat (F2 + 1))), (.int (Int32.ofNat M)), (.int (2 : Int32)), (.int ((own_c (0 : Int32) (Int32.ofNat M) (Int32.ofNat (F0 + 1)) (Int32.ofNat (I + 1))) + (own_c (1 : Int32) (Int32.ofNat M) (Int32.ofNat (F1 + 1)) (Int32.ofNat (I + 1)))))]))
  obtain ⟨_, _, ⟨T232, L232, k232, n232⟩, -, X232, ⟨Lc232, hQ232, l232, y232, z232⟩, st232⟩ := Jvm.LawKit.callS X230 hx (y := (⟨"com/example/bucket/bucket/graph/GraphEndArcPinLaw", "c", "(IIII)I"⟩ : MethodName)) hown (mvT hZ (hw _ (List.mem_of_getElem? (i := 17) rfl))) (mvT hZ (hw _ (List.mem_of_getElem? (i := 18) rfl))) (mvT hZ (hw _ (List.mem_of_getElem? (i := 19) rfl))) (mvT hZ (hw _ (List.mem_of_getElem? (i := 20) rfl))) (by decide) (backOf (W := 1) (rm3 l Z a0 hw [] (2 : Int32) (Int32.ofNat M) (Int32.ofNat (F2 + 1)) (Int32.ofNat (I + 1)) T221.heap n0 Z226) hZ (hw _ (List.mem_of_getElem? (i := 20) rfl)) (hw _ (List.mem_of_getElem? (i := 19) rfl)) (by decide) (by decide)) (g := (mkF m 278 #[.val (.int p1), .val (.int p2), .val (.int p3), .val (.int p4), .val (.int p5), .val (.int p6), .val (.int (Int32.ofNat N)), .val (.int (Int32.ofNat M)), .val (.ref bf), .val (.ref bt), .val (.ref bw), .val (.ref bg), .val (.int (Int32.ofNat I)), .val (.int (Int32.ofNat (I + 1))), .unset] [(.int (Int32.ofNat (I + 1))), (.int (Int32.ofNat (F2 + 1))), (.int (Int32.ofNat M)), (.int (2 : Int32)), (.int ((own_c (0 : Int32) (Int32.ofNat M) (Int32.ofNat (F0 + 1)) (Int32.ofNat (I + 1))) + (own_c (1 : Int32) (Int32.ofNat M) (Int32.ofNat (F1 + 1)) (Int32.ofNat (I + 1)))))])) rfl (by rw [hml]; rfl) (argsL := [(.int (2 : Int32)), (.int (Int32.ofNat M)), (.int (Int32.ofNat (F2 + 1))), (.int (Int32.ofNat (I + 1)))]) (rest := [(.int ((own_c (0 : Int32) (Int32.ofNat M) (Int32.ofNat (F0 + 1)) (Int32.ofNat (I + 1))) + (own_c (1 : Int32) (Int32.ofNat M) (Int32.ofNat (F1 + 1)) (Int32.ofNat (I + 1)))))]) (lenOf own_pd1 rfl) rfl (by show 2 * 0 + _ ≤ _; exact Nat.le_of_eq rfl) (hb hby at_278) (fun _ _ => ⟨rfl, e230, (by decide : 7 + 0 ≤ _), (by decide : 27 + 0 ≤ _)⟩)
  dsimp only [Pt.U, Pt.locs, Pt.cells, Pt.slots] at X232 l232 y232 z232 st232 hQ232
  subst l232 y232 z232
  obtain ⟨rfl, Nq232, e232⟩ := hQ232
  have N232 := Fr.app N230 Nq232
  refine own_by st232 ?_
  show own_R p.tables e below _ (T232.setTop (mkF m 281 #[.val (.int p1), .val (.int p2), .val (.int p3), .val (.int p4), .val (.int p5), .val (.int p6), .val (.int (Int32.ofNat N)), .val (.int (Int32.ofNat M)), .val (.ref bf), .val (.ref bt), .val (.ref bw), .val (.ref bg), .val (.int (Int32.ofNat I)), .val (.int (Int32.ofNat (I + 1))), .unset] [(.int (own_c (2 : Int32) (Int32.ofNat M) (Int32.ofNat (F2 + 1)) (Int32.ofNat (I + 1)))), (.int ((own_c (0 : Int32) (Int32.ofNat M) (Int32.ofNat (F0 + 1)) (Int32.ofNat (I + 1))) + (own_c (1 : Int32) (Int32.ofNat M) (Int32.ofNat (F1 + 1)) (Int32.ofNat (I + 1)))))]))
  refine own_by (fun _ kZ => XS.iadd X232.here hx rfl (hb hby at_281) rfl kZ) ?_
  show own_R p.tables e below _ (T232.setTop (mkF m 282 #[.val (.int p1), .val (.int p2), .val (.int p3), .val (.int p4), .val (.int p5), .val (.int p6), .val (.int (Int32.ofNat N)), .val (.int (Int32.ofNat M)), .val (.ref bf), .val (.ref bt), .val (.ref bw), .val (.ref bg), .val (.int (Int32.ofNat I)), .val (.int (Int32.ofNat (I + 1))), .unset] [(.int (((own_c (0 : Int32) (Int32.ofNat M) (Int32.ofNat (F0 + 1)) (Int32.ofNat (I + 1))) + (own_c (1 : Int32) (Int32.ofNat M) (Int32.ofNat (F1 + 1)) (Int32.ofNat (I + 1)))) + (own_c (2 : Int32) (Int32.ofNat M) (Int32.ofNat (F2 + 1)) (Int32.ofNat (I + 1)))))]))
  refine own_by (fun _ kZ => XS.iconst X232.here hx rfl (hb hby at_282) kZ) ?_
  show own_R p.tables e below _ (T232.setTop (mkF m 283 #[.val (.int p1), .val (.int p2), .val (.int p3), .val (.int p4), .val (.int p5), .val (.int p6), .val (.int (Int32.ofNat N)), .val (.int (Int32.ofNat M)), .val (.ref bf), .val (.ref bt), .val (.ref bw), .val (.ref bg), .val (.int (Int32.ofNat I)), .val (.int (Int32.ofNat (I + 1))), .unset] [(.int (3 : Int32)), (.int (((own_c (0 : Int32) (Int32.ofNat M) (Int32.ofNat (F0 + 1)) (Int32.ofNat (I + 1))) + (own_c (1 : Int32) (Int32.ofNat M) (Int32.ofNat (F1 + 1)) (Int32.ofNat (I + 1)))) + (own_c (2 : Int32) (Int32.ofNat M) (Int32.ofNat (F2 + 1)) (Int32.ofNat (I + 1)))))]))
  refine own_by (fun _ kZ => XS.iload X232.here hx rfl (hb hby at_283) rfl kZ) ?_
  show own_R p.tables e below _ (T232.setTop (mkF m 285 #[.val (.int p1), .val (.int p2), .val (.int p3), .val (.int p4), .val (.int p5), .val (.int p6), .val (.int (Int32.ofNat N)), .val (.int (Int32.ofNat M)), .val (.ref bf), .val (.ref bt), .val (.ref bw), .val (.ref bg), .val (.int (Int32.ofNat I)), .val (.int (Int32.ofNat (I + 1))), .unset] [(.int (Int32.ofNat M)), (.int (3 : Int32)), (.int (((own_c (0 : Int32) (Int32.ofNat M) (Int32.ofNat (F0 + 1)) (Int32.ofNat (I + 1))) + (own_c (1 : Int32) (Int32.ofNat M) (Int32.ofNat (F1 + 1)) (Int32.ofNat (I + 1)))) + (own_c (2 : Int32) (Int32.ofNat M) (Int32.ofNat (F2 + 1)) (Int32.ofNat (I + 1)))))]))
  refine own_by (fun _ kZ => XS.aload X232.here hx rfl (hb hby at_285) rfl rfl kZ) ?_
  show own_R p.tables e below _ (T232.setTop (mkF m 287 #[.val (.int p1), .val (.int p2), .val (.int p3), .val (.int p4), .val (.int p5), .val (.int p6), .val (.int (Int32.ofNat N)), .val (.int (Int32.ofNat M)), .val (.ref bf), .val (.ref bt), .val (.ref bw), .val (.ref bg), .val (.int (Int32.ofNat I)), .val (.int (Int32.ofNat (I + 1))), .unset] [(.ref bf), (.int (Int32.ofNat M)), (.int (3 : Int32)), (.int (((own_c (0 : Int32) (Int32.ofNat M) (Int32.ofNat (F0 + 1)) (Int32.ofNat (I + 1))) + (own_c (1 : Int32) (Int32.ofNat M) (Int32.ofNat (F1 + 1)) (Int32.ofNat (I + 1)))) + (own_c (2 : Int32) (Int32.ofNat M) (Int32.ofNat (F2 + 1)) (Int32.ofNat (I + 1)))))]))
  refine own_by (fun _ kZ => XS.iconst X232.here hx rfl (hb hby at_287) kZ) ?_
  show own_R p.tables e below _ (T232.setTop (mkF m 288 #[.val (.int p1), .val (.int p2), .val (.int p3), .val (.int p4), .val (.int p5), .val (.int p6), .val (.int (Int32.ofNat N)), .val (.int (Int32.ofNat M)), .val (.ref bf), .val (.ref bt), .val (.ref bw), .val (.ref bg), .val (.int (Int32.ofNat I)), .val (.int (Int32.ofNat (I + 1))), .unset] [(.int (3 : Int32)), (.ref bf), (.int (Int32.ofNat M)), (.int (3 : Int32)), (.int (((own_c (0 : Int32) (Int32.ofNat M) (Int32.ofNat (F0 + 1)) (Int32.ofNat (I + 1))) + (own_c (1 : Int32) (Int32.ofNat M) (Int32.ofNat (F1 + 1)) (Int32.ofNat (I + 1)))) + (own_c (2 : Int32) (Int32.ofNat M) (Int32.ofNat (F2 + 1)) (Int32.ofNat (I + 1)))))]))
  obtain ⟨cl233, Ar233, hin233, hat233⟩ := f222_bf.rd (i := (3 : Int32)) (p := 3) rfl (by decide) (by decide)
  refine own_by (fun _ kZ => X232.iaload hx (j := (3 : Int32)) (v := (.int ((own_uk (own_uk (own_uk (own_uk (fun _ => (0 : Int32)) 0 (Int32.ofNat (F0 + 1))) 1 (Int32.ofNat (F1 + 1))) 2 (Int32.ofNat (F2 + 1))) 3 (Int32.ofNat (F3 + 1))) 3))) (by rw [e232]; exact Ar233.1) (State.isArrayOf_alike hZ.alike Ar233.2.1) Ar233.2.2 hin233 hat233 (g := (mkF m 288 #[.val (.int p1), .val (.int p2), .val (.int p3), .val (.int p4), .val (.int p5), .val (.int p6), .val (.int (Int32.ofNat N)), .val (.int (Int32.ofNat M)), .val (.ref bf), .val (.ref bt), .val (.ref bw), .val (.ref bg), .val (.int (Int32.ofNat I)), .val (.int (Int32.ofNat (I + 1))), .unset] [(.int (3 : Int32)), (.ref bf), (.int (Int32.ofNat M)), (.int (3 : Int32)), (.int (((own_c (0 : Int32) (Int32.ofNat M) (Int32.ofNat (F0 + 1)) (Int32.ofNat (I + 1))) + (own_c (1 : Int32) (Int32.ofNat M) (Int32.ofNat (F1 + 1)) (Int32.ofNat (I + 1)))) + (own_c (2 : Int32) (Int32.ofNat M) (Int32.ofNat (F2 + 1)) (Int32.ofNat (I + 1)))))])) rfl rfl (hb hby at_288) _ kZ) ?_
  show own_R p.tables e below _ (T232.setTop (mkF m 289 #[.val (.int p1), .val (.int p2), .val (.int p3), .val (.int p4), .val (.int p5), .val (.int p6), .val (.int (Int32.ofNat N)), .val (.int (Int32.ofNat M)), .val (.ref bf), .val (.ref bt), .val (.ref bw), .val (.ref bg), .val (.int (Int32.ofNat I)), .val (.int (Int32.ofNat (I + 1))), .unset] [(.int ((own_uk (own_uk (own_uk (own_uk (fun _ => (0 : Int32)) 0 (Int32.ofNat (F0 + 1))) 1 (Int32.ofNat (F1 + 1))) 2 (Int32.ofNat (F2 + 1))) 3 (Int32.ofNat (F3 + 1))) 3)), (.int (Int32.ofNat M)), (.int (3 : Int32)), (.int (((own_c (0 : Int32) (Int32.ofNat M) (Int32.ofNat (F0 + 1)) (Int32.ofNat (I + 1))) + (own_c (1 : Int32) (Int32.ofNat M) (Int32.ofNat (F1 + 1)) (Int32.ofNat (I + 1)))) + (own_c (2 : Int32) (Int32.ofNat M) (Int32.ofNat (F2 + 1)) (Int32.ofNat (I + 1)))))]))
  refine own_by (fun _ kZ => XS.iload X232.here hx rfl (hb hby at_289) rfl kZ) ?_
  show own_R p.tables e below _ (T232.setTop (mkF m 291 #[.val (.int p1), .val (.int p2), .val (.int p3), .val (.int p4), .val (.int p5), .val (.int p6), .val (.int (Int32.ofNat N)), .val (.int (Int32.ofNat M)), .val (.ref bf), .val (.ref bt), .val (.ref bw), .val (.ref bg), .val (.int (Int32.ofNat I)), .val (.int (Int32.ofNat (I + 1))), .unset] [(.int (Int32.ofNat (I + 1))), (.int ((own_uk (own_uk (own_uk (own_uk (fun _ => (0 : Int32)) 0 (Int32.ofNat (F0 + 1))) 1 (Int32.ofNat (F1 + 1))) 2 (Int32.ofNat (F2 + 1))) 3 (Int32.ofNat (F3 + 1))) 3)), (.int (Int32.ofNat M)), (.int (3 : Int32)), (.int (((own_c (0 : Int32) (Int32.ofNat M) (Int32.ofNat (F0 + 1)) (Int32.ofNat (I + 1))) + (own_c (1 : Int32) (Int32.ofNat M) (Int32.ofNat (F1 + 1)) (Int32.ofNat (I + 1)))) + (own_c (2 : Int32) (Int32.ofNat M) (Int32.ofNat (F2 + 1)) (Int32.ofNat (I + 1)))))]))
  rw [show ((own_uk (own_uk (own_uk (own_uk (fun _ => (0 : Int32)) 0 (Int32.ofNat (F0 + 1))) 1 (Int32.ofNat (F1 + 1))) 2 (Int32.ofNat (F2 + 1))) 3 (Int32.ofNat (F3 + 1))) 3) = (Int32.ofNat (F3 + 1)) from own_gf F0 F1 F2 F3 3 (by decide)]
  show own_R p.tables e below _ (T232.setTop (mkF m 291 #[.val (.int p1), .val (.int p2), .val (.int p3), .val (.int p4), .val (.int p5), .val (.int p6), .val (.int (Int32.ofNat N)), .val (.int (Int32.ofNat M)), .val (.ref bf), .val (.ref bt), .val (.ref bw), .val (.ref bg), .val (.int (Int32.ofNat I)), .val (.int (Int32.ofNat (I + 1))), .unset] [(.int (Int32.ofNat (I + 1))), (.int (Int32.ofNat (F3 + 1))), (.int (Int32.ofNat M)), (.int (3 : Int32)), (.int (((own_c (0 : Int32) (Int32.ofNat M) (Int32.ofNat (F0 + 1)) (Int32.ofNat (I + 1))) + (own_c (1 : Int32) (Int32.ofNat M) (Int32.ofNat (F1 + 1)) (Int32.ofNat (I + 1)))) + (own_c (2 : Int32) (Int32.ofNat M) (Int32.ofNat (F2 + 1)) (Int32.ofNat (I + 1)))))]))
  obtain ⟨_, _, ⟨T234, L234, k234, n234⟩, -, X234, ⟨Lc234, hQ234, l234, y234, z234⟩, st234⟩ := Jvm.LawKit.callS X232 hx (y := (⟨"com/example/bucket/bucket/graph/GraphEndArcPinLaw", "c", "(IIII)I"⟩ : MethodName)) hown (mvT hZ (hw _ (List.mem_of_getElem? (i := 17) rfl))) (mvT hZ (hw _ (List.mem_of_getElem? (i := 18) rfl))) (mvT hZ (hw _ (List.mem_of_getElem? (i := 19) rfl))) (mvT hZ (hw _ (List.mem_of_getElem? (i := 20) rfl))) (by decide) (backOf (W := 1) (rm3 l Z a0 hw [] (3 : Int32) (Int32.ofNat M) (Int32.ofNat (F3 + 1)) (Int32.ofNat (I + 1)) T221.heap n0 Z226) hZ (hw _ (List.mem_of_getElem? (i := 20) rfl)) (hw _ (List.mem_of_getElem? (i := 19) rfl)) (by decide) (by decide)) (g := (mkF m 291 #[.val (.int p1), .val (.int p2), .val (.int p3), .val (.int p4), .val (.int p5), .val (.int p6), .val (.int (Int32.ofNat N)), .val (.int (Int32.ofNat M)), .val (.ref bf), .val (.ref bt), .val (.ref bw), .val (.ref bg), .val (.int (Int32.ofNat I)), .val (.int (Int32.ofNat (I + 1))), .unset] [(.int (Int32.ofNat (I + 1))), (.int (Int32.ofNat (F3 + 1))), (.int (Int32.ofNat M)), (.int (3 : Int32)), (.int (((own_c (0 : Int32) (Int32.ofNat M) (Int32.ofNat (F0 + 1)) (Int32.ofNat (I + 1))) + (own_c (1 : Int32) (Int32.ofNat M) (Int32.ofNat (F1 + 1)) (Int32.ofNat (I + 1)))) + (own_c (2 : Int32) (Int32.ofNat M) (Int32.ofNat (F2 + 1)) (Int32.ofNat (I + 1)))))])) rfl (by rw [hml]; rfl) (argsL := [(.int (3 : Int32)), (.int (Int32.ofNat M)), (.int (Int32.ofNat (F3 + 1))), (.int (Int32.ofNat (I + 1)))]) (rest := [(.int (((own_c (0 : Int32) (Int32.ofNat M) (Int32.ofNat (F0 + 1)) (Int32.ofNat (I + 1))) + (own_c (1 : Int32) (Int32.ofNat M) (Int32.ofNat (F1 + 1)) (Int32.ofNat (I + 1)))) + (own_c (2 : Int32) (Int32.ofNat M) (Int32.ofNat (F2 + 1)) (Int32.ofNat (I + 1)))))]) (lenOf own_pd1 rfl) rfl (by show 2 * 0 + _ ≤ _; exact Nat.le_of_eq rfl) (hb hby at_291) (fun _ _ => ⟨rfl, e232, (by decide : 7 + 0 ≤ _), (by decide : 27 + 0 ≤ _)⟩)
  dsimp only [Pt.U, Pt.locs, Pt.cells, Pt.slots] at X234 l234 y234 z234 st234 hQ234
  subst l234 y234 z234
  obtain ⟨rfl, Nq234, e234⟩ := hQ234
  have N234 := Fr.app N232 Nq234
  refine own_by st234 ?_
  show own_R p.tables e below _ (T234.setTop (mkF m 294 #[.val (.int p1), .val (.int p2), .val (.int p3), .val (.int p4), .val (.int p5), .val (.int p6), .val (.int (Int32.ofNat N)), .val (.int (Int32.ofNat M)), .val (.ref bf), .val (.ref bt), .val (.ref bw), .val (.ref bg), .val (.int (Int32.ofNat I)), .val (.int (Int32.ofNat (I + 1))), .unset] [(.int (own_c (3 : Int32) (Int32.ofNat M) (Int32.ofNat (F3 + 1)) (Int32.ofNat (I + 1)))), (.int (((own_c (0 : Int32) (Int32.ofNat M) (Int32.ofNat (F0 + 1)) (Int32.ofNat (I + 1))) + (own_c (1 : Int32) (Int32.ofNat M) (Int32.ofNat (F1 + 1)) (Int32.ofNat (I + 1)))) + (own_c (2 : Int32) (Int32.ofNat M) (Int32.ofNat (F2 + 1)) (Int32.ofNat (I + 1)))))]))
  refine own_by (fun _ kZ => XS.iadd X234.here hx rfl (hb hby at_294) rfl kZ) ?_
  show own_R p.tables e below _ (T234.setTop (mkF m 295 #[.val (.int p1), .val (.int p2), .val (.int p3), .val (.int p4), .val (.int p5), .val (.int p6), .val (.int (Int32.ofNat N)), .val (.int (Int32.ofNat M)), .val (.ref bf), .val (.ref bt), .val (.ref bw), .val (.ref bg), .val (.int (Int32.ofNat I)), .val (.int (Int32.ofNat (I + 1))), .unset] [(.int ((((own_c (0 : Int32) (Int32.ofNat M) (Int32.ofNat (F0 + 1)) (Int32.ofNat (I + 1))) + (own_c (1 : Int32) (Int32.ofNat M) (Int32.ofNat (F1 + 1)) (Int32.ofNat (I + 1)))) + (own_c (2 : Int32) (Int32.ofNat M) (Int32.ofNat (F2 + 1)) (Int32.ofNat (I + 1)))) + (own_c (3 : Int32) (Int32.ofNat M) (Int32.ofNat (F3 + 1)) (Int32.ofNat (I + 1)))))]))
  rw [show ((((own_c (0 : Int32) (Int32.ofNat M) (Int32.ofNat (F0 + 1)) (Int32.ofNat (I + 1))) + (own_c (1 : Int32) (Int32.ofNat M) (Int32.ofNat (F1 + 1)) (Int32.ofNat (I + 1)))) + (own_c (2 : Int32) (Int32.ofNat M) (Int32.ofNat (F2 + 1)) (Int32.ofNat (I + 1)))) + (own_c (3 : Int32) (Int32.ofNat M) (Int32.ofNat (F3 + 1)) (Int32.ofNat (I + 1)))) = (Int32.ofNat (own_cnt (fun j => decide (own_F F0 F1 F2 F3 j < I + 1)) M)) from own_sum F0 F1 F2 F3 M I hM4 (by omega) (by omega) (by omega) (by omega) (by omega)]
  show own_R p.tables e below _ (T234.setTop (mkF m 295 #[.val (.int p1), .val (.int p2), .val (.int p3), .val (.int p4), .val (.int p5), .val (.int p6), .val (.int (Int32.ofNat N)), .val (.int (Int32.ofNat M)), .val (.ref bf), .val (.ref bt), .val (.ref bw), .val (.ref bg), .val (.int (Int32.ofNat I)), .val (.int (Int32.ofNat (I + 1))), .unset] [(.int (Int32.ofNat (own_cnt (fun j => decide (own_F F0 F1 F2 F3 j < I + 1)) M)))]))
  refine own_by (fun _ kZ => XS.istore X234.here hx rfl (hb hby at_295) rfl (l' := #[.val (.int p1), .val (.int p2), .val (.int p3), .val (.int p4), .val (.int p5), .val (.int p6), .val (.int (Int32.ofNat N)), .val (.int (Int32.ofNat M)), .val (.ref bf), .val (.ref bt), .val (.ref bw), .val (.ref bg), .val (.int (Int32.ofNat I)), .val (.int (Int32.ofNat (I + 1))), .val (.int (Int32.ofNat (own_cnt (fun j => decide (own_F F0 F1 F2 F3 j < I + 1)) M)))]) rfl kZ) ?_
  show own_R p.tables e below _ (T234.setTop (mkF m 297 #[.val (.int p1), .val (.int p2), .val (.int p3), .val (.int p4), .val (.int p5), .val (.int p6), .val (.int (Int32.ofNat N)), .val (.int (Int32.ofNat M)), .val (.ref bf), .val (.ref bt), .val (.ref bw), .val (.ref bg), .val (.int (Int32.ofNat I)), .val (.int (Int32.ofNat (I + 1))), .val (.int (Int32.ofNat (own_cnt (fun j => decide (own_F F0 F1 F2 F3 j < I + 1)) M)))] []))
  refine own_by (fun _ kZ => XS.aload X234.here hx rfl (hb hby at_297) rfl rfl kZ) ?_
  show own_R p.tables e below _ (T234.setTop (mkF m 299 #[.val (.int p1), .val (.int p2), .val (.int p3), .val (.int p4), .val (.int p5), .val (.int p6), .val (.int (Int32.ofNat N)), .val (.int (Int32.ofNat M)), .val (.ref bf), .val (.ref bt), .val (.ref bw), .val (.ref bg), .val (.int (Int32.ofNat I)), .val (.int (Int32.ofNat (I + 1))), .val (.int (Int32.ofNat (own_cnt (fun j => decide (own_F F0 F1 F2 F3 j < I + 1)) M)))] [(.ref bg)]))
  refine own_by (fun _ kZ => XS.iload X234.here hx rfl (hb hby at_299) rfl kZ) ?_
  show own_R p.tables e below _ (T234.setTop (mkF m 301 #[.val (.int p1), .val (.int p2), .val (.int p3), .val (.int p4), .val (.int p5), .val (.int p6), .val (.int (Int32.ofNat N)), .val (.int (Int32.ofNat M)), .val (.ref bf), .val (.ref bt), .val (.ref bw), .val (.ref bg), .val (.int (Int32.ofNat I)), .val (.int (Int32.ofNat (I + 1))), .val (.int (Int32.ofNat (own_cnt (fun j => decide (own_F F0 F1 F2 F3 j < I + 1)) M)))] [(.int (Int32.ofNat I)), (.ref bg)]))
  obtain ⟨cq235, kq235, q235a, q235b, q235c⟩ := isOf hZ e234 f225_bg
  obtain ⟨_, _, ⟨T235, L235, k235, n235⟩, -, X235, ⟨Lc235, hQ235, l235, y235, z235⟩, st235⟩ := X234.virtualBack hx (y := (⟨"com/example/bucket/bucket/graph/Graph", "endArc", "(I)I"⟩ : MethodName)) (z := (⟨"com/example/bucket/bucket/graph/Graph", "endArc", "(I)I"⟩ : MethodName)) hown (mvT hZ (hw _ (List.mem_of_getElem? (i := 21) rfl))) (mvT hZ (hw _ (List.mem_of_getElem? (i := 22) rfl))) (notFace_of_selects (args := #[]) (mvT hZ (hw _ (List.mem_of_getElem? (i := 24) rfl)))) (mvT hZ (hw _ (List.mem_of_getElem? (i := 24) rfl))) (mvT hZ (hw _ (List.mem_of_getElem? (i := 23) rfl))) (by decide) (backOf (W := 0) (rm4 l Z a0 hw [] bg (Int32.ofNat I) bb221 bc221 N M (own_g3 (own_F F0 F1 F2 F3) M 0) gc221 I T221.heap n0 Z226 rfl lI hN4 Ffa221 Fh221 Vb221 Vc221) hZ (hw _ (List.mem_of_getElem? (i := 25) rfl)) (hw _ (List.mem_of_getElem? (i := 4) rfl)) (by decide) (by decide)) q235a q235c (g := (mkF m 301 #[.val (.int p1), .val (.int p2), .val (.int p3), .val (.int p4), .val (.int p5), .val (.int p6), .val (.int (Int32.ofNat N)), .val (.int (Int32.ofNat M)), .val (.ref bf), .val (.ref bt), .val (.ref bw), .val (.ref bg), .val (.int (Int32.ofNat I)), .val (.int (Int32.ofNat (I + 1))), .val (.int (Int32.ofNat (own_cnt (fun j => decide (own_F F0 F1 F2 F3 j < I + 1)) M)))] [(.int (Int32.ofNat I)), (.ref bg)])) rfl (by rw [hml]; rfl) (Steps.refl _) (argsL := [(.int (Int32.ofNat I))]) (rest := []) (lenOf own_pd2 rfl) rfl (by show 2 * 0 + _ ≤ _; exact Nat.le_of_eq rfl) (hb hby at_301) (fun _ _ => ⟨rfl, e234, (by decide : 7 + 0 ≤ _), (by decide : 27 + 0 ≤ _)⟩)
  dsimp only [Pt.U, Pt.locs, Pt.cells, Pt.slots] at X235 l235 y235 z235 st235 hQ235
  subst l235 y235 z235
  obtain ⟨rfl, Nq235, e235⟩ := hQ235
  have N235 := Fr.app N234 Nq235
  refine own_by (fun _ kZ => st235.trans kZ) ?_
  show own_R p.tables e below _ (T235.setTop (mkF m 304 #[.val (.int p1), .val (.int p2), .val (.int p3), .val (.int p4), .val (.int p5), .val (.int p6), .val (.int (Int32.ofNat N)), .val (.int (Int32.ofNat M)), .val (.ref bf), .val (.ref bt), .val (.ref bw), .val (.ref bg), .val (.int (Int32.ofNat I)), .val (.int (Int32.ofNat (I + 1))), .val (.int (Int32.ofNat (own_cnt (fun j => decide (own_F F0 F1 F2 F3 j < I + 1)) M)))] [(.int (own_ea (Int32.ofNat I) N M (own_g3 (own_F F0 F1 F2 F3) M 0)))]))
  rw [show (own_ea (Int32.ofNat I) N M (own_g3 (own_F F0 F1 F2 F3) M 0)) = (Int32.ofNat (own_cnt (fun j => decide (own_F F0 F1 F2 F3 j < I + 1)) M)) from own_fin (own_F F0 F1 F2 F3) N M I lI hN4 hM4 hFn]
  show own_R p.tables e below _ (T235.setTop (mkF m 304 #[.val (.int p1), .val (.int p2), .val (.int p3), .val (.int p4), .val (.int p5), .val (.int p6), .val (.int (Int32.ofNat N)), .val (.int (Int32.ofNat M)), .val (.ref bf), .val (.ref bt), .val (.ref bw), .val (.ref bg), .val (.int (Int32.ofNat I)), .val (.int (Int32.ofNat (I + 1))), .val (.int (Int32.ofNat (own_cnt (fun j => decide (own_F F0 F1 F2 F3 j < I + 1)) M)))] [(.int (Int32.ofNat (own_cnt (fun j => decide (own_F F0 F1 F2 F3 j < I + 1)) M)))]))
  refine own_by (fun _ kZ => XS.iload X235.here hx rfl (hb hby at_304) rfl kZ) ?_
  show own_R p.tables e below _ (T235.setTop (mkF m 306 #[.val (.int p1), .val (.int p2), .val (.int p3), .val (.int p4), .val (.int p5), .val (.int p6), .val (.int (Int32.ofNat N)), .val (.int (Int32.ofNat M)), .val (.ref bf), .val (.ref bt), .val (.ref bw), .val (.ref bg), .val (.int (Int32.ofNat I)), .val (.int (Int32.ofNat (I + 1))), .val (.int (Int32.ofNat (own_cnt (fun j => decide (own_F F0 F1 F2 F3 j < I + 1)) M)))] [(.int (Int32.ofNat (own_cnt (fun j => decide (own_F F0 F1 F2 F3 j < I + 1)) M))), (.int (Int32.ofNat (own_cnt (fun j => decide (own_F F0 F1 F2 F3 j < I + 1)) M)))]))
  refine own_by (fun _ kZ => XS.icmpNo X235.here hx rfl (hb hby at_306) rfl (teq (rfl : _ = _)).2 kZ) ?_
  show own_R p.tables e below _ (T235.setTop (mkF m 309 #[.val (.int p1), .val (.int p2), .val (.int p3), .val (.int p4), .val (.int p5), .val (.int p6), .val (.int (Int32.ofNat N)), .val (.int (Int32.ofNat M)), .val (.ref bf), .val (.ref bt), .val (.ref bw), .val (.ref bg), .val (.int (Int32.ofNat I)), .val (.int (Int32.ofNat (I + 1))), .val (.int (Int32.ofNat (own_cnt (fun j => decide (own_F F0 F1 F2 F3 j < I + 1)) M)))] []))
  refine own_by (fun _ kZ => XS.iconst X235.here hx rfl (hb hby at_309) kZ) ?_
  show own_R p.tables e below _ (T235.setTop (mkF m 310 #[.val (.int p1), .val (.int p2), .val (.int p3), .val (.int p4), .val (.int p5), .val (.int p6), .val (.int (Int32.ofNat N)), .val (.int (Int32.ofNat M)), .val (.ref bf), .val (.ref bt), .val (.ref bw), .val (.ref bg), .val (.int (Int32.ofNat I)), .val (.int (Int32.ofNat (I + 1))), .val (.int (Int32.ofNat (own_cnt (fun j => decide (own_F F0 F1 F2 F3 j < I + 1)) M)))] [(.int (1 : Int32))]))
  refine own_by (fun _ kZ => XS.goto X235.here hx rfl (pc0 := 310) (pc' := 314) rfl (hb hby at_310) (by decide) (by decide) kZ) ?_
  show own_R p.tables e below _ (T235.setTop (mkF m 314 #[.val (.int p1), .val (.int p2), .val (.int p3), .val (.int p4), .val (.int p5), .val (.int p6), .val (.int (Int32.ofNat N)), .val (.int (Int32.ofNat M)), .val (.ref bf), .val (.ref bt), .val (.ref bw), .val (.ref bg), .val (.int (Int32.ofNat I)), .val (.int (Int32.ofNat (I + 1))), .val (.int (Int32.ofNat (own_cnt (fun j => decide (own_F F0 F1 F2 F3 j < I + 1)) M)))] [(.int (1 : Int32))]))
  obtain ⟨fs, hr, hrun, hended, hW, hsame⟩ := X235.leave (v := some (.int (1 : Int32))) (fun h => by rw [Bd.returns] at h; cases h)
  refine own_end ⟨_, _, ?_, hrun, hended, _, _, rfl, ?_, ⟨_, rfl⟩, hW, hsame.mono (by decide) (by decide)⟩
  · exact retN X235 hx (t := .boolean) Bd.returns (by simp) (hb hby at_314) hr
  · show Q0 Z p1 p2 p3 p4 p5 p6 h0 n0 _ T235.heap _
    rw [e235]
    exact ⟨rfl, N235⟩
set_option maxRecDepth 65536 in
set_option maxHeartbeats 40000000 in
theorem comes_1 {Post : Tables → Env → Array Value → State → Outcome → State → Prop} (hpost : ∀ tb e args s v u, (limb_1_1.after args s (.returned v) u = true ∧ limb_1_2.after args s (.returned v) u = true) → FrameEnd s (.returned v) u (Jvm.fieldLocs frame_1_writes args s ++ Jvm.arrayLocs frame_1_arrays args s ++ Jvm.staticLocs frame_1_statics s) 24 128 → Post tb e args s (.returned v) u) :
    ArmFor flags0 classFile x code maxLocals ret World_1 tables_1 room_1 Calls_1 rest_1 Pre_1 Post := by
  intro l hfl _ _ p e ha hc hk s m args below hf hA hF happ hP
  obtain ⟨hcalls, hrest, hpre⟩ := hP
  obtain ⟨-, -, -, hnamed, -, -, -, hat⟩ := (Spec.applies_iff hf).mp happ
  obtain ⟨hg, hn⟩ := and_e (Cond.before_iff.mp (show (Jvm.Cond.and given_1 narrow_1).before args s = true from hpre))
  obtain ⟨g0, q0⟩ := and_e hg
  obtain ⟨g1, q1⟩ := and_e q0
  obtain ⟨g2, q2⟩ := and_e q1
  obtain ⟨g3, q3⟩ := and_e q2
  obtain ⟨g4, q4⟩ := and_e q3
  obtain ⟨g5, q5⟩ := and_e q4
  have g6 := q5
  obtain ⟨w0, w1, w2, w3, w4, w5, rfl⟩ : ∃ w0 w1 w2 w3 w4 w5 : Value, args = #[w0, w1, w2, w3, w4, w5] := by
    have hs : args.size = 6 := by simpa [Cond.value, given_1] using g0
    obtain ⟨L⟩ := args
    match L, hs with
    | [w0, w1, w2, w3, w4, w5], _ => exact ⟨w0, w1, w2, w3, w4, w5, rfl⟩
  have hw := fun d (hd : d ∈ tables_1) => atoms_spec (ws := Jvm.Cond.code x code maxLocals ret :: tables_1) hat d (List.mem_cons_of_mem _ hd)
  have hfit : Fit s := fun {y c} hc i hi => by
    obtain ⟨ha, rfl⟩ := Array.getElem?_eq_some_iff.mp hc
    have q := List.all_eq_true.mp ((Array.all_eq_true_iff_forall_mem.mp hF) _ (Array.getElem_mem ha)) i (List.mem_range.mpr hi)
    simpa [Array.getElem?_eq_getElem hi] using q
  obtain ⟨i0, ei0⟩ := is_v g1
  obtain rfl : w0 = (.int i0) := Option.some.inj ei0
  obtain ⟨i1, ei1⟩ := is_v g2
  obtain rfl : w1 = (.int i1) := Option.some.inj ei1
  obtain ⟨i2, ei2⟩ := is_v g3
  obtain rfl : w2 = (.int i2) := Option.some.inj ei2
  obtain ⟨i3, ei3⟩ := is_v g4
  obtain rfl : w3 = (.int i3) := Option.some.inj ei3
  obtain ⟨i4, ei4⟩ := is_v g5
  obtain rfl : w4 = (.int i4) := Option.some.inj ei4
  obtain ⟨i5, ei5⟩ := is_v g6
  obtain rfl : w5 = (.int i5) := Option.some.inj ei5
  obtain ⟨n, o, h1, h2, h3, _, L, rfl, ⟨rfl, N⟩, hq⟩ := rm0 l s _ hw tables_1 i0 i1 i2 i3 i4 i5  s.heap s.heap.size (Nat.le_refl _)  p e ha hc hk s m _ below hf ((Spec.applies_iff_loose hf).mp happ).1 ⟨rfl, State.Warmed39.refl s, rfl⟩ trivial
  refine ⟨n, _, h1, h2, h3, hpost _ _ _ _ _ _ ⟨Cond.after_iff.mpr rfl, Cond.after_iff.mpr (eq_i res_at (Term.int_eval (1)) rfl)⟩ ⟨hq.1, hq.2.1, (hq.2.2.sift fun y hy => Or.inr (N y hy)).mono (by decide) (by decide)⟩⟩
theorem main_1_1 : Claimed_1_1 := comes_1 fun _ _ _ _ _ _ h hF => ⟨h.1, hF⟩
theorem main_1_2 : Claimed_1_2 := comes_1 fun _ _ _ _ _ _ h hF => ⟨h.2, hF⟩
end Jvm.Pilot.@@N@@
namespace Jvm.Pilot.@@N@@
open Jvm Jvm.ClassFile Sem Op Lib Jvm.Free Jvm.Stand Jvm.Pilot.@@N@@.Jvm.D
/-! MADE BY PROGRAM (witnessworld.py) out of the Statement's table words and the real class files: 9 classes; the members and pool entries that the words name. The judged class is class 1, her method 1. -/
namespace start1
open Jvm.ClassFile
def u (s : String) : CpInfo := .utf8 (stringToUtf16 s)
/-- a pool by its gaps: so many unusable entries, then the entry; so many at the end -/
def gap : Nat → List CpInfo → List CpInfo
  | 0, r => r
  | n + 1, r => .unusable :: gap n r
def poolList (es : List (Nat × CpInfo)) (last : Nat) : List CpInfo := es.foldr (fun e r => gap e.1 (e.2 :: r)) (gap last [])
def pool (es : List (Nat × CpInfo)) (last : Nat) : Array CpInfo := ⟨poolList es last⟩
def fileOf (pool : Array CpInfo) (this : Nat) (attrs : Array Attribute := #[]) (ms : Array MethodInfo := #[]) (fl : Nat := 33) (sup : Nat := 0) (ifs : Array Nat := #[]) (fds : Array FieldInfo := #[]) : ClassFile where
  minorVersion := 0
  majorVersion := 65
  constantPool := pool
  accessFlags := fl
  thisClass := this
  superClass := sup
  interfaces := ifs
  fields := fds
  methods := ms
  attributes := attrs
def plain (name : String) (sup : Option ClassId) : Class where
  name := name
  kind := .ordinary
  loader := none
  accessFlags := 33
  super := sup
  interfaces := #[]
  cf := none
  fields := #[]
  methods := #[]
  instanceTypes := #[]
  staticTypes := #[]
  resolved := #[]
  callSites := []
  init := .initialized
  statics := none
  mirror := none

def pool0 : Array CpInfo := pool [(5, u "<init>"), (0, u "()V"), (1, .class_ 10), (1, u "java/lang/Object")] 113

def k0c0 : Code := { maxStack := 0, maxLocals := 1, code := object_method_1_code, exceptionTable := #[], attributes := #[] }
def k0m0 : Method := { name := "<init>", desc := "()V", sig := { parameters := [], returnType := none }, accessFlags := 1, code := some k0c0 }
/-- java/lang/Object -/
def k0 : Class := { plain "java/lang/Object" none with
  accessFlags := 33
  interfaces := #[]
  cf := some (fileOf pool0 8 #[] #[{ accessFlags := 1, nameIndex := 5, descriptorIndex := 6, attributes := #[] }] 33 0 #[] #[])
  fields := #[]
  methods := #[k0m0]
  instanceTypes := #[]
  staticTypes := #[]
  resolved := Array.replicate 124 none
  statics := none }

def pool1 : Array CpInfo := pool [(2, .class_ 4), (1, u "java/lang/Object"), (0, u "<init>"), (0, u "()V"), (0, .integer 2147483647), (0, .class_ 9), (0, u "com/example/bucket/bucket/graph/Graph"), (0, .methodref 8 11), (0, .nameAndType 5 12), (0, u "(II[I[I[I)V"), (0, .methodref 14 15), (0, .class_ 16), (0, .nameAndType 17 18), (0, u "com/example/bucket/bucket/graph/GraphEndArcPinLaw"), (0, u "c"), (0, u "(IIII)I"), (0, .methodref 8 20), (0, .nameAndType 21 22), (0, u "endArc"), (0, u "(I)I"), (2, u "law"), (0, u "(IIIIII)Z")] 5

def k1m0 : Method := { name := "<init>", desc := "()V", sig := { parameters := [], returnType := none }, accessFlags := 1, code := none }
def k1c1 : Code := { maxStack := 7, maxLocals := 15, code := code, exceptionTable := #[], attributes := #[] }
def k1m1 : Method := { name := "law", desc := "(IIIIII)Z", sig := { parameters := [.int, .int, .int, .int, .int, .int], returnType := some .boolean }, accessFlags := 9, code := some k1c1 }
def k1c2 : Code := { maxStack := 2, maxLocals := 4, code := method_3_code, exceptionTable := #[], attributes := #[] }
def k1m2 : Method := { name := "c", desc := "(IIII)I", sig := { parameters := [.int, .int, .int, .int], returnType := some .int }, accessFlags := 10, code := some k1c2 }
/-- com/example/bucket/bucket/graph/GraphEndArcPinLaw -/
def k1 : Class := { plain "com/example/bucket/bucket/graph/GraphEndArcPinLaw" (some 0) with
  accessFlags := 49
  interfaces := #[]
  cf := some (fileOf pool1 14 #[] #[{ accessFlags := 1, nameIndex := 5, descriptorIndex := 6, attributes := #[] }, { accessFlags := 9, nameIndex := 25, descriptorIndex := 26, attributes := #[] }, { accessFlags := 10, nameIndex := 17, descriptorIndex := 18, attributes := #[] }] 49 2 #[] #[])
  fields := #[]
  methods := #[k1m0, k1m1, k1m2]
  instanceTypes := #[]
  staticTypes := #[]
  resolved := Array.replicate 32 none
  statics := none }

def pool2 : Array CpInfo := pool [(1, .methodref 2 3), (0, .class_ 4), (0, .nameAndType 5 6), (0, u "java/lang/Object"), (0, u "<init>"), (0, u "()V"), (0, .fieldref 8 9), (0, .class_ 10), (0, .nameAndType 11 12), (0, u "com/example/bucket/bucket/graph/Graph"), (0, u "m_firstArc"), (0, u "[I"), (0, .fieldref 8 14), (0, .nameAndType 15 12), (0, u "m_head"), (0, .fieldref 8 17), (0, .nameAndType 18 12), (0, u "m_weight"), (0, u "(II[I[I[I)V"), (8, u "(I)I"), (0, u "endArc")] 4

def k2c0 : Code := { maxStack := 6, maxLocals := 8, code := prog_59_method_1_code, exceptionTable := #[], attributes := #[] }
def k2m0 : Method := { name := "<init>", desc := "(II[I[I[I)V", sig := { parameters := [.int, .int, (.array .int), (.array .int), (.array .int)], returnType := none }, accessFlags := 0, code := some k2c0 }
def k2c1 : Code := { maxStack := 3, maxLocals := 2, code := prog_59_method_5_code, exceptionTable := #[], attributes := #[] }
def k2m1 : Method := { name := "endArc", desc := "(I)I", sig := { parameters := [.int], returnType := some .int }, accessFlags := 0, code := some k2c1 }
/-- com/example/bucket/bucket/graph/Graph -/
def k2 : Class := { plain "com/example/bucket/bucket/graph/Graph" (some 0) with
  accessFlags := 49
  interfaces := #[]
  cf := some (fileOf pool2 8 #[] #[{ accessFlags := 0, nameIndex := 5, descriptorIndex := 19, attributes := #[] }, { accessFlags := 0, nameIndex := 29, descriptorIndex := 28, attributes := #[] }] 49 2 #[] #[{ accessFlags := 18, nameIndex := 11, descriptorIndex := 12, attributes := #[] }, { accessFlags := 18, nameIndex := 15, descriptorIndex := 12, attributes := #[] }, { accessFlags := 18, nameIndex := 18, descriptorIndex := 12, attributes := #[] }])
  fields := #[{ name := "m_firstArc", type := (.array .int), accessFlags := 18, slot := 0, constantValue := 0 }, { name := "m_head", type := (.array .int), accessFlags := 18, slot := 1, constantValue := 0 }, { name := "m_weight", type := (.array .int), accessFlags := 18, slot := 2, constantValue := 0 }]
  methods := #[k2m0, k2m1]
  instanceTypes := #[(.array .int), (.array .int), (.array .int)]
  staticTypes := #[]
  resolved := Array.replicate 34 none
  statics := none }

def pool3 : Array CpInfo := pool [(1, u "java/lang/Cloneable"), (0, .class_ 1), (0, u "java/lang/Object"), (0, .class_ 3)] 3

/-- java/lang/Cloneable -/
def k3 : Class := { plain "java/lang/Cloneable" (some 0) with
  accessFlags := 1537
  interfaces := #[]
  cf := some (fileOf pool3 2 #[] #[] 1537 4 #[] #[])
  fields := #[]
  methods := #[]
  instanceTypes := #[]
  staticTypes := #[]
  resolved := Array.replicate 8 none
  statics := none }

def pool4 : Array CpInfo := pool [(1, u "java/io/Serializable"), (0, .class_ 1), (0, u "java/lang/Object"), (0, .class_ 3)] 3

/-- java/io/Serializable -/
def k4 : Class := { plain "java/io/Serializable" (some 0) with
  accessFlags := 1537
  interfaces := #[]
  cf := some (fileOf pool4 2 #[] #[] 1537 4 #[] #[])
  fields := #[]
  methods := #[]
  instanceTypes := #[]
  staticTypes := #[]
  resolved := Array.replicate 8 none
  statics := none }

/-- the primitive byte -/
def k5 : Class := { plain "byte" none with kind := .primitive 'B', accessFlags := 0x411 }
/-- [B -/
def k6 : Class := { plain "[B" (some 0) with kind := .array 5 .byte, interfaces := #[3, 4], accessFlags := 1041 }

/-- the primitive int -/
def k7 : Class := { plain "int" none with kind := .primitive 'I', accessFlags := 0x411 }
/-- [I -/
def k8 : Class := { plain "[I" (some 0) with kind := .array 7 .int, interfaces := #[3, 4], accessFlags := 1041 }

def heap : Heap := #[]
def classes : Array Class := #[k0, k1, k2, k3, k4, k5, k6, k7, k8]
def interned : List (Array UInt16 × Addr) := []
def slotsUsed : Nat := 0
def theMethod : MethodId := ⟨1, 1⟩
def args0 : Array Value := #[.int 5, .int 6, .int 7, .int 8, .int 9, .int 10]
def aboutOver (below : List Frame) : State where
  vm := { classes := classes, interned := interned.toArray }
  heap := heap
  slotsUsed := slotsUsed
  threads := #[{ frames := .invoking theMethod args0 :: below }]
def below0 : List Frame := [.native { method := ⟨0, 0⟩, args := #[] }]
def about1 : State := aboutOver below0
def p0 : Program := .bare "" "" ""
def e0 : Env := launch0.env 0 0 0
theorem w_frames : about1.frames = Frame.invoking theMethod args0 :: below0 := rfl
set_option maxRecDepth 65536 in
theorem w_args : argsFit about1.vm theMethod args0 = true := by decide +kernel
set_option maxRecDepth 65536 in
theorem w_heap : heapFits about1 = true := by decide +kernel
set_option maxRecDepth 65536 in
theorem w_runnable : about1.curStatus? = some .runnable := by decide +kernel
set_option maxRecDepth 65536 in
theorem w_alone : about1.alone = true := by decide +kernel
set_option maxRecDepth 65536 in
theorem w_named : about1.methodNamed? x = some theMethod := by decide +kernel
set_option maxRecDepth 65536 in
theorem w_hears : about1.hears theMethod below0 = true := by decide +kernel
set_option maxRecDepth 65536 in
theorem w_ripe : about1.ripe theMethod args0 below0 = true := by decide +kernel
theorem w_running : about1.status = .running := rfl
set_option maxRecDepth 65536 in
theorem w_room : about1.hasRoom e0.platform room_1 = true :=
  launch0.hasRoom_least _ room_1 (by decide +kernel) (by decide +kernel) (by decide +kernel) (by decide +kernel) (by decide +kernel) (by decide +kernel)
theorem allAtoms_all (ts : List Jvm.Cond) (a : Array Jvm.Value) (st : Jvm.State) : (allAtoms ts).before a st = ts.all (fun c => c.before a st) := by
  induction ts with
  | nil => rfl
  | cons c t ih =>
    show (Jvm.Cond.and c (allAtoms t)).before a st = _
    rw [Jvm.Cond.before_and, ih, List.all_cons]
def words1 : List Jvm.Cond := Jvm.Cond.code x code maxLocals ret :: tables_1
/-- a 'code' word, met by the world's own term for the bytes: nothing is compared byte by byte -/
theorem code_word {y : MethodName} {bytes : ByteArray} {mx : Nat} {rt : Option FieldType} {a : Array Value} {s : State} {m : MethodId} {meth : Method} {c : Code} (h1 : s.methodNamed? y = some m) (h2 : s.vm.method? m = some meth) (h3 : meth.code = some c) (h4 : c.code = bytes)
    (h5 : (c.maxLocals == mx && c.exceptionTable.isEmpty && decide (c.maxStack ≤ mostOperands) && decide (meth.sig.returnType = rt) && !meth.locks && decide (parseMethodDescriptor y.desc = some meth.sig)) = true) : (Jvm.Cond.code y bytes mx rt).before a s = true := by
  simp only [Bool.and_eq_true, beq_iff_eq, Bool.not_eq_true', decide_eq_true_eq] at h5
  obtain ⟨⟨⟨⟨⟨g1, g2⟩, g3⟩, g4⟩, g5⟩, g6⟩ := h5
  simp [Cond.before, Cond.holds, Cond.value, h1, h2, h3, h4, g1, g2, g3, g4, g5, g6]
def isCode : Jvm.Cond → Bool
  | .code _ _ _ _ => true
  | _ => false
theorem all_split {L : List Jvm.Cond} {P : Jvm.Cond → Bool} (h1 : L.all (fun c => isCode c || P c) = true) (h2 : ∀ c ∈ L.filter isCode, P c = true) : L.all P = true := by
  refine List.all_eq_true.mpr fun c hc => ?_
  have h := List.all_eq_true.mp h1 c hc
  rcases Bool.eq_false_or_eq_true (isCode c) with hi | hi
  · exact h2 c (List.mem_filter.mpr ⟨hc, hi⟩)
  · simpa [hi] using h
set_option maxRecDepth 65536 in
theorem w_c0 : (Jvm.Cond.code x code maxLocals ret).before args0 about1 = true := code_word (m := ⟨1, 1⟩) (meth := k1m1) (c := k1c1) (by decide +kernel) rfl rfl rfl (by decide +kernel)
set_option maxRecDepth 65536 in
theorem w_c1 : (Jvm.Cond.code ({ cls := "com/example/bucket/bucket/graph/Graph", name := "<init>", desc := "(II[I[I[I)V" } : Jvm.MethodName) prog_59_method_1_code (8 : Nat) (Option.none : Option Jvm.ClassFile.FieldType)).before args0 about1 = true := code_word (m := ⟨2, 0⟩) (meth := k2m0) (c := k2c0) (by decide +kernel) rfl rfl rfl (by decide +kernel)
set_option maxRecDepth 65536 in
theorem w_c2 : (Jvm.Cond.code ({ cls := "java/lang/Object", name := "<init>", desc := "()V" } : Jvm.MethodName) object_method_1_code (1 : Nat) (Option.none : Option Jvm.ClassFile.FieldType)).before args0 about1 = true := code_word (m := ⟨0, 0⟩) (meth := k0m0) (c := k0c0) (by decide +kernel) rfl rfl rfl (by decide +kernel)
set_option maxRecDepth 65536 in
theorem w_c3 : (Jvm.Cond.code ({ cls := "com/example/bucket/bucket/graph/GraphEndArcPinLaw", name := "c", desc := "(IIII)I" } : Jvm.MethodName) method_3_code (4 : Nat) (Option.some Jvm.ClassFile.FieldType.int)).before args0 about1 = true := code_word (m := ⟨1, 2⟩) (meth := k1m2) (c := k1c2) (by decide +kernel) rfl rfl rfl (by decide +kernel)
set_option maxRecDepth 65536 in
theorem w_c4 : (Jvm.Cond.code ({ cls := "com/example/bucket/bucket/graph/Graph", name := "endArc", desc := "(I)I" } : Jvm.MethodName) prog_59_method_5_code (2 : Nat) (Option.some Jvm.ClassFile.FieldType.int)).before args0 about1 = true := code_word (m := ⟨2, 1⟩) (meth := k2m1) (c := k2c1) (by decide +kernel) rfl rfl rfl (by decide +kernel)
def codes1 : List Jvm.Cond := [Jvm.Cond.code x code maxLocals ret, Jvm.Cond.code ({ cls := "com/example/bucket/bucket/graph/Graph", name := "<init>", desc := "(II[I[I[I)V" } : Jvm.MethodName) prog_59_method_1_code (8 : Nat) (Option.none : Option Jvm.ClassFile.FieldType), Jvm.Cond.code ({ cls := "java/lang/Object", name := "<init>", desc := "()V" } : Jvm.MethodName) object_method_1_code (1 : Nat) (Option.none : Option Jvm.ClassFile.FieldType), Jvm.Cond.code ({ cls := "com/example/bucket/bucket/graph/GraphEndArcPinLaw", name := "c", desc := "(IIII)I" } : Jvm.MethodName) method_3_code (4 : Nat) (Option.some Jvm.ClassFile.FieldType.int), Jvm.Cond.code ({ cls := "com/example/bucket/bucket/graph/Graph", name := "endArc", desc := "(I)I" } : Jvm.MethodName) prog_59_method_5_code (2 : Nat) (Option.some Jvm.ClassFile.FieldType.int)]
set_option maxRecDepth 65536 in
theorem codes_eq : words1.filter isCode = codes1 := rfl
theorem w_codes : ∀ c ∈ words1.filter isCode, c.before args0 about1 = true := by
  rw [codes_eq]
  intro c hc
  simp only [codes1, List.mem_cons, List.not_mem_nil, or_false] at hc
  rcases hc with rfl | rfl | rfl | rfl | rfl
  · exact w_c0
  · exact w_c1
  · exact w_c2
  · exact w_c3
  · exact w_c4
set_option maxRecDepth 65536 in
theorem w_t1 : (words1.take 24).all (fun c => isCode c || c.before args0 about1) = true := by decide +kernel
set_option maxRecDepth 65536 in
theorem w_t2 : (words1.drop 24).all (fun c => isCode c || c.before args0 about1) = true := by decide +kernel
theorem w_tables : (allAtoms (Jvm.Cond.code x code maxLocals ret :: tables_1)).before args0 about1 = true := by
  rw [allAtoms_all]
  show words1.all (fun c => c.before args0 about1) = true
  refine all_split ?_ w_codes
  rw [← List.take_append_drop 24 words1, List.all_append, w_t1, w_t2]
  rfl
set_option maxRecDepth 65536 in
theorem w_case : (Jvm.Cond.and given_1 narrow_1).before args0 about1 = true := by decide +kernel
theorem w_applies : (headSpec (Jvm.Cond.code x code maxLocals ret :: tables_1) room_1).applies x e0.platform about1 = true :=
  (Spec.applies_iff w_frames).mpr ⟨w_running, w_runnable, w_alone, w_named, w_hears, w_ripe, w_room, w_tables⟩
theorem atStart : AtStart classFile x code maxLocals ret World_1 tables_1 room_1 Calls_1 rest_1 Pre_1 launch0 p0 e0 about1 theMethod args0 below0 :=
  ⟨lists_1, trivial, launch0.admits_env _ _ _, launch0.least_env, fairChoices_fair.cas, fairChoices_fair.clock, w_frames, w_args, w_heap, w_applies, trivial, trivial, w_case⟩
end start1
theorem witness_1 : WitnessClaimed_1 := ⟨start1.p0, start1.e0, start1.about1, start1.theMethod, start1.args0, start1.below0, start1.atStart⟩
end Jvm.Pilot.@@N@@
