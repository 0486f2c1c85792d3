import JvmDerived
import JvmDerived.Pilot.@@N@@Statement
import JvmDerived.Pilot.@@N@@Code
set_option linter.unusedVariables false
set_option linter.unusedSimpArgs false
@@BLOCK:NumsL.lean.txt@@
namespace Jvm.Pilot.@@N@@
open Jvm Jvm.ClassFile Sem Op Lib Jvm.Free Jvm.Stand Jvm.LawKit Jvm.RoadKit Bundle Jvm.Pilot.@@N@@.Jvm.D
/-! from S the run comes to an end that A accepts -/
def own_R (tb : Tables) (e : Env) (below : List Frame) (A : State → Outcome → Prop) (S : State) : Prop := ∃ t o, Steps tb e below S t ∧ A t o
theorem own_by {tb : Tables} {e : Env} {below : List Frame} {A : State → Outcome → Prop} {S S' : State} (st : ∀ t, Steps tb e below S' t → Steps tb e below S t) (k : own_R tb e below A S') : own_R tb e below A S := by
  obtain ⟨t, o, k1, k2⟩ := k
  exact ⟨t, o, st t k1, k2⟩
theorem own_join {α : Type} {tb : Tables} {e : Env} {below : List Frame} {A : State → Outcome → Prop} {S : State} (F : α → State) (P : α → Prop) (h1 : (∀ x, P x → own_R tb e below A (F x)) → own_R tb e below A S) (h2 : ∀ x, P x → own_R tb e below A (F x)) : own_R tb e below A S := h1 h2
theorem own_end {tb : Tables} {e : Env} {below : List Frame} {A : State → Outcome → Prop} {S : State} (k : ∃ t o, Steps tb e below S t ∧ A t o) : own_R tb e below A S := k
theorem own_retI {p : Program} {l : Launch} {e : Env} {R : Room} {s : State} {m : MethodId} {args : Array Value} {below : List Frame} {meth : Method} {c : Code} {T : State} {locs : List Loc} {cells slots : Nat} (X : Stand p l e R s m args below meth c T locs cells slots) (hx : p.tables.exec = Jvm.exec) {pc : Nat} {Ls : Array Slot} {z : Int32} {rest : List Value} (hret : meth.sig.returnType = some .int) (hd : decode c.code pc = .ok (.ireturn, 1)) {fs : List Frame}
    (hl : ∀ (f : JFrame) (acts : List Action), f.method = m → f.locked = none → f.entered = [] → (doReturn e (T.setTop f) acts (some (.int z))).1 = T.setFrames fs) : Steps p.tables e below (T.setTop (mkF m pc Ls (.int z :: rest))) (T.setFrames fs) :=
  retOut X hx hret rfl (Or.inl ⟨rfl, Or.inl rfl, z, rfl⟩) hd hl
theorem own_retJ {p : Program} {l : Launch} {e : Env} {R : Room} {s : State} {m : MethodId} {args : Array Value} {below : List Frame} {meth : Method} {c : Code} {T : State} {locs : List Loc} {cells slots : Nat} (X : Stand p l e R s m args below meth c T locs cells slots) (hx : p.tables.exec = Jvm.exec) {pc : Nat} {Ls : Array Slot} {z : Int64} {rest : List Value} (hret : meth.sig.returnType = some .long) (hd : decode c.code pc = .ok (.lreturn, 1)) {fs : List Frame}
    (hl : ∀ (f : JFrame) (acts : List Action), f.method = m → f.locked = none → f.entered = [] → (doReturn e (T.setTop f) acts (some (.long z))).1 = T.setFrames fs) : Steps p.tables e below (T.setTop (mkF m pc Ls (.long z :: rest))) (T.setFrames fs) :=
  retOut X hx hret rfl (Or.inr (Or.inl ⟨rfl, rfl, z, rfl⟩)) hd hl
theorem own_dupX2 {tb : Tables} [Ours tb] {e : Env} {below : List Frame} {T target : State} {m : MethodId} {c : Code} {g : JFrame} (h : At T m c below) (hx : tb.exec = Jvm.exec) (hg : g.method = m) {x y z : Value} {rest : List Value} (hd : decode c.code g.pc = .ok (.dup_x2, 1)) (hs : g.stack = x :: y :: z :: rest) (hc : x.category = 1) (hc' : y.category = 1) (hc'' : z.category = 1)
    (hr : Steps tb e below (T.setTop { g with pc := g.pc + 1, stack := x :: y :: z :: x :: rest }) target) : Steps tb e below (T.setTop g) target := by
  subst hg
  jvm_step h [h.top, hx, hd, hs, hc, hc', hc'']
  exact hr
theorem own_retA {p : Program} {l : Launch} {e : Env} {R : Room} {s : State} {m : MethodId} {args : Array Value} {below : List Frame} {meth : Method} {c : Code} {T : State} {locs : List Loc} {cells slots : Nat} (X : Stand p l e R s m args below meth c T locs cells slots) (hx : p.tables.exec = Jvm.exec) {pc : Nat} {Ls : Array Slot} {z : Addr} {t : FieldType} {rest : List Value} (hret : meth.sig.returnType = some t) (ht : t.isReference = true) (hd : decode c.code pc = .ok (.areturn, 1)) {fs : List Frame}
    (hl : ∀ (f : JFrame) (acts : List Action), f.method = m → f.locked = none → f.entered = [] → (doReturn e (T.setTop f) acts (some (.ref z))).1 = T.setFrames fs) : Steps p.tables e below (T.setTop (mkF m pc Ls (.ref z :: rest))) (T.setFrames fs) :=
  retOut X hx hret (by cases t <;> first | rfl | cases ht) (Or.inr (Or.inr (Or.inr (Or.inr ⟨rfl, ht, rfl⟩)))) hd hl
/-! an array of n places, place j holds mk (g j) -/
def own_K {α : Type} (mk : α → Value) (Z : State) (h : Heap) (a : Addr) (ty : FieldType) (n : Nat) (g : Nat → α) : Prop := ∃ c : Cell, Arr Z h a c ty ∧ c.slots.size = n ∧ n < 2 ^ 31 ∧ ∀ j, j < n → c.slots[j]? = some (mk (g j))
section OwnK
variable {α : Type} {mk : α → Value} {Z : State} {h h' : Heap} {a b : Addr} {ty : FieldType} {n : Nat} {f g : Nat → α} {ws : List Addr} {sl : Nat} {v : Value}
theorem own_K.lt (F : own_K mk Z h a ty n f) : a < h.size := by obtain ⟨c, A, -⟩ := F; exact A.lt
theorem own_K.ext (F : own_K mk Z h a ty n f) (E : Ext h h') : own_K mk Z h' a ty n f := by obtain ⟨c, A, r⟩ := F; exact ⟨c, A.ext E, r⟩
theorem own_K.other (F : own_K mk Z h b ty n f) (W : Wr h h' a sl v) (q : b ≠ a) : own_K mk Z h' b ty n f := by obtain ⟨c, A, r⟩ := F; exact ⟨c, A.other W q, r⟩
theorem own_K.keep (F : own_K mk Z h a ty n f) (K : Keep h h' ws) (q : a ∉ ws) : own_K mk Z h' a ty n f := by obtain ⟨c, A, r⟩ := F; exact ⟨c, ⟨K.2.1 a c A.1 q, A.2⟩, r⟩
theorem own_K.new {k : ClassId} {z : Int32} {d : α} (A : Arr Z h a (newA k ty z) ty) (q : ¬ z < 0) (hz : z.toNatClampNeg = n) (hd : mk d = defaultValue ty) : own_K mk Z h a ty n (fun _ => d) := by
  subst hz
  exact ⟨_, A, sz_new _ _ _, (back32 q).2, fun j hj => by simp [newA, hj, hd]⟩
theorem own_K.eq (F : own_K mk Z h a ty n f) (e : ∀ j, j < n → f j = g j) : own_K mk Z h a ty n g := by
  obtain ⟨c, A, s1, s2, H⟩ := F
  exact ⟨c, A, s1, s2, fun j hj => (H j hj).trans (congrArg (fun z => some (mk z)) (e j hj))⟩
theorem own_K.rd {i : Int32} {p : Nat} (F : own_K mk Z h a ty n f) (hp : i.toNatClampNeg = p) (h0 : ¬ i < 0) (h1 : p < n) : ∃ c : Cell, Arr Z h a c ty ∧ ¬ (i < 0 ∨ c.slots.size ≤ i.toNatClampNeg) ∧ c.slots[i.toNatClampNeg]? = some (mk (f p)) := by
  obtain ⟨c, A, s1, s2, H⟩ := F
  subst hp
  exact ⟨c, A, by rw [s1]; exact fun q => q.elim h0 (fun z => absurd h1 (Nat.not_lt.mpr z)), H _ h1⟩
theorem own_K.ln (F : own_K mk Z h a ty n f) : ∃ c : Cell, Arr Z h a c ty ∧ c.slots.size.toInt32 = Int32.ofNat n := by
  obtain ⟨c, A, s1, -, -⟩ := F
  exact ⟨c, A, by rw [s1]⟩
/-! the function with one place turned -/
def own_uk {α : Type} (g : Nat → α) (i : Nat) (x : α) : Nat → α := fun j => if j = i then x else g j
theorem own_K.set {i : Int32} {p : Nat} {x : α} (F : own_K mk Z h a ty n f) (hp : i.toNatClampNeg = p) (W : Wr h h' a i.toNatClampNeg (mk x)) : own_K mk Z h' a ty n (own_uk f p x) := by
  obtain ⟨c, A, s1, s2, H⟩ := F
  subst hp
  refine ⟨_, A.same W, by rw [sz_set]; exact s1, s2, fun j hj => ?_⟩
  unfold own_uk
  by_cases u : j = i.toNatClampNeg
  · subst u
    simp [Cell.setSlot, s1, hj]
  · rw [if_neg u]
    simp only [Cell.setSlot]
    rw [Array.getElem?_setIfInBounds_ne (Ne.symm u)]
    exact H j hj
end OwnK
theorem own_toInt {n : Nat} (h : n < 2 ^ 31) : (Int32.ofNat n).toInt = n := Int32.toInt_ofNat_of_lt h
theorem own_ltI {a b : Nat} (ha : a < 2 ^ 31) (hb : b < 2 ^ 31) : Int32.ofNat a < Int32.ofNat b ↔ a < b := by
  rw [Int32.lt_iff_toInt_lt, own_toInt ha, own_toInt hb]; omega
theorem own_inj {a b : Nat} (ha : a < 2 ^ 31) (hb : b < 2 ^ 31) : Int32.ofNat a = Int32.ofNat b ↔ a = b := by
  rw [← Int32.toInt_inj, own_toInt ha, own_toInt hb]; omega
theorem own_add1 (a : Nat) : Int32.ofNat a + 1 = Int32.ofNat (a + 1) := by
  rw [Int32.ofNat_add]; rfl
theorem own_addI (a b : Nat) : Int32.ofNat a + Int32.ofNat b = Int32.ofNat (a + b) := by
  rw [Int32.ofNat_add]
theorem own_sub1 (a : Nat) : Int32.ofNat (a + 1) - 1 = Int32.ofNat a := by
  rw [← own_add1]; exact Int32.add_sub_cancel _ _
theorem own_clamp {a : Nat} (h : a < 2 ^ 31) : (Int32.ofNat a).toNatClampNeg = a := by
  rw [Int32.toNatClampNeg, own_toInt h]; rfl
theorem own_nn {a : Nat} (h : a < 2 ^ 31) : ¬ Int32.ofNat a < 0 := by
  rw [Int32.lt_iff_toInt_lt, own_toInt h]; show ¬ (a : Int) < 0; omega
theorem own_ofInt (x : Int32) (h : 0 ≤ x.toInt) : ∃ n : Nat, x = Int32.ofNat n ∧ (n : Int) = x.toInt := by
  refine ⟨x.toInt.toNat, ?_, Int.toNat_of_nonneg h⟩
  rw [← Int32.toInt_inj, own_toInt (by have := x.toInt_lt; omega)]
  omega
def own_insv : Nat → (Nat → Int32) → Int32 → (Nat → Int32)
  | 0, g, x => own_uk g 0 x
  | i + 1, g, x => if x < g i then own_insv i (own_uk g (i + 1) (g i)) x else own_uk g (i + 1) x
def own_turn (g : Nat → Int32) (t : Nat) : Nat → Int32 := if g (t + 1) < g t then own_insv (t + 1) g (g (t + 1)) else g
def own_os : Nat → Nat → (Nat → Int32) → (Nat → Int32)
  | 0, _, g => g
  | k + 1, t, g => own_os k (t + 1) (own_turn g t)
def own_adl (L : List Nat) (x : Nat) : List Nat := if x ∈ L then L else L ++ [x]
def own_lg (L : List Nat) : Nat → Int32 := fun j => Int32.ofNat (L.getD j 0)
def own_wk (m : Int32) (k : Nat) : Nat := if m = 0 then k else k + 1
def own_ww (m : Int32) (k : Nat) (w : Nat → Int32) (i : Int32) : Nat → Int32 := if m = 0 then w else own_uk w k i
def own_k4 (m0 m1 m2 m3 : Int32) : Nat := own_wk m3 (own_wk m2 (own_wk m1 (own_wk m0 0)))
def own_w4 (m0 m1 m2 m3 : Int32) : Nat → Int32 := own_ww m3 (own_wk m2 (own_wk m1 (own_wk m0 0))) (own_ww m2 (own_wk m1 (own_wk m0 0)) (own_ww m1 (own_wk m0 0) (own_ww m0 0 (fun _ => 0) 0) 1) 2) 3
def own_fl4 (a b c d i : Int32) : Int32 := if a = i then 1 else (if b = i then 1 else (if c = i then 1 else (if d = i then 1 else 0)))
def own_fl2 (a b i : Int32) : Int32 := if a = i then 1 else (if b = i then 1 else 0)
abbrev own_chk (L : List Nat) (m0 m1 m2 m3 : Int32) : Prop := L.length = own_k4 m0 m1 m2 m3 ∧ ∀ j : Fin 4, j.val < L.length → own_os (L.length - 1) 0 (own_lg L) j.val = own_w4 m0 m1 m2 m3 j.val
theorem own_ok4 : ∀ a b c d : Fin 4, own_chk (own_adl (own_adl (own_adl (own_adl [] a) b) c) d) (own_fl4 (Int32.ofNat a) (Int32.ofNat b) (Int32.ofNat c) (Int32.ofNat d) 0) (own_fl4 (Int32.ofNat a) (Int32.ofNat b) (Int32.ofNat c) (Int32.ofNat d) 1) (own_fl4 (Int32.ofNat a) (Int32.ofNat b) (Int32.ofNat c) (Int32.ofNat d) 2) (own_fl4 (Int32.ofNat a) (Int32.ofNat b) (Int32.ofNat c) (Int32.ofNat d) 3) := by decide +kernel
theorem own_ok2 : ∀ a b : Fin 4, own_chk (own_adl (own_adl [] a) b) (own_fl2 (Int32.ofNat a) (Int32.ofNat b) 0) (own_fl2 (Int32.ofNat a) (Int32.ofNat b) 1) (own_fl2 (Int32.ofNat a) (Int32.ofNat b) 2) (own_fl2 (Int32.ofNat a) (Int32.ofNat b) 3) := by decide +kernel
def own_Inv (n : Nat) (gv ga : Nat → Int32) (tk : Int32) (L : List Nat) : Prop := n = L.length ∧ (∀ j, j < n → gv j = own_lg L j) ∧ ∀ x, x < 4 → (ga x = tk ↔ x ∈ L)
def own_an (n : Nat) (tk : Int32) (ga : Nat → Int32) (x : Nat) : Nat := if ga x = tk then n else n + 1
def own_av (gv : Nat → Int32) (n : Nat) (tk : Int32) (ga : Nat → Int32) (x : Nat) : Nat → Int32 := if ga x = tk then gv else own_uk gv n (Int32.ofNat x)
def own_ag (ga : Nat → Int32) (tk : Int32) (x : Nat) : Nat → Int32 := if ga x = tk then ga else own_uk ga x tk
theorem own_step {n : Nat} {gv ga : Nat → Int32} {tk : Int32} {L : List Nat} (I : own_Inv n gv ga tk L) (x : Nat) (hx : x < 4) : own_Inv (own_an n tk ga x) (own_av gv n tk ga x) (own_ag ga tk x) tk (own_adl L x) := by
  obtain ⟨i1, i2, i3⟩ := I
  unfold own_an own_av own_ag own_adl
  by_cases h : ga x = tk
  · have hm := (i3 x hx).mp h
    rw [if_pos h, if_pos h, if_pos h, if_pos hm]
    exact ⟨i1, i2, i3⟩
  · have hm : x ∉ L := fun q => h ((i3 x hx).mpr q)
    rw [if_neg h, if_neg h, if_neg h, if_neg hm]
    refine ⟨by simp [i1], fun j hj => ?_, fun y hy => ?_⟩
    · unfold own_uk own_lg
      by_cases q : j = n
      · subst q
        rw [if_pos rfl]
        simp [List.getD_eq_getElem?_getD, i1]
      · rw [if_neg q, i2 j (by omega)]
        unfold own_lg
        simp only [List.getD_eq_getElem?_getD]
        rw [List.getElem?_append_left (by omega)]
    · unfold own_uk
      by_cases q : y = x
      · subst q; simp
      · rw [if_neg q, i3 y hy]; simp [q]
theorem own_start (gv ga : Nat → Int32) (tk : Int32) (h : ∀ x, x < 4 → ga x ≠ tk) : own_Inv 0 gv ga tk [] := ⟨rfl, fun j hj => by omega, fun x hx => ⟨fun q => absurd q (h x hx), fun q => by cases q⟩⟩
theorem own_an_le (n : Nat) (tk : Int32) (ga : Nat → Int32) (x : Nat) : own_an n tk ga x ≤ n + 1 := by unfold own_an; split <;> omega
theorem own_ag01 {ga : Nat → Int32} {tk : Int32} (h : ∀ x, x < 4 → ga x = 0 ∨ ga x = tk) (x : Nat) : ∀ y, y < 4 → own_ag ga tk x y = 0 ∨ own_ag ga tk x y = tk := by
  intro y hy
  unfold own_ag
  split
  · exact h y hy
  · unfold own_uk; split
    · exact Or.inr rfl
    · exact h y hy
theorem own_turnlt (g : Nat → Int32) (t : Nat) (h : g (t + 1) < g t) : own_insv (t + 1) g (g (t + 1)) = own_turn g t := by unfold own_turn; rw [if_pos h]
theorem own_turnge (g : Nat → Int32) (t : Nat) (h : ¬ g (t + 1) < g t) : g = own_turn g t := by unfold own_turn; rw [if_neg h]
theorem own_ext (n : Nat) : ∀ (g g' : Nat → Int32) (k t : Nat), t + k < n → (∀ j, j < n → g j = g' j) → ∀ j, j < n → own_os k t g j = own_os k t g' j := by
  have hi : ∀ (i : Nat) (g g' : Nat → Int32) (x : Int32), i < n → (∀ j, j < n → g j = g' j) → ∀ j, j < n → own_insv i g x j = own_insv i g' x j := by
    intro i
    induction i with
    | zero => intro g g' x h0 h j hj; unfold own_insv own_uk; split
              · rfl
              · exact h j hj
    | succ i ih =>
      intro g g' x h0 h j hj
      unfold own_insv
      rw [h i (by omega)]
      split
      · refine ih _ _ x (by omega) (fun y hy => ?_) j hj
        unfold own_uk; split
        · rfl
        · exact h y hy
      · unfold own_uk; split
        · rfl
        · exact h j hj
  intro g g' k
  induction k generalizing g g' with
  | zero => intro t ht h j hj; exact h j hj
  | succ k ih =>
    intro t ht h j hj
    unfold own_os
    refine ih _ _ (t + 1) (by omega) (fun y hy => ?_) j hj
    unfold own_turn
    rw [h (t + 1) (by omega), h t (by omega)]
    split
    · rw [hi (t + 1) g g' _ (by omega) h y hy]
    · exact h y hy
theorem own_and3 (p : Int32) : ∃ n : Nat, p &&& (3 : Int32) = Int32.ofNat n ∧ n < 4 := by
  have h := c_and p 3 (by decide)
  have e3 : (3 : Int32).toInt = 3 := rfl
  obtain ⟨n, e, q⟩ := own_ofInt (p &&& 3) h.1
  exact ⟨n, e, by omega⟩
theorem own_tasks (p q : Int32) : (p &&& (1073741823 : Int32)) + 1 ≠ 0 ∧ ((((p &&& (1073741823 : Int32)) + (1 : Int32)) + (q &&& (536870911 : Int32))) &&& (1073741823 : Int32)) + 1 ≠ 0 ∧ (p &&& (1073741823 : Int32)) + 1 ≠ ((((p &&& (1073741823 : Int32)) + (1 : Int32)) + (q &&& (536870911 : Int32))) &&& (1073741823 : Int32)) + 1 := by
  have e1 := Jvm.Kit.i32_mask p 1073741823 (k := 30) (by decide) (by decide)
  have e2 := Jvm.Kit.i32_mask q 536870911 (k := 29) (by decide) (by decide)
  have e3 := Jvm.Kit.i32_mask (((p &&& (1073741823 : Int32)) + (1 : Int32)) + (q &&& (536870911 : Int32))) 1073741823 (k := 30) (by decide) (by decide)
  generalize p &&& (1073741823 : Int32) = a at *
  generalize q &&& (536870911 : Int32) = b at *
  have o1 : (1 : Int32).toInt = 1 := rfl
  have o0 : (0 : Int32).toInt = 0 := rfl
  have a1 : (a + 1).toInt = a.toInt + 1 := by rw [Jvm.Kit.i32_add (by omega) (by omega), o1]
  have a2 : (a + 1 + b).toInt = a.toInt + 1 + b.toInt := by rw [Jvm.Kit.i32_add (by omega) (by omega), a1]
  rw [a2] at e3
  generalize (a + 1 + b) &&& (1073741823 : Int32) = c at *
  have a3 : (c + 1).toInt = c.toInt + 1 := by rw [Jvm.Kit.i32_add (by omega) (by omega), o1]
  simp only [ne_eq, ← Int32.toInt_inj, a1, a3, o0]
  omega
def own_CD (Z : State) (h : Heap) (n0 : Nat) (a b c : Addr) (n : Nat) (tk : Int32) (gv ga : Nat → Int32) : Prop := Exa Z h a "com/example/frugal_scheduler/frugalscheduler/planners/PoolSchedule$Candidates" ∧ Fld Z h a "com/example/frugal_scheduler/frugalscheduler/planners/PoolSchedule$Candidates" "vms" "[I" (.ref b) ∧ Fld Z h a "com/example/frugal_scheduler/frugalscheduler/planners/PoolSchedule$Candidates" "addedFor" "[I" (.ref c) ∧ Fld Z h a "com/example/frugal_scheduler/frugalscheduler/planners/PoolSchedule$Candidates" "size" "I" (.int (Int32.ofNat n)) ∧ Fld Z h a "com/example/frugal_scheduler/frugalscheduler/planners/PoolSchedule$Candidates" "task" "I" (.int tk) ∧ own_K .int Z h b .int 4 gv ∧ Exa Z h b "[I" ∧ own_K .int Z h c .int 4 ga ∧ a ≠ b ∧ a ≠ c ∧ b ≠ c ∧ n0 ≤ a ∧ n0 ≤ b ∧ n0 ≤ c
def own_mi (x y : Int32) : Int32 := if y < x then y else x
theorem own_mi4 {n : Nat} (h : n ≤ 4) : own_mi (Int32.ofNat 4) (Int32.ofNat n) = Int32.ofNat n := by
  have : n = 0 ∨ n = 1 ∨ n = 2 ∨ n = 3 ∨ n = 4 := by omega
  rcases this with rfl | rfl | rfl | rfl | rfl <;> decide
theorem own_fitc {Z : State} {h : Heap} {a : Addr} {cl : Cell} {n : Nat} {g : Nat → Int32} (A : Arr Z h a cl .int) (S : cl.slots.size = n) (H : ∀ j, j < n → cl.slots[j]? = some (.int (g j))) : FitC Z cl := fitC_of A fun i hi v hv => by
  rw [H i (by omega)] at hv
  cases hv
  rfl
theorem own_getD {n j : Nat} (g : Nat → Int32) (hj : j < n) : ((List.range n).map fun j => Value.int (g j)).getD j (.int (0 : Int32)) = .int (g j) := by
  simp [List.getD_eq_getElem?_getD, hj]
theorem own_toArv {Z : State} {h : Heap} {a : Addr} {n : Nat} {g : Nat → Int32} (V : own_K .int Z h a .int n g) : ∃ k, Arv Z h a k .int (Int32.ofNat n) ((List.range n).map fun j => Value.int (g j)) (.int (0 : Int32)) := by
  obtain ⟨c, A, S, hl, H⟩ := V
  refine ⟨c.cls, c, A, rfl, by rw [S, own_clamp hl], own_nn hl, fun j hj => ?_, fun j hj => ?_⟩
  · rw [S] at hj
    rw [H j hj, own_getD g hj]
  · rw [S] at hj
    rw [own_getD g hj]
    rfl
theorem own_ofArv {Z : State} {h : Heap} {a : Addr} {k : ClassId} {n : Nat} {g : Nat → Int32} {vs : List Value} {dv : Value} (hn : n < 2 ^ 31) (V : Arv Z h a k .int (Int32.ofNat n) vs dv) (e : ∀ j, j < n → vs.getD j dv = .int (g j)) : own_K .int Z h a .int n g := by
  obtain ⟨c, A, -, S, -, H, -⟩ := V
  rw [own_clamp hn] at S
  exact ⟨c, A, S, hn, fun j hj => by rw [H j (by omega), e j hj]⟩
theorem own_cpd {n : Nat} (g : Nat → Int32) (vd : List Value) (hn : n ≤ 4) (j : Nat) (hj : j < n) : ((vd.take (0 : Int32).toNatClampNeg) ++ ((List.range (Int32.ofNat n).toNatClampNeg).map fun i => ((List.range 4).map fun j => Value.int (g j)).getD ((0 : Int32).toNatClampNeg + i) (.int (0 : Int32))) ++ vd.drop ((0 : Int32).toNatClampNeg + (Int32.ofNat n).toNatClampNeg)).getD j (.int (0 : Int32)) = .int (g j) := by
  rw [own_clamp (by omega), show (0 : Int32).toNatClampNeg = 0 from rfl, List.take_zero, List.nil_append, List.getD_eq_getElem?_getD, List.getElem?_append_left (by simp; exact hj)]
  simp only [List.getElem?_map, List.getElem?_range hj, Option.map_some, Option.getD_some, Nat.zero_add]
  exact own_getD g (by omega)
theorem own_kge {k c : Nat} (hk : k < 2 ^ 31) (hc : c < 2 ^ 31) (h : ¬ Int32.ofNat k < Int32.ofNat c) : c ≤ k := Nat.le_of_not_lt fun q => h ((own_ltI hk hc).mpr q)
theorem own_wkle (m : Int32) (k : Nat) : own_wk m k ≤ k + 1 := by unfold own_wk; split <;> omega
theorem own_os3 {z0 z1 z2 z4 : Value} {s3 s5 : Slot} {v : Int32} (h : One s3) : storeLocals #[.val z0, .val z1, .val z2, s3, .val z4, s5] 3 (.int v) = some #[.val z0, .val z1, .val z2, .val (.int v), .val z4, s5] := by
  rcases h with rfl | ⟨w, rfl, hw⟩
  · rfl
  · cases w <;> first | rfl | (simp [Value.category] at hw)
theorem own_os5 {z0 z1 z2 z3 z4 : Value} {s5 : Slot} {v : Int32} (h : One s5) : storeLocals #[.val z0, .val z1, .val z2, .val z3, .val z4, s5] 5 (.int v) = some #[.val z0, .val z1, .val z2, .val z3, .val z4, .val (.int v)] := by
  rcases h with rfl | ⟨w, rfl, hw⟩
  · rfl
  · cases w <;> first | rfl | (simp [Value.category] at hw)
theorem own_res {n : Nat} {gv ga : Nat → Int32} {tk : Int32} {L : List Nat} {m0 m1 m2 m3 : Int32} (I : own_Inv n gv ga tk L) (hn4 : n ≤ 4) (h : own_chk L m0 m1 m2 m3) : n = own_k4 m0 m1 m2 m3 ∧ ∀ j, j < n → own_os (n - 1) 0 gv j = own_w4 m0 m1 m2 m3 j := by
  obtain ⟨i1, i2, -⟩ := I
  subst i1
  refine ⟨h.1, fun j hj => ?_⟩
  rw [own_ext L.length gv (own_lg L) (L.length - 1) 0 (by omega) i2 j hj]
  exact h.2 ⟨j, by omega⟩ hj
theorem own_CD_keep {Z : State} {h h' : Heap} {n0 : Nat} {a b c : Addr} {n : Nat} {tk : Int32} {gv ga : Nat → Int32} (W : own_CD Z h n0 a b c n tk gv ga) (K : Keep h h' []) : own_CD Z h' n0 a b c n tk gv ga := by
  obtain ⟨w1, w2, w3, w4, w5, w6, w7, w8, r⟩ := W
  exact ⟨w1.keep K, w2.keep K nin0, w3.keep K nin0, w4.keep K nin0, w5.keep K nin0, w6.keep K nin0, w7.keep K, w8.keep K nin0, r⟩
theorem d1_0 : decode prog_68_method_1_code 0 = .ok (.aload_n 0, 1) := by decide +kernel
theorem d1_1 : decode prog_68_method_1_code 1 = .ok (.invokespecial 1, 3) := by decide +kernel
theorem d1_4 : decode prog_68_method_1_code 4 = .ok (.aload_n 0, 1) := by decide +kernel
theorem d1_5 : decode prog_68_method_1_code 5 = .ok (.iload_n 1, 1) := by decide +kernel
theorem d1_6 : decode prog_68_method_1_code 6 = .ok (.newarray .int, 2) := by decide +kernel
theorem d1_8 : decode prog_68_method_1_code 8 = .ok (.putfield 7, 3) := by decide +kernel
theorem d1_11 : decode prog_68_method_1_code 11 = .ok (.aload_n 0, 1) := by decide +kernel
theorem d1_12 : decode prog_68_method_1_code 12 = .ok (.iload_n 1, 1) := by decide +kernel
theorem d1_13 : decode prog_68_method_1_code 13 = .ok (.newarray .int, 2) := by decide +kernel
theorem d1_15 : decode prog_68_method_1_code 15 = .ok (.putfield 13, 3) := by decide +kernel
theorem d1_18 : decode prog_68_method_1_code 18 = .ok (.return_, 1) := by decide +kernel
theorem d3_0 : decode prog_68_method_2_code 0 = .ok (.aload_n 0, 1) := by decide +kernel
theorem d3_1 : decode prog_68_method_2_code 1 = .ok (.iload_n 1, 1) := by decide +kernel
theorem d3_2 : decode prog_68_method_2_code 2 = .ok (.iconst 1, 1) := by decide +kernel
theorem d3_3 : decode prog_68_method_2_code 3 = .ok (.iadd, 1) := by decide +kernel
theorem d3_4 : decode prog_68_method_2_code 4 = .ok (.putfield 16, 3) := by decide +kernel
theorem d3_7 : decode prog_68_method_2_code 7 = .ok (.aload_n 0, 1) := by decide +kernel
theorem d3_8 : decode prog_68_method_2_code 8 = .ok (.iconst 0, 1) := by decide +kernel
theorem d3_9 : decode prog_68_method_2_code 9 = .ok (.putfield 20, 3) := by decide +kernel
theorem d3_12 : decode prog_68_method_2_code 12 = .ok (.return_, 1) := by decide +kernel
theorem d4_0 : decode prog_68_method_3_code 0 = .ok (.aload_n 0, 1) := by decide +kernel
theorem d4_1 : decode prog_68_method_3_code 1 = .ok (.getfield 13, 3) := by decide +kernel
theorem d4_4 : decode prog_68_method_3_code 4 = .ok (.iload_n 1, 1) := by decide +kernel
theorem d4_5 : decode prog_68_method_3_code 5 = .ok (.iaload, 1) := by decide +kernel
theorem d4_6 : decode prog_68_method_3_code 6 = .ok (.aload_n 0, 1) := by decide +kernel
theorem d4_7 : decode prog_68_method_3_code 7 = .ok (.getfield 16, 3) := by decide +kernel
theorem d4_10 : decode prog_68_method_3_code 10 = .ok (.if_icmp .eq 30, 3) := by decide +kernel
theorem d4_13 : decode prog_68_method_3_code 13 = .ok (.aload_n 0, 1) := by decide +kernel
theorem d4_14 : decode prog_68_method_3_code 14 = .ok (.getfield 13, 3) := by decide +kernel
theorem d4_17 : decode prog_68_method_3_code 17 = .ok (.iload_n 1, 1) := by decide +kernel
theorem d4_18 : decode prog_68_method_3_code 18 = .ok (.aload_n 0, 1) := by decide +kernel
theorem d4_19 : decode prog_68_method_3_code 19 = .ok (.getfield 16, 3) := by decide +kernel
theorem d4_22 : decode prog_68_method_3_code 22 = .ok (.iastore, 1) := by decide +kernel
theorem d4_23 : decode prog_68_method_3_code 23 = .ok (.aload_n 0, 1) := by decide +kernel
theorem d4_24 : decode prog_68_method_3_code 24 = .ok (.getfield 7, 3) := by decide +kernel
theorem d4_27 : decode prog_68_method_3_code 27 = .ok (.aload_n 0, 1) := by decide +kernel
theorem d4_28 : decode prog_68_method_3_code 28 = .ok (.dup, 1) := by decide +kernel
theorem d4_29 : decode prog_68_method_3_code 29 = .ok (.getfield 20, 3) := by decide +kernel
theorem d4_32 : decode prog_68_method_3_code 32 = .ok (.dup_x1, 1) := by decide +kernel
theorem d4_33 : decode prog_68_method_3_code 33 = .ok (.iconst 1, 1) := by decide +kernel
theorem d4_34 : decode prog_68_method_3_code 34 = .ok (.iadd, 1) := by decide +kernel
theorem d4_35 : decode prog_68_method_3_code 35 = .ok (.putfield 20, 3) := by decide +kernel
theorem d4_38 : decode prog_68_method_3_code 38 = .ok (.iload_n 1, 1) := by decide +kernel
theorem d4_39 : decode prog_68_method_3_code 39 = .ok (.iastore, 1) := by decide +kernel
theorem d4_40 : decode prog_68_method_3_code 40 = .ok (.return_, 1) := by decide +kernel
theorem d5_0 : decode prog_68_method_4_code 0 = .ok (.aload_n 0, 1) := by decide +kernel
theorem d5_1 : decode prog_68_method_4_code 1 = .ok (.getfield 7, 3) := by decide +kernel
theorem d5_4 : decode prog_68_method_4_code 4 = .ok (.aload_n 0, 1) := by decide +kernel
theorem d5_5 : decode prog_68_method_4_code 5 = .ok (.getfield 20, 3) := by decide +kernel
theorem d5_8 : decode prog_68_method_4_code 8 = .ok (.invokestatic 23, 3) := by decide +kernel
theorem d5_11 : decode prog_68_method_4_code 11 = .ok (.astore_n 1, 1) := by decide +kernel
theorem d5_12 : decode prog_68_method_4_code 12 = .ok (.aload_n 1, 1) := by decide +kernel
theorem d5_13 : decode prog_68_method_4_code 13 = .ok (.invokestatic 29, 3) := by decide +kernel
theorem d5_16 : decode prog_68_method_4_code 16 = .ok (.aload_n 1, 1) := by decide +kernel
theorem d5_17 : decode prog_68_method_4_code 17 = .ok (.areturn, 1) := by decide +kernel
theorem d6_0 : decode jdk_65_method_123_code 0 = .ok (.iload_n 1, 1) := by decide +kernel
theorem d6_1 : decode jdk_65_method_123_code 1 = .ok (.aload_n 0, 1) := by decide +kernel
theorem d6_2 : decode jdk_65_method_123_code 2 = .ok (.arraylength, 1) := by decide +kernel
theorem d6_3 : decode jdk_65_method_123_code 3 = .ok (.if_icmp .ne 11, 3) := by decide +kernel
theorem d6_6 : decode jdk_65_method_123_code 6 = .ok (.aload_n 0, 1) := by decide +kernel
theorem d6_7 : decode jdk_65_method_123_code 7 = .ok (.invokevirtual 316, 3) := by decide +kernel
theorem d6_10 : decode jdk_65_method_123_code 10 = .ok (.checkcast 317, 3) := by decide +kernel
theorem d6_13 : decode jdk_65_method_123_code 13 = .ok (.areturn, 1) := by decide +kernel
theorem d6_14 : decode jdk_65_method_123_code 14 = .ok (.iload_n 1, 1) := by decide +kernel
theorem d6_15 : decode jdk_65_method_123_code 15 = .ok (.newarray .int, 2) := by decide +kernel
theorem d6_17 : decode jdk_65_method_123_code 17 = .ok (.astore_n 2, 1) := by decide +kernel
theorem d6_18 : decode jdk_65_method_123_code 18 = .ok (.aload_n 0, 1) := by decide +kernel
theorem d6_19 : decode jdk_65_method_123_code 19 = .ok (.iconst 0, 1) := by decide +kernel
theorem d6_20 : decode jdk_65_method_123_code 20 = .ok (.aload_n 2, 1) := by decide +kernel
theorem d6_21 : decode jdk_65_method_123_code 21 = .ok (.iconst 0, 1) := by decide +kernel
theorem d6_22 : decode jdk_65_method_123_code 22 = .ok (.aload_n 0, 1) := by decide +kernel
theorem d6_23 : decode jdk_65_method_123_code 23 = .ok (.arraylength, 1) := by decide +kernel
theorem d6_24 : decode jdk_65_method_123_code 24 = .ok (.iload_n 1, 1) := by decide +kernel
theorem d6_25 : decode jdk_65_method_123_code 25 = .ok (.invokestatic 304, 3) := by decide +kernel
theorem d6_28 : decode jdk_65_method_123_code 28 = .ok (.invokestatic 150, 3) := by decide +kernel
theorem d6_31 : decode jdk_65_method_123_code 31 = .ok (.aload_n 2, 1) := by decide +kernel
theorem d6_32 : decode jdk_65_method_123_code 32 = .ok (.areturn, 1) := by decide +kernel
theorem d7_0 : decode jdk_29_method_69_code 0 = .ok (.iload_n 0, 1) := by decide +kernel
theorem d7_1 : decode jdk_29_method_69_code 1 = .ok (.iload_n 1, 1) := by decide +kernel
theorem d7_2 : decode jdk_29_method_69_code 2 = .ok (.if_icmp .gt 7, 3) := by decide +kernel
theorem d7_5 : decode jdk_29_method_69_code 5 = .ok (.iload_n 0, 1) := by decide +kernel
theorem d7_6 : decode jdk_29_method_69_code 6 = .ok (.goto 4, 3) := by decide +kernel
theorem d7_9 : decode jdk_29_method_69_code 9 = .ok (.iload_n 1, 1) := by decide +kernel
theorem d7_10 : decode jdk_29_method_69_code 10 = .ok (.ireturn, 1) := by decide +kernel
theorem d8_0 : decode jdk_65_method_2_code 0 = .ok (.aload_n 0, 1) := by decide +kernel
theorem d8_1 : decode jdk_65_method_2_code 1 = .ok (.iconst 0, 1) := by decide +kernel
theorem d8_2 : decode jdk_65_method_2_code 2 = .ok (.iconst 0, 1) := by decide +kernel
theorem d8_3 : decode jdk_65_method_2_code 3 = .ok (.aload_n 0, 1) := by decide +kernel
theorem d8_4 : decode jdk_65_method_2_code 4 = .ok (.arraylength, 1) := by decide +kernel
theorem d8_5 : decode jdk_65_method_2_code 5 = .ok (.invokestatic 7, 3) := by decide +kernel
theorem d8_8 : decode jdk_65_method_2_code 8 = .ok (.return_, 1) := by decide +kernel
theorem d9_0 : decode jdk_2529_method_3_code 0 = .ok (.iload_n 3, 1) := by decide +kernel
theorem d9_1 : decode jdk_2529_method_3_code 1 = .ok (.iload_n 2, 1) := by decide +kernel
theorem d9_2 : decode jdk_2529_method_3_code 2 = .ok (.isub, 1) := by decide +kernel
theorem d9_3 : decode jdk_2529_method_3_code 3 = .ok (.istore 4, 2) := by decide +kernel
theorem d9_5 : decode jdk_2529_method_3_code 5 = .ok (.iload_n 1, 1) := by decide +kernel
theorem d9_6 : decode jdk_2529_method_3_code 6 = .ok (.iconst 1, 1) := by decide +kernel
theorem d9_7 : decode jdk_2529_method_3_code 7 = .ok (.if_icmp .le 61, 3) := by decide +kernel
theorem d9_10 : decode jdk_2529_method_3_code 10 = .ok (.iload 4, 2) := by decide +kernel
theorem d9_12 : decode jdk_2529_method_3_code 12 = .ok (.sipush 4096, 3) := by decide +kernel
theorem d9_15 : decode jdk_2529_method_3_code 15 = .ok (.if_icmp .le 53, 3) := by decide +kernel
theorem d9_18 : decode jdk_2529_method_3_code 18 = .ok (.iload_n 1, 1) := by decide +kernel
theorem d9_19 : decode jdk_2529_method_3_code 19 = .ok (.iload 4, 2) := by decide +kernel
theorem d9_21 : decode jdk_2529_method_3_code 21 = .ok (.bipush 12, 2) := by decide +kernel
theorem d9_23 : decode jdk_2529_method_3_code 23 = .ok (.ishr, 1) := by decide +kernel
theorem d9_24 : decode jdk_2529_method_3_code 24 = .ok (.invokestatic 13, 3) := by decide +kernel
theorem d9_27 : decode jdk_2529_method_3_code 27 = .ok (.istore 5, 2) := by decide +kernel
theorem d9_29 : decode jdk_2529_method_3_code 29 = .ok (.iload 5, 2) := by decide +kernel
theorem d9_31 : decode jdk_2529_method_3_code 31 = .ok (.ifCond .ne 7, 3) := by decide +kernel
theorem d9_34 : decode jdk_2529_method_3_code 34 = .ok (.aconst_null, 1) := by decide +kernel
theorem d9_35 : decode jdk_2529_method_3_code 35 = .ok (.goto 7, 3) := by decide +kernel
theorem d9_38 : decode jdk_2529_method_3_code 38 = .ok (.iload 4, 2) := by decide +kernel
theorem d9_40 : decode jdk_2529_method_3_code 40 = .ok (.newarray .int, 2) := by decide +kernel
theorem d9_42 : decode jdk_2529_method_3_code 42 = .ok (.astore 6, 2) := by decide +kernel
theorem d9_44 : decode jdk_2529_method_3_code 44 = .ok (.new 17, 3) := by decide +kernel
theorem d9_47 : decode jdk_2529_method_3_code 47 = .ok (.dup, 1) := by decide +kernel
theorem d9_48 : decode jdk_2529_method_3_code 48 = .ok (.aconst_null, 1) := by decide +kernel
theorem d9_49 : decode jdk_2529_method_3_code 49 = .ok (.aload_n 0, 1) := by decide +kernel
theorem d9_50 : decode jdk_2529_method_3_code 50 = .ok (.aload 6, 2) := by decide +kernel
theorem d9_52 : decode jdk_2529_method_3_code 52 = .ok (.iload_n 2, 1) := by decide +kernel
theorem d9_53 : decode jdk_2529_method_3_code 53 = .ok (.iload 4, 2) := by decide +kernel
theorem d9_55 : decode jdk_2529_method_3_code 55 = .ok (.iload_n 2, 1) := by decide +kernel
theorem d9_56 : decode jdk_2529_method_3_code 56 = .ok (.iload 5, 2) := by decide +kernel
theorem d9_58 : decode jdk_2529_method_3_code 58 = .ok (.invokespecial 19, 3) := by decide +kernel
theorem d9_61 : decode jdk_2529_method_3_code 61 = .ok (.invokevirtual 22, 3) := by decide +kernel
theorem d9_64 : decode jdk_2529_method_3_code 64 = .ok (.pop, 1) := by decide +kernel
theorem d9_65 : decode jdk_2529_method_3_code 65 = .ok (.goto 11, 3) := by decide +kernel
theorem d9_68 : decode jdk_2529_method_3_code 68 = .ok (.aconst_null, 1) := by decide +kernel
theorem d9_69 : decode jdk_2529_method_3_code 69 = .ok (.aload_n 0, 1) := by decide +kernel
theorem d9_70 : decode jdk_2529_method_3_code 70 = .ok (.iconst 0, 1) := by decide +kernel
theorem d9_71 : decode jdk_2529_method_3_code 71 = .ok (.iload_n 2, 1) := by decide +kernel
theorem d9_72 : decode jdk_2529_method_3_code 72 = .ok (.iload_n 3, 1) := by decide +kernel
theorem d9_73 : decode jdk_2529_method_3_code 73 = .ok (.invokestatic 26, 3) := by decide +kernel
theorem d9_76 : decode jdk_2529_method_3_code 76 = .ok (.return_, 1) := by decide +kernel
theorem d11_0 : decode jdk_2529_method_6_code 0 = .ok (.iload_n 1, 1) := by decide +kernel
theorem d11_1 : decode jdk_2529_method_6_code 1 = .ok (.istore 4, 2) := by decide +kernel
theorem d11_3 : decode jdk_2529_method_6_code 3 = .ok (.iinc 4 1, 3) := by decide +kernel
theorem d11_6 : decode jdk_2529_method_6_code 6 = .ok (.iload 4, 2) := by decide +kernel
theorem d11_8 : decode jdk_2529_method_6_code 8 = .ok (.iload_n 2, 1) := by decide +kernel
theorem d11_9 : decode jdk_2529_method_6_code 9 = .ok (.if_icmp .ge 58, 3) := by decide +kernel
theorem d11_12 : decode jdk_2529_method_6_code 12 = .ok (.aload_n 0, 1) := by decide +kernel
theorem d11_13 : decode jdk_2529_method_6_code 13 = .ok (.iload 4, 2) := by decide +kernel
theorem d11_15 : decode jdk_2529_method_6_code 15 = .ok (.dup, 1) := by decide +kernel
theorem d11_16 : decode jdk_2529_method_6_code 16 = .ok (.istore_n 3, 1) := by decide +kernel
theorem d11_17 : decode jdk_2529_method_6_code 17 = .ok (.iaload, 1) := by decide +kernel
theorem d11_18 : decode jdk_2529_method_6_code 18 = .ok (.istore 5, 2) := by decide +kernel
theorem d11_20 : decode jdk_2529_method_6_code 20 = .ok (.iload 5, 2) := by decide +kernel
theorem d11_22 : decode jdk_2529_method_6_code 22 = .ok (.aload_n 0, 1) := by decide +kernel
theorem d11_23 : decode jdk_2529_method_6_code 23 = .ok (.iload_n 3, 1) := by decide +kernel
theorem d11_24 : decode jdk_2529_method_6_code 24 = .ok (.iconst 1, 1) := by decide +kernel
theorem d11_25 : decode jdk_2529_method_6_code 25 = .ok (.isub, 1) := by decide +kernel
theorem d11_26 : decode jdk_2529_method_6_code 26 = .ok (.iaload, 1) := by decide +kernel
theorem d11_27 : decode jdk_2529_method_6_code 27 = .ok (.if_icmp .ge 37, 3) := by decide +kernel
theorem d11_30 : decode jdk_2529_method_6_code 30 = .ok (.iinc 3 (-1), 3) := by decide +kernel
theorem d11_33 : decode jdk_2529_method_6_code 33 = .ok (.iload_n 3, 1) := by decide +kernel
theorem d11_34 : decode jdk_2529_method_6_code 34 = .ok (.iload_n 1, 1) := by decide +kernel
theorem d11_35 : decode jdk_2529_method_6_code 35 = .ok (.if_icmp .lt 22, 3) := by decide +kernel
theorem d11_38 : decode jdk_2529_method_6_code 38 = .ok (.iload 5, 2) := by decide +kernel
theorem d11_40 : decode jdk_2529_method_6_code 40 = .ok (.aload_n 0, 1) := by decide +kernel
theorem d11_41 : decode jdk_2529_method_6_code 41 = .ok (.iload_n 3, 1) := by decide +kernel
theorem d11_42 : decode jdk_2529_method_6_code 42 = .ok (.iaload, 1) := by decide +kernel
theorem d11_43 : decode jdk_2529_method_6_code 43 = .ok (.if_icmp .ge 14, 3) := by decide +kernel
theorem d11_46 : decode jdk_2529_method_6_code 46 = .ok (.aload_n 0, 1) := by decide +kernel
theorem d11_47 : decode jdk_2529_method_6_code 47 = .ok (.iload_n 3, 1) := by decide +kernel
theorem d11_48 : decode jdk_2529_method_6_code 48 = .ok (.iconst 1, 1) := by decide +kernel
theorem d11_49 : decode jdk_2529_method_6_code 49 = .ok (.iadd, 1) := by decide +kernel
theorem d11_50 : decode jdk_2529_method_6_code 50 = .ok (.aload_n 0, 1) := by decide +kernel
theorem d11_51 : decode jdk_2529_method_6_code 51 = .ok (.iload_n 3, 1) := by decide +kernel
theorem d11_52 : decode jdk_2529_method_6_code 52 = .ok (.iaload, 1) := by decide +kernel
theorem d11_53 : decode jdk_2529_method_6_code 53 = .ok (.iastore, 1) := by decide +kernel
theorem d11_54 : decode jdk_2529_method_6_code 54 = .ok (.goto (-24), 3) := by decide +kernel
theorem d11_57 : decode jdk_2529_method_6_code 57 = .ok (.aload_n 0, 1) := by decide +kernel
theorem d11_58 : decode jdk_2529_method_6_code 58 = .ok (.iload_n 3, 1) := by decide +kernel
theorem d11_59 : decode jdk_2529_method_6_code 59 = .ok (.iconst 1, 1) := by decide +kernel
theorem d11_60 : decode jdk_2529_method_6_code 60 = .ok (.iadd, 1) := by decide +kernel
theorem d11_61 : decode jdk_2529_method_6_code 61 = .ok (.iload 5, 2) := by decide +kernel
theorem d11_63 : decode jdk_2529_method_6_code 63 = .ok (.iastore, 1) := by decide +kernel
theorem d11_64 : decode jdk_2529_method_6_code 64 = .ok (.goto (-61), 3) := by decide +kernel
theorem d11_67 : decode jdk_2529_method_6_code 67 = .ok (.return_, 1) := by decide +kernel
theorem d12_0 : decode method_3_code 0 = .ok (.iconst 4, 1) := by decide +kernel
theorem d12_1 : decode method_3_code 1 = .ok (.newarray .int, 2) := by decide +kernel
theorem d12_3 : decode method_3_code 3 = .ok (.astore 5, 2) := by decide +kernel
theorem d12_5 : decode method_3_code 5 = .ok (.iconst 0, 1) := by decide +kernel
theorem d12_6 : decode method_3_code 6 = .ok (.istore 6, 2) := by decide +kernel
theorem d12_8 : decode method_3_code 8 = .ok (.iload_n 1, 1) := by decide +kernel
theorem d12_9 : decode method_3_code 9 = .ok (.ifCond .eq 12, 3) := by decide +kernel
theorem d12_12 : decode method_3_code 12 = .ok (.aload 5, 2) := by decide +kernel
theorem d12_14 : decode method_3_code 14 = .ok (.iload 6, 2) := by decide +kernel
theorem d12_16 : decode method_3_code 16 = .ok (.iconst 0, 1) := by decide +kernel
theorem d12_17 : decode method_3_code 17 = .ok (.iastore, 1) := by decide +kernel
theorem d12_18 : decode method_3_code 18 = .ok (.iinc 6 1, 3) := by decide +kernel
theorem d12_21 : decode method_3_code 21 = .ok (.iload_n 2, 1) := by decide +kernel
theorem d12_22 : decode method_3_code 22 = .ok (.ifCond .eq 12, 3) := by decide +kernel
theorem d12_25 : decode method_3_code 25 = .ok (.aload 5, 2) := by decide +kernel
theorem d12_27 : decode method_3_code 27 = .ok (.iload 6, 2) := by decide +kernel
theorem d12_29 : decode method_3_code 29 = .ok (.iconst 1, 1) := by decide +kernel
theorem d12_30 : decode method_3_code 30 = .ok (.iastore, 1) := by decide +kernel
theorem d12_31 : decode method_3_code 31 = .ok (.iinc 6 1, 3) := by decide +kernel
theorem d12_34 : decode method_3_code 34 = .ok (.iload_n 3, 1) := by decide +kernel
theorem d12_35 : decode method_3_code 35 = .ok (.ifCond .eq 12, 3) := by decide +kernel
theorem d12_38 : decode method_3_code 38 = .ok (.aload 5, 2) := by decide +kernel
theorem d12_40 : decode method_3_code 40 = .ok (.iload 6, 2) := by decide +kernel
theorem d12_42 : decode method_3_code 42 = .ok (.iconst 2, 1) := by decide +kernel
theorem d12_43 : decode method_3_code 43 = .ok (.iastore, 1) := by decide +kernel
theorem d12_44 : decode method_3_code 44 = .ok (.iinc 6 1, 3) := by decide +kernel
theorem d12_47 : decode method_3_code 47 = .ok (.iload 4, 2) := by decide +kernel
theorem d12_49 : decode method_3_code 49 = .ok (.ifCond .eq 12, 3) := by decide +kernel
theorem d12_52 : decode method_3_code 52 = .ok (.aload 5, 2) := by decide +kernel
theorem d12_54 : decode method_3_code 54 = .ok (.iload 6, 2) := by decide +kernel
theorem d12_56 : decode method_3_code 56 = .ok (.iconst 3, 1) := by decide +kernel
theorem d12_57 : decode method_3_code 57 = .ok (.iastore, 1) := by decide +kernel
theorem d12_58 : decode method_3_code 58 = .ok (.iinc 6 1, 3) := by decide +kernel
theorem d12_61 : decode method_3_code 61 = .ok (.aload_n 0, 1) := by decide +kernel
theorem d12_62 : decode method_3_code 62 = .ok (.arraylength, 1) := by decide +kernel
theorem d12_63 : decode method_3_code 63 = .ok (.iload 6, 2) := by decide +kernel
theorem d12_65 : decode method_3_code 65 = .ok (.if_icmp .eq 5, 3) := by decide +kernel
theorem d12_68 : decode method_3_code 68 = .ok (.iconst 0, 1) := by decide +kernel
theorem d12_69 : decode method_3_code 69 = .ok (.ireturn, 1) := by decide +kernel
theorem d12_70 : decode method_3_code 70 = .ok (.iload 6, 2) := by decide +kernel
theorem d12_72 : decode method_3_code 72 = .ok (.iconst 1, 1) := by decide +kernel
theorem d12_73 : decode method_3_code 73 = .ok (.if_icmp .lt 13, 3) := by decide +kernel
theorem d12_76 : decode method_3_code 76 = .ok (.aload_n 0, 1) := by decide +kernel
theorem d12_77 : decode method_3_code 77 = .ok (.iconst 0, 1) := by decide +kernel
theorem d12_78 : decode method_3_code 78 = .ok (.iaload, 1) := by decide +kernel
theorem d12_79 : decode method_3_code 79 = .ok (.aload 5, 2) := by decide +kernel
theorem d12_81 : decode method_3_code 81 = .ok (.iconst 0, 1) := by decide +kernel
theorem d12_82 : decode method_3_code 82 = .ok (.iaload, 1) := by decide +kernel
theorem d12_83 : decode method_3_code 83 = .ok (.if_icmp .ne 55, 3) := by decide +kernel
theorem d12_86 : decode method_3_code 86 = .ok (.iload 6, 2) := by decide +kernel
theorem d12_88 : decode method_3_code 88 = .ok (.iconst 2, 1) := by decide +kernel
theorem d12_89 : decode method_3_code 89 = .ok (.if_icmp .lt 13, 3) := by decide +kernel
theorem d12_92 : decode method_3_code 92 = .ok (.aload_n 0, 1) := by decide +kernel
theorem d12_93 : decode method_3_code 93 = .ok (.iconst 1, 1) := by decide +kernel
theorem d12_94 : decode method_3_code 94 = .ok (.iaload, 1) := by decide +kernel
theorem d12_95 : decode method_3_code 95 = .ok (.aload 5, 2) := by decide +kernel
theorem d12_97 : decode method_3_code 97 = .ok (.iconst 1, 1) := by decide +kernel
theorem d12_98 : decode method_3_code 98 = .ok (.iaload, 1) := by decide +kernel
theorem d12_99 : decode method_3_code 99 = .ok (.if_icmp .ne 39, 3) := by decide +kernel
theorem d12_102 : decode method_3_code 102 = .ok (.iload 6, 2) := by decide +kernel
theorem d12_104 : decode method_3_code 104 = .ok (.iconst 3, 1) := by decide +kernel
theorem d12_105 : decode method_3_code 105 = .ok (.if_icmp .lt 13, 3) := by decide +kernel
theorem d12_108 : decode method_3_code 108 = .ok (.aload_n 0, 1) := by decide +kernel
theorem d12_109 : decode method_3_code 109 = .ok (.iconst 2, 1) := by decide +kernel
theorem d12_110 : decode method_3_code 110 = .ok (.iaload, 1) := by decide +kernel
theorem d12_111 : decode method_3_code 111 = .ok (.aload 5, 2) := by decide +kernel
theorem d12_113 : decode method_3_code 113 = .ok (.iconst 2, 1) := by decide +kernel
theorem d12_114 : decode method_3_code 114 = .ok (.iaload, 1) := by decide +kernel
theorem d12_115 : decode method_3_code 115 = .ok (.if_icmp .ne 23, 3) := by decide +kernel
theorem d12_118 : decode method_3_code 118 = .ok (.iload 6, 2) := by decide +kernel
theorem d12_120 : decode method_3_code 120 = .ok (.iconst 4, 1) := by decide +kernel
theorem d12_121 : decode method_3_code 121 = .ok (.if_icmp .lt 13, 3) := by decide +kernel
theorem d12_124 : decode method_3_code 124 = .ok (.aload_n 0, 1) := by decide +kernel
theorem d12_125 : decode method_3_code 125 = .ok (.iconst 3, 1) := by decide +kernel
theorem d12_126 : decode method_3_code 126 = .ok (.iaload, 1) := by decide +kernel
theorem d12_127 : decode method_3_code 127 = .ok (.aload 5, 2) := by decide +kernel
theorem d12_129 : decode method_3_code 129 = .ok (.iconst 3, 1) := by decide +kernel
theorem d12_130 : decode method_3_code 130 = .ok (.iaload, 1) := by decide +kernel
theorem d12_131 : decode method_3_code 131 = .ok (.if_icmp .ne 7, 3) := by decide +kernel
theorem d12_134 : decode method_3_code 134 = .ok (.iconst 1, 1) := by decide +kernel
theorem d12_135 : decode method_3_code 135 = .ok (.goto 4, 3) := by decide +kernel
theorem d12_138 : decode method_3_code 138 = .ok (.iconst 0, 1) := by decide +kernel
theorem d12_139 : decode method_3_code 139 = .ok (.ireturn, 1) := by decide +kernel
theorem d10_0 : decode jdk_2529_method_4_code 0 = .ok (.iload 4, 2) := by decide +kernel
theorem d10_2 : decode jdk_2529_method_4_code 2 = .ok (.iconst 1, 1) := by decide +kernel
theorem d10_3 : decode jdk_2529_method_4_code 3 = .ok (.isub, 1) := by decide +kernel
theorem d10_4 : decode jdk_2529_method_4_code 4 = .ok (.istore 5, 2) := by decide +kernel
theorem d10_6 : decode jdk_2529_method_4_code 6 = .ok (.iload 4, 2) := by decide +kernel
theorem d10_8 : decode jdk_2529_method_4_code 8 = .ok (.iload_n 3, 1) := by decide +kernel
theorem d10_9 : decode jdk_2529_method_4_code 9 = .ok (.isub, 1) := by decide +kernel
theorem d10_10 : decode jdk_2529_method_4_code 10 = .ok (.istore 6, 2) := by decide +kernel
theorem d10_12 : decode jdk_2529_method_4_code 12 = .ok (.iload 6, 2) := by decide +kernel
theorem d10_14 : decode jdk_2529_method_4_code 14 = .ok (.bipush 65, 2) := by decide +kernel
theorem d10_16 : decode jdk_2529_method_4_code 16 = .ok (.iload_n 2, 1) := by decide +kernel
theorem d10_17 : decode jdk_2529_method_4_code 17 = .ok (.iadd, 1) := by decide +kernel
theorem d10_18 : decode jdk_2529_method_4_code 18 = .ok (.if_icmp .ge 28, 3) := by decide +kernel
theorem d10_21 : decode jdk_2529_method_4_code 21 = .ok (.iload_n 2, 1) := by decide +kernel
theorem d10_22 : decode jdk_2529_method_4_code 22 = .ok (.iconst 1, 1) := by decide +kernel
theorem d10_23 : decode jdk_2529_method_4_code 23 = .ok (.iand, 1) := by decide +kernel
theorem d10_24 : decode jdk_2529_method_4_code 24 = .ok (.ifCond .le 22, 3) := by decide +kernel
theorem d10_46 : decode jdk_2529_method_4_code 46 = .ok (.iload 6, 2) := by decide +kernel
theorem d10_48 : decode jdk_2529_method_4_code 48 = .ok (.bipush 44, 2) := by decide +kernel
theorem d10_50 : decode jdk_2529_method_4_code 50 = .ok (.if_icmp .ge 11, 3) := by decide +kernel
theorem d10_53 : decode jdk_2529_method_4_code 53 = .ok (.aload_n 1, 1) := by decide +kernel
theorem d10_54 : decode jdk_2529_method_4_code 54 = .ok (.iload_n 3, 1) := by decide +kernel
theorem d10_55 : decode jdk_2529_method_4_code 55 = .ok (.iload 4, 2) := by decide +kernel
theorem d10_57 : decode jdk_2529_method_4_code 57 = .ok (.invokestatic 34, 3) := by decide +kernel
theorem d10_60 : decode jdk_2529_method_4_code 60 = .ok (.return_, 1) := by decide +kernel
theorem own_pd0 : parseMethodDescriptor "(II)I" = some ⟨[.int, .int], some .int⟩ := by decide +kernel
theorem own_pd1 : parseMethodDescriptor "([III)V" = some ⟨[(.array .int), .int, .int], none⟩ := by decide +kernel
theorem own_pd2 : parseMethodDescriptor "(Ljava/util/DualPivotQuicksort$Sorter;[IIII)V" = some ⟨[(.object "java/util/DualPivotQuicksort$Sorter"), (.array .int), .int, .int, .int], none⟩ := by decide +kernel
theorem own_pd3 : parseMethodDescriptor "([IIII)V" = some ⟨[(.array .int), .int, .int, .int], none⟩ := by decide +kernel
theorem own_pd4 : parseMethodDescriptor "([II)[I" = some ⟨[(.array .int), .int], some (.array .int)⟩ := by decide +kernel
theorem own_pd5 : parseMethodDescriptor "([I)V" = some ⟨[(.array .int)], none⟩ := by decide +kernel
theorem own_pd6 : parseMethodDescriptor "(I)V" = some ⟨[.int], none⟩ := by decide +kernel
theorem own_pd7 : parseMethodDescriptor "()[I" = some ⟨[], some (.array .int)⟩ := by decide +kernel
theorem own_pd8 : parseMethodDescriptor "([IZZZZ)Z" = some ⟨[(.array .int), .boolean, .boolean, .boolean, .boolean], some .boolean⟩ := by decide +kernel
theorem pn_0 : plainName "com/example/frugal_scheduler/frugalscheduler/planners/CandidatesAddPinLaw" = true := by first | (simp [plainName, overriddenIn]; done) | decide +kernel
theorem pn_1 : plainName "com/example/frugal_scheduler/frugalscheduler/planners/PoolSchedule$Candidates" = true := by first | (simp [plainName, overriddenIn]; done) | decide +kernel
theorem pn_3 : plainName "com/example/frugal_scheduler/frugalscheduler/planners/PoolSchedule$Candidates" = true := by first | (simp [plainName, overriddenIn]; done) | decide +kernel
theorem pn_4 : plainName "com/example/frugal_scheduler/frugalscheduler/planners/PoolSchedule$Candidates" = true := by first | (simp [plainName, overriddenIn]; done) | decide +kernel
theorem pn_5 : plainName "com/example/frugal_scheduler/frugalscheduler/planners/PoolSchedule$Candidates" = true := by first | (simp [plainName, overriddenIn]; done) | decide +kernel
theorem pn_6 : plainName "java/util/Arrays" = true := by first | (simp [plainName, overriddenIn]; done) | decide +kernel
theorem pn_8 : plainName "java/util/Arrays" = true := by first | (simp [plainName, overriddenIn]; done) | decide +kernel
theorem pn_9 : plainName "java/util/DualPivotQuicksort" = true := by first | (simp [plainName, overriddenIn]; done) | decide +kernel
theorem pn_10 : plainName "java/util/DualPivotQuicksort" = true := by first | (simp [plainName, overriddenIn]; done) | decide +kernel
theorem pn_11 : plainName "java/util/DualPivotQuicksort" = true := by first | (simp [plainName, overriddenIn]; done) | decide +kernel
theorem pn_12 : plainName "com/example/frugal_scheduler/frugalscheduler/planners/CandidatesAddPinLaw" = true := by first | (simp [plainName, overriddenIn]; done) | decide +kernel
theorem ef_1 (m : MethodId) (a1 : Addr) (p2 : Int32) : entryFrame m #[(.ref a1), (.int p2)] 2 = mkF m 0 #[.val (.ref a1), .val (.int p2)] [] := by first | (simp [entryFrame, mkF, argsToLocals, Value.category]; done) | rfl
def Q1 (Z : State) (a1 : Addr) (p2 : Int32)  (h0 : Heap) (n0 : Nat) (v : Option Value) (h : Heap) (L : List Loc) : Prop := v = none ∧ Fr n0 L ∧ Keep h0 h [a1] ∧ ∃ b c, own_CD Z h n0 a1 b c 0 (0 : Int32) (fun _ => (0 : Int32)) (fun _ => (0 : Int32))
set_option maxRecDepth 65536 in
set_option maxHeartbeats 40000000 in
theorem rm1 (l : Launch) (Z : State) (a0 : Array Value) (hw : ∀ d ∈ tables_1, d.before a0 Z = true) (ws : List Jvm.Cond) (a1 : Addr) (p2 : Int32)  (h0 : Heap) (n0 : Nat) (Z0 : n0 ≤ h0.size) (hp2 : p2 = (4 : Int32)) (ge1 : n0 ≤ a1) (Ex : Exa Z h0 a1 "com/example/frugal_scheduler/frugalscheduler/planners/PoolSchedule$Candidates") (F_vms : Fld Z h0 a1 "com/example/frugal_scheduler/frugalscheduler/planners/PoolSchedule$Candidates" "vms" "[I" .null) (F_addedFor : Fld Z h0 a1 "com/example/frugal_scheduler/frugalscheduler/planners/PoolSchedule$Candidates" "addedFor" "[I" .null) (F_size : Fld Z h0 a1 "com/example/frugal_scheduler/frugalscheduler/planners/PoolSchedule$Candidates" "size" "I" (.int (0 : Int32))) (F_task : Fld Z h0 a1 "com/example/frugal_scheduler/frugalscheduler/planners/PoolSchedule$Candidates" "task" "I" (.int (0 : Int32))) :
    MetFree l (⟨"com/example/frugal_scheduler/frugalscheduler/planners/PoolSchedule$Candidates", "<init>", "(I)V"⟩ : MethodName) (head1 (Jvm.Cond.code (⟨"com/example/frugal_scheduler/frugalscheduler/planners/PoolSchedule$Candidates", "<init>", "(I)V"⟩ : MethodName) prog_68_method_1_code 2 none :: ws) ({ frames := 1, cells := 2, slots := 8, locals := 13 } : Room)) (fun a U => a = #[(.ref a1), (.int p2)] ∧ Z.Warmed39 U.vm ∧ U.heap = h0) (fun _ _ _ _ _ => True) (fun _ U o U' => ∃ v L, o = .returned v ∧ Q1 Z a1 p2 h0 n0 v U'.heap L ∧ FrameEnd U o U' L ({ frames := 1, cells := 2, slots := 8, locals := 13 } : Room).cells ({ frames := 1, cells := 2, slots := 8, locals := 13 } : Room).slots) := by
  refine MetFree.of_bodySF (plainFor_of_name pn_1) hisR ?_
  intro p e s m args below meth cd s₁ Bd hml0 hP hK
  obtain ⟨rfl, hZ, hh⟩ := hP
  have hx := Bd.exec
  have hby := Bd.bytes
  have hml : cd.maxLocals = 2 := hml0
  have hown : s.vm.findClass "com/example/frugal_scheduler/frugalscheduler/planners/PoolSchedule$Candidates" = some m.cls := findClass_of_methodNamed Bd.named
  have hnm := (name_of_methodNamed Bd.named Bd.method).1
  have X0 : Stand p l e ({ frames := 1, cells := 2, slots := 8, locals := 13 } : Room) s m #[(.ref a1), (.int p2)] below meth cd s₁ [] 0 0 := Stand.of_body Bd
  have e0 : s₁.heap = h0 := by rw [← hh, Bd.state]; rfl
  have N0 := Fr.nil n0
  show own_R p.tables e below _ (s₁.setTop (entryFrame m #[(.ref a1), (.int p2)] 2))
  refine own_by (fun t kZ => castTop (ef_1 m a1 p2) kZ) ?_
  show own_R p.tables e below _ (s₁.setTop (mkF m 0 #[.val (.ref a1), .val (.int p2)] []))
  subst hp2
  show own_R p.tables e below _ (s₁.setTop (mkF m 0 #[.val (.ref a1), .val (.int (4 : Int32))] []))
  refine own_by (fun _ kZ => XS.aloadN X0.here hx rfl (hb hby d1_0) rfl rfl kZ) ?_
  show own_R p.tables e below _ (s₁.setTop (mkF m 1 #[.val (.ref a1), .val (.int (4 : Int32))] [(.ref a1)]))
  obtain ⟨T1, X1, e1, st1⟩ := initO X0 hx hZ hown (hw _ (List.mem_of_getElem? (i := 8) rfl)) (hw _ (List.mem_of_getElem? (i := 9) rfl)) (hw _ (List.mem_of_getElem? (i := 10) rfl)) e0 (g := (mkF m 1 #[.val (.ref a1), .val (.int (4 : Int32))] [(.ref a1)])) rfl (by rw [hml]; rfl) rfl (hb hby d1_1) (by decide) (W := 0) (by show 2 * 0 + _ ≤ _; exact Nat.le_of_eq rfl) (by decide)
  refine own_by st1 ?_
  show own_R p.tables e below _ (T1.setTop (mkF m 4 #[.val (.ref a1), .val (.int (4 : Int32))] []))
  refine own_by (fun _ kZ => XS.aloadN X1.here hx rfl (hb hby d1_4) rfl rfl kZ) ?_
  show own_R p.tables e below _ (T1.setTop (mkF m 5 #[.val (.ref a1), .val (.int (4 : Int32))] [(.ref a1)]))
  refine own_by (fun _ kZ => XS.iloadN X1.here hx rfl (hb hby d1_5) rfl kZ) ?_
  show own_R p.tables e below _ (T1.setTop (mkF m 6 #[.val (.ref a1), .val (.int (4 : Int32))] [(.int (4 : Int32)), (.ref a1)]))
  obtain ⟨T2, h2, k2, X2, e2, E2, A2, Ex2, st2⟩ := newPE X1 hx hZ (hw _ (List.mem_of_getElem? (i := 11) rfl)) e1 (g := (mkF m 6 #[.val (.ref a1), .val (.int (4 : Int32))] [(.int (4 : Int32)), (.ref a1)])) rfl (hb hby d1_6) rfl (by decide) (cap := 4) (by decide) (by decide) (by decide) (by decide) (ad := "[I") rfl
  obtain ⟨b, g2⟩ : ∃ z, z = h0.size := ⟨_, rfl⟩
  have ne_a1_b : a1 ≠ b := Nat.ne_of_lt (Nat.lt_of_lt_of_le Ex.lt (Nat.le_of_eq g2.symm))
  have ge_b : n0 ≤ b := Nat.le_trans Z0 (Nat.le_of_eq g2.symm)
  have sz_b : h0.size ≤ b := Nat.le_trans (Keep.refl h0 [a1]).1 (Nat.le_of_eq g2.symm)
  rw [← g2] at A2 Ex2 st2
  have f3_a1 : Exa Z h2 a1 "com/example/frugal_scheduler/frugalscheduler/planners/PoolSchedule$Candidates" := Ex.ext E2
  have f4_a1 : Fld Z h2 a1 "com/example/frugal_scheduler/frugalscheduler/planners/PoolSchedule$Candidates" "vms" "[I" .null := F_vms.ext E2
  have f5_a1 : Fld Z h2 a1 "com/example/frugal_scheduler/frugalscheduler/planners/PoolSchedule$Candidates" "addedFor" "[I" .null := F_addedFor.ext E2
  have f6_a1 : Fld Z h2 a1 "com/example/frugal_scheduler/frugalscheduler/planners/PoolSchedule$Candidates" "size" "I" (.int (0 : Int32)) := F_size.ext E2
  have f7_a1 : Fld Z h2 a1 "com/example/frugal_scheduler/frugalscheduler/planners/PoolSchedule$Candidates" "task" "I" (.int (0 : Int32)) := F_task.ext E2
  have Z8 : n0 ≤ h2.size := Nat.le_trans Z0 E2.1
  have K8 : Keep h0 h2 [a1] := (Keep.refl h0 [a1]).ext E2
  have V2 : own_K .int Z h2 b .int 4 (fun _ => (0 : Int32)) := own_K.new A2 (by decide) rfl rfl
  refine own_by st2 ?_
  show own_R p.tables e below _ (T2.setTop (mkF m 8 #[.val (.ref a1), .val (.int (4 : Int32))] [(.ref b), (.ref a1)]))
  obtain ⟨T9, h9, X9, e9, W9, st9⟩ := putF X2 hx hZ hown (host := "") (Or.inl (hw _ (List.mem_of_getElem? (i := 12) rfl))) Via.refl e2 f4_a1 f3_a1 (Or.inr ⟨(hw _ (List.mem_of_getElem? (i := 13) rfl)), rfl, hnm⟩) (hw _ (List.mem_of_getElem? (i := 3) rfl)) (ty := (.array .int)) (by decide) rfl rfl (g := (mkF m 8 #[.val (.ref a1), .val (.int (4 : Int32))] [(.ref b), (.ref a1)])) rfl rfl (hb hby d1_8)
  have f10_a1 : Exa Z h9 a1 "com/example/frugal_scheduler/frugalscheduler/planners/PoolSchedule$Candidates" := f3_a1.wr W9
  have f11_a1 : Fld Z h9 a1 "com/example/frugal_scheduler/frugalscheduler/planners/PoolSchedule$Candidates" "vms" "[I" (.ref b) := f4_a1.same W9
  have f12_a1 : Fld Z h9 a1 "com/example/frugal_scheduler/frugalscheduler/planners/PoolSchedule$Candidates" "addedFor" "[I" .null := f5_a1.other W9 (Or.inr (slot_ne (Or.inr (hw _ (List.mem_of_getElem? (i := 15) rfl))) (Or.inr (hw _ (List.mem_of_getElem? (i := 13) rfl))) (by decide) (t := (.array .int)) (t' := (.array .int)) (by decide) (by decide)))
  have f13_a1 : Fld Z h9 a1 "com/example/frugal_scheduler/frugalscheduler/planners/PoolSchedule$Candidates" "size" "I" (.int (0 : Int32)) := f6_a1.other W9 (Or.inr (slot_ne (Or.inl (hw _ (List.mem_of_getElem? (i := 24) rfl))) (Or.inr (hw _ (List.mem_of_getElem? (i := 13) rfl))) (by decide) (t := .int) (t' := (.array .int)) (by decide) (by decide)))
  have f14_a1 : Fld Z h9 a1 "com/example/frugal_scheduler/frugalscheduler/planners/PoolSchedule$Candidates" "task" "I" (.int (0 : Int32)) := f7_a1.other W9 (Or.inr (slot_ne (Or.inl (hw _ (List.mem_of_getElem? (i := 22) rfl))) (Or.inr (hw _ (List.mem_of_getElem? (i := 13) rfl))) (by decide) (t := .int) (t' := (.array .int)) (by decide) (by decide)))
  have f15_b : Exa Z h9 b "[I" := Ex2.wr W9
  have f16_b : own_K .int Z h9 b .int 4 (fun _ => (0 : Int32)) := V2.other W9 (Ne.symm ne_a1_b)
  have Z17 : n0 ≤ h9.size := Nat.le_trans Z8 (Keep.of_wr W9).1
  have K17 : Keep h0 h9 [a1] := K8.wr W9 (Or.inl (List.mem_of_getElem? (i := 0) rfl))
  have N17 := Fr.snoc X9 N0 ge1
  refine own_by st9 ?_
  show own_R p.tables e below _ (T9.setTop (mkF m 11 #[.val (.ref a1), .val (.int (4 : Int32))] []))
  refine own_by (fun _ kZ => XS.aloadN X9.here hx rfl (hb hby d1_11) rfl rfl kZ) ?_
  show own_R p.tables e below _ (T9.setTop (mkF m 12 #[.val (.ref a1), .val (.int (4 : Int32))] [(.ref a1)]))
  refine own_by (fun _ kZ => XS.iloadN X9.here hx rfl (hb hby d1_12) rfl kZ) ?_
  show own_R p.tables e below _ (T9.setTop (mkF m 13 #[.val (.ref a1), .val (.int (4 : Int32))] [(.int (4 : Int32)), (.ref a1)]))
  obtain ⟨T18, h18, k18, X18, e18, E18, A18, st18⟩ := newP X9 hx hZ (hw _ (List.mem_of_getElem? (i := 11) rfl)) e9 (g := (mkF m 13 #[.val (.ref a1), .val (.int (4 : Int32))] [(.int (4 : Int32)), (.ref a1)])) rfl (hb hby d1_13) rfl (by decide) (cap := 4) (by decide) (by decide) (by decide) (by decide)
  obtain ⟨c, g18⟩ : ∃ z, z = h9.size := ⟨_, rfl⟩
  have ne_a1_c : a1 ≠ c := Nat.ne_of_lt (Nat.lt_of_lt_of_le f10_a1.lt (Nat.le_of_eq g18.symm))
  have ne_b_c : b ≠ c := Nat.ne_of_lt (Nat.lt_of_lt_of_le f15_b.lt (Nat.le_of_eq g18.symm))
  have ge_c : n0 ≤ c := Nat.le_trans Z17 (Nat.le_of_eq g18.symm)
  have sz_c : h0.size ≤ c := Nat.le_trans K17.1 (Nat.le_of_eq g18.symm)
  rw [← g18] at A18 st18
  have f19_a1 : Exa Z h18 a1 "com/example/frugal_scheduler/frugalscheduler/planners/PoolSchedule$Candidates" := f10_a1.ext E18
  have f20_a1 : Fld Z h18 a1 "com/example/frugal_scheduler/frugalscheduler/planners/PoolSchedule$Candidates" "vms" "[I" (.ref b) := f11_a1.ext E18
  have f21_a1 : Fld Z h18 a1 "com/example/frugal_scheduler/frugalscheduler/planners/PoolSchedule$Candidates" "addedFor" "[I" .null := f12_a1.ext E18
  have f22_a1 : Fld Z h18 a1 "com/example/frugal_scheduler/frugalscheduler/planners/PoolSchedule$Candidates" "size" "I" (.int (0 : Int32)) := f13_a1.ext E18
  have f23_a1 : Fld Z h18 a1 "com/example/frugal_scheduler/frugalscheduler/planners/PoolSchedule$Candidates" "task" "I" (.int (0 : Int32)) := f14_a1.ext E18
  have f24_b : Exa Z h18 b "[I" := f15_b.ext E18
  have f25_b : own_K .int Z h18 b .int 4 (fun _ => (0 : Int32)) := f16_b.ext E18
  have Z26 : n0 ≤ h18.size := Nat.le_trans Z17 E18.1
  have K26 : Keep h0 h18 [a1] := K17.ext E18
  have V18 : own_K .int Z h18 c .int 4 (fun _ => (0 : Int32)) := own_K.new A18 (by decide) rfl rfl
  refine own_by st18 ?_
  show own_R p.tables e below _ (T18.setTop (mkF m 15 #[.val (.ref a1), .val (.int (4 : Int32))] [(.ref c), (.ref a1)]))
  obtain ⟨T27, h27, X27, e27, W27, st27⟩ := putF X18 hx hZ hown (host := "") (Or.inl (hw _ (List.mem_of_getElem? (i := 14) rfl))) Via.refl e18 f21_a1 f19_a1 (Or.inr ⟨(hw _ (List.mem_of_getElem? (i := 15) rfl)), rfl, hnm⟩) (hw _ (List.mem_of_getElem? (i := 3) rfl)) (ty := (.array .int)) (by decide) rfl rfl (g := (mkF m 15 #[.val (.ref a1), .val (.int (4 : Int32))] [(.ref c), (.ref a1)])) rfl rfl (hb hby d1_15)
  have f28_a1 : Exa Z h27 a1 "com/example/frugal_scheduler/frugalscheduler/planners/PoolSchedule$Candidates" := f19_a1.wr W27
  have f29_a1 : Fld Z h27 a1 "com/example/frugal_scheduler/frugalscheduler/planners/PoolSchedule$Candidates" "vms" "[I" (.ref b) := f20_a1.other W27 (Or.inr (slot_ne (Or.inr (hw _ (List.mem_of_getElem? (i := 13) rfl))) (Or.inr (hw _ (List.mem_of_getElem? (i := 15) rfl))) (by decide) (t := (.array .int)) (t' := (.array .int)) (by decide) (by decide)))
  have f30_a1 : Fld Z h27 a1 "com/example/frugal_scheduler/frugalscheduler/planners/PoolSchedule$Candidates" "addedFor" "[I" (.ref c) := f21_a1.same W27
  have f31_a1 : Fld Z h27 a1 "com/example/frugal_scheduler/frugalscheduler/planners/PoolSchedule$Candidates" "size" "I" (.int (0 : Int32)) := f22_a1.other W27 (Or.inr (slot_ne (Or.inl (hw _ (List.mem_of_getElem? (i := 24) rfl))) (Or.inr (hw _ (List.mem_of_getElem? (i := 15) rfl))) (by decide) (t := .int) (t' := (.array .int)) (by decide) (by decide)))
  have f32_a1 : Fld Z h27 a1 "com/example/frugal_scheduler/frugalscheduler/planners/PoolSchedule$Candidates" "task" "I" (.int (0 : Int32)) := f23_a1.other W27 (Or.inr (slot_ne (Or.inl (hw _ (List.mem_of_getElem? (i := 22) rfl))) (Or.inr (hw _ (List.mem_of_getElem? (i := 15) rfl))) (by decide) (t := .int) (t' := (.array .int)) (by decide) (by decide)))
  have f33_b : Exa Z h27 b "[I" := f24_b.wr W27
  have f34_b : own_K .int Z h27 b .int 4 (fun _ => (0 : Int32)) := f25_b.other W27 (Ne.symm ne_a1_b)
  have f35_c : own_K .int Z h27 c .int 4 (fun _ => (0 : Int32)) := V18.other W27 (Ne.symm ne_a1_c)
  have Z36 : n0 ≤ h27.size := Nat.le_trans Z26 (Keep.of_wr W27).1
  have K36 : Keep h0 h27 [a1] := K26.wr W27 (Or.inl (List.mem_of_getElem? (i := 0) rfl))
  have N36 := Fr.snoc X27 N17 ge1
  refine own_by st27 ?_
  show own_R p.tables e below _ (T27.setTop (mkF m 18 #[.val (.ref a1), .val (.int (4 : Int32))] []))
  obtain ⟨fs, hr, hrun, hended, hW, hsame⟩ := X27.leave (v := none) (fun _ => rfl)
  refine own_end ⟨_, _, ?_, hrun, hended, _, _, rfl, ?_, ⟨_, rfl⟩, hW, hsame.mono (by decide) (by decide)⟩
  · exact X27.returnOut hx Bd.returns (hb hby d1_18) hr
  · show Q1 Z a1 (4 : Int32) h0 n0 _ T27.heap _
    rw [e27]
    exact ⟨rfl, N36, K36, b, c, f28_a1, f29_a1, f30_a1, f31_a1, f32_a1, f34_b, f33_b, f35_c, ne_a1_b, ne_a1_c, ne_b_c, ge1, ge_b, ge_c⟩
theorem ef_3 (m : MethodId) (a1 : Addr) (p2 : Int32) : entryFrame m #[(.ref a1), (.int p2)] 2 = mkF m 0 #[.val (.ref a1), .val (.int p2)] [] := by first | (simp [entryFrame, mkF, argsToLocals, Value.category]; done) | rfl
def Q3 (Z : State) (a1 : Addr) (p2 : Int32) (b c : Addr) (n : Nat) (tk : Int32) (gv ga : Nat → Int32) (h0 : Heap) (n0 : Nat) (v : Option Value) (h : Heap) (L : List Loc) : Prop := v = none ∧ Fr n0 L ∧ Keep h0 h [a1] ∧ own_CD Z h n0 a1 b c 0 (p2 + 1) gv ga
set_option maxRecDepth 65536 in
set_option maxHeartbeats 40000000 in
theorem rm3 (l : Launch) (Z : State) (a0 : Array Value) (hw : ∀ d ∈ tables_1, d.before a0 Z = true) (ws : List Jvm.Cond) (a1 : Addr) (p2 : Int32) (b c : Addr) (n : Nat) (tk : Int32) (gv ga : Nat → Int32) (h0 : Heap) (n0 : Nat) (Z0 : n0 ≤ h0.size) (W : own_CD Z h0 n0 a1 b c n tk gv ga) :
    MetFree l (⟨"com/example/frugal_scheduler/frugalscheduler/planners/PoolSchedule$Candidates", "clear", "(I)V"⟩ : MethodName) (head1 (Jvm.Cond.code (⟨"com/example/frugal_scheduler/frugalscheduler/planners/PoolSchedule$Candidates", "clear", "(I)V"⟩ : MethodName) prog_68_method_2_code 2 none :: ws) ({ frames := 0, cells := 0, slots := 0, locals := 0 } : Room)) (fun a U => a = #[(.ref a1), (.int p2)] ∧ Z.Warmed39 U.vm ∧ U.heap = h0) (fun _ _ _ _ _ => True) (fun _ U o U' => ∃ v L, o = .returned v ∧ Q3 Z a1 p2 b c n tk gv ga h0 n0 v U'.heap L ∧ FrameEnd U o U' L ({ frames := 0, cells := 0, slots := 0, locals := 0 } : Room).cells ({ frames := 0, cells := 0, slots := 0, locals := 0 } : Room).slots) := by
  refine MetFree.of_bodySF (plainFor_of_name pn_3) hisR ?_
  intro p e s m args below meth cd s₁ Bd hml0 hP hK
  obtain ⟨rfl, hZ, hh⟩ := hP
  have hx := Bd.exec
  have hby := Bd.bytes
  have hml : cd.maxLocals = 2 := hml0
  have hown : s.vm.findClass "com/example/frugal_scheduler/frugalscheduler/planners/PoolSchedule$Candidates" = some m.cls := findClass_of_methodNamed Bd.named
  have hnm := (name_of_methodNamed Bd.named Bd.method).1
  have X0 : Stand p l e ({ frames := 0, cells := 0, slots := 0, locals := 0 } : Room) s m #[(.ref a1), (.int p2)] below meth cd s₁ [] 0 0 := Stand.of_body Bd
  have e0 : s₁.heap = h0 := by rw [← hh, Bd.state]; rfl
  have N0 := Fr.nil n0
  show own_R p.tables e below _ (s₁.setTop (entryFrame m #[(.ref a1), (.int p2)] 2))
  refine own_by (fun t kZ => castTop (ef_3 m a1 p2) kZ) ?_
  show own_R p.tables e below _ (s₁.setTop (mkF m 0 #[.val (.ref a1), .val (.int p2)] []))
  obtain ⟨Ex, Fb, Fc, Fz, Ft, Vb, Eb, Vc, n1, n2, n3, g1, g2, g3⟩ := W
  refine own_by (fun _ kZ => XS.aloadN X0.here hx rfl (hb hby d3_0) rfl rfl kZ) ?_
  show own_R p.tables e below _ (s₁.setTop (mkF m 1 #[.val (.ref a1), .val (.int p2)] [(.ref a1)]))
  refine own_by (fun _ kZ => XS.iloadN X0.here hx rfl (hb hby d3_1) rfl kZ) ?_
  show own_R p.tables e below _ (s₁.setTop (mkF m 2 #[.val (.ref a1), .val (.int p2)] [(.int p2), (.ref a1)]))
  refine own_by (fun _ kZ => XS.iconst X0.here hx rfl (hb hby d3_2) kZ) ?_
  show own_R p.tables e below _ (s₁.setTop (mkF m 3 #[.val (.ref a1), .val (.int p2)] [(.int (1 : Int32)), (.int p2), (.ref a1)]))
  refine own_by (fun _ kZ => XS.iadd X0.here hx rfl (hb hby d3_3) rfl kZ) ?_
  show own_R p.tables e below _ (s₁.setTop (mkF m 4 #[.val (.ref a1), .val (.int p2)] [(.int (p2 + (1 : Int32))), (.ref a1)]))
  obtain ⟨T37, h37, X37, e37, W37, st37⟩ := putF X0 hx hZ hown (host := "") (Or.inl (hw _ (List.mem_of_getElem? (i := 21) rfl))) Via.refl e0 Ft Ex (Or.inl (hw _ (List.mem_of_getElem? (i := 22) rfl))) (hw _ (List.mem_of_getElem? (i := 3) rfl)) (ty := .int) (by decide) rfl rfl (g := (mkF m 4 #[.val (.ref a1), .val (.int p2)] [(.int (p2 + (1 : Int32))), (.ref a1)])) rfl rfl (hb hby d3_4)
  have f38_a1 : Exa Z h37 a1 "com/example/frugal_scheduler/frugalscheduler/planners/PoolSchedule$Candidates" := Ex.wr W37
  have f39_a1 : Fld Z h37 a1 "com/example/frugal_scheduler/frugalscheduler/planners/PoolSchedule$Candidates" "vms" "[I" (.ref b) := Fb.other W37 (Or.inr (slot_ne (Or.inr (hw _ (List.mem_of_getElem? (i := 13) rfl))) (Or.inl (hw _ (List.mem_of_getElem? (i := 22) rfl))) (by decide) (t := (.array .int)) (t' := .int) (by decide) (by decide)))
  have f40_a1 : Fld Z h37 a1 "com/example/frugal_scheduler/frugalscheduler/planners/PoolSchedule$Candidates" "addedFor" "[I" (.ref c) := Fc.other W37 (Or.inr (slot_ne (Or.inr (hw _ (List.mem_of_getElem? (i := 15) rfl))) (Or.inl (hw _ (List.mem_of_getElem? (i := 22) rfl))) (by decide) (t := (.array .int)) (t' := .int) (by decide) (by decide)))
  have f41_a1 : Fld Z h37 a1 "com/example/frugal_scheduler/frugalscheduler/planners/PoolSchedule$Candidates" "size" "I" (.int (Int32.ofNat n)) := Fz.other W37 (Or.inr (slot_ne (Or.inl (hw _ (List.mem_of_getElem? (i := 24) rfl))) (Or.inl (hw _ (List.mem_of_getElem? (i := 22) rfl))) (by decide) (t := .int) (t' := .int) (by decide) (by decide)))
  have f42_a1 : Fld Z h37 a1 "com/example/frugal_scheduler/frugalscheduler/planners/PoolSchedule$Candidates" "task" "I" (.int (p2 + (1 : Int32))) := Ft.same W37
  have f43_b : own_K .int Z h37 b .int 4 gv := Vb.other W37 (Ne.symm n1)
  have f44_b : Exa Z h37 b "[I" := Eb.wr W37
  have f45_c : own_K .int Z h37 c .int 4 ga := Vc.other W37 (Ne.symm n2)
  have Z46 : n0 ≤ h37.size := Nat.le_trans Z0 (Keep.of_wr W37).1
  have K46 : Keep h0 h37 [a1] := (Keep.refl h0 [a1]).wr W37 (Or.inl (List.mem_of_getElem? (i := 0) rfl))
  have N46 := Fr.snoc X37 N0 g1
  refine own_by st37 ?_
  show own_R p.tables e below _ (T37.setTop (mkF m 7 #[.val (.ref a1), .val (.int p2)] []))
  refine own_by (fun _ kZ => XS.aloadN X37.here hx rfl (hb hby d3_7) rfl rfl kZ) ?_
  show own_R p.tables e below _ (T37.setTop (mkF m 8 #[.val (.ref a1), .val (.int p2)] [(.ref a1)]))
  refine own_by (fun _ kZ => XS.iconst X37.here hx rfl (hb hby d3_8) kZ) ?_
  show own_R p.tables e below _ (T37.setTop (mkF m 9 #[.val (.ref a1), .val (.int p2)] [(.int (0 : Int32)), (.ref a1)]))
  obtain ⟨T47, h47, X47, e47, W47, st47⟩ := putF X37 hx hZ hown (host := "") (Or.inl (hw _ (List.mem_of_getElem? (i := 23) rfl))) Via.refl e37 f41_a1 f38_a1 (Or.inl (hw _ (List.mem_of_getElem? (i := 24) rfl))) (hw _ (List.mem_of_getElem? (i := 3) rfl)) (ty := .int) (by decide) rfl rfl (g := (mkF m 9 #[.val (.ref a1), .val (.int p2)] [(.int (0 : Int32)), (.ref a1)])) rfl rfl (hb hby d3_9)
  have f48_a1 : Exa Z h47 a1 "com/example/frugal_scheduler/frugalscheduler/planners/PoolSchedule$Candidates" := f38_a1.wr W47
  have f49_a1 : Fld Z h47 a1 "com/example/frugal_scheduler/frugalscheduler/planners/PoolSchedule$Candidates" "vms" "[I" (.ref b) := f39_a1.other W47 (Or.inr (slot_ne (Or.inr (hw _ (List.mem_of_getElem? (i := 13) rfl))) (Or.inl (hw _ (List.mem_of_getElem? (i := 24) rfl))) (by decide) (t := (.array .int)) (t' := .int) (by decide) (by decide)))
  have f50_a1 : Fld Z h47 a1 "com/example/frugal_scheduler/frugalscheduler/planners/PoolSchedule$Candidates" "addedFor" "[I" (.ref c) := f40_a1.other W47 (Or.inr (slot_ne (Or.inr (hw _ (List.mem_of_getElem? (i := 15) rfl))) (Or.inl (hw _ (List.mem_of_getElem? (i := 24) rfl))) (by decide) (t := (.array .int)) (t' := .int) (by decide) (by decide)))
  have f51_a1 : Fld Z h47 a1 "com/example/frugal_scheduler/frugalscheduler/planners/PoolSchedule$Candidates" "size" "I" (.int (0 : Int32)) := f41_a1.same W47
  have f52_a1 : Fld Z h47 a1 "com/example/frugal_scheduler/frugalscheduler/planners/PoolSchedule$Candidates" "task" "I" (.int (p2 + (1 : Int32))) := f42_a1.other W47 (Or.inr (slot_ne (Or.inl (hw _ (List.mem_of_getElem? (i := 22) rfl))) (Or.inl (hw _ (List.mem_of_getElem? (i := 24) rfl))) (by decide) (t := .int) (t' := .int) (by decide) (by decide)))
  have f53_b : own_K .int Z h47 b .int 4 gv := f43_b.other W47 (Ne.symm n1)
  have f54_b : Exa Z h47 b "[I" := f44_b.wr W47
  have f55_c : own_K .int Z h47 c .int 4 ga := f45_c.other W47 (Ne.symm n2)
  have Z56 : n0 ≤ h47.size := Nat.le_trans Z46 (Keep.of_wr W47).1
  have K56 : Keep h0 h47 [a1] := K46.wr W47 (Or.inl (List.mem_of_getElem? (i := 0) rfl))
  have N56 := Fr.snoc X47 N46 g1
  refine own_by st47 ?_
  show own_R p.tables e below _ (T47.setTop (mkF m 12 #[.val (.ref a1), .val (.int p2)] []))
  obtain ⟨fs, hr, hrun, hended, hW, hsame⟩ := X47.leave (v := none) (fun _ => rfl)
  refine own_end ⟨_, _, ?_, hrun, hended, _, _, rfl, ?_, ⟨_, rfl⟩, hW, hsame.mono (by decide) (by decide)⟩
  · exact X47.returnOut hx Bd.returns (hb hby d3_12) hr
  · show Q3 Z a1 p2 b c n tk gv ga h0 n0 _ T47.heap _
    rw [e47]
    exact ⟨rfl, N56, K56, ⟨f48_a1, f49_a1, f50_a1, f51_a1, f52_a1, f53_b, f54_b, f55_c, n1, n2, n3, g1, g2, g3⟩⟩
theorem ef_4 (m : MethodId) (a1 : Addr) (p2 : Int32) : entryFrame m #[(.ref a1), (.int p2)] 2 = mkF m 0 #[.val (.ref a1), .val (.int p2)] [] := by first | (simp [entryFrame, mkF, argsToLocals, Value.category]; done) | rfl
def Q4 (Z : State) (a1 : Addr) (p2 : Int32) (b c : Addr) (n : Nat) (tk : Int32) (gv ga : Nat → Int32) (x : Nat) (h0 : Heap) (n0 : Nat) (v : Option Value) (h : Heap) (L : List Loc) : Prop := v = none ∧ Fr n0 L ∧ Keep h0 h [a1, b, c] ∧ own_CD Z h n0 a1 b c (own_an n tk ga x) tk (own_av gv n tk ga x) (own_ag ga tk x)
set_option maxRecDepth 65536 in
set_option maxHeartbeats 40000000 in
theorem rm4 (l : Launch) (Z : State) (a0 : Array Value) (hw : ∀ d ∈ tables_1, d.before a0 Z = true) (ws : List Jvm.Cond) (a1 : Addr) (p2 : Int32) (b c : Addr) (n : Nat) (tk : Int32) (gv ga : Nat → Int32) (x : Nat) (h0 : Heap) (n0 : Nat) (Z0 : n0 ≤ h0.size) (W : own_CD Z h0 n0 a1 b c n tk gv ga) (hp2 : p2 = Int32.ofNat x) (lx : x < 4) (ln : n < 4) :
    MetFree l (⟨"com/example/frugal_scheduler/frugalscheduler/planners/PoolSchedule$Candidates", "add", "(I)V"⟩ : MethodName) (head1 (Jvm.Cond.code (⟨"com/example/frugal_scheduler/frugalscheduler/planners/PoolSchedule$Candidates", "add", "(I)V"⟩ : MethodName) prog_68_method_3_code 2 none :: ws) ({ frames := 0, cells := 0, slots := 0, locals := 0 } : Room)) (fun a U => a = #[(.ref a1), (.int p2)] ∧ Z.Warmed39 U.vm ∧ U.heap = h0) (fun _ _ _ _ _ => True) (fun _ U o U' => ∃ v L, o = .returned v ∧ Q4 Z a1 p2 b c n tk gv ga x h0 n0 v U'.heap L ∧ FrameEnd U o U' L ({ frames := 0, cells := 0, slots := 0, locals := 0 } : Room).cells ({ frames := 0, cells := 0, slots := 0, locals := 0 } : Room).slots) := by
  refine MetFree.of_bodySF (plainFor_of_name pn_4) hisR ?_
  intro p e s m args below meth cd s₁ Bd hml0 hP hK
  obtain ⟨rfl, hZ, hh⟩ := hP
  have hx := Bd.exec
  have hby := Bd.bytes
  have hml : cd.maxLocals = 2 := hml0
  have hown : s.vm.findClass "com/example/frugal_scheduler/frugalscheduler/planners/PoolSchedule$Candidates" = some m.cls := findClass_of_methodNamed Bd.named
  have hnm := (name_of_methodNamed Bd.named Bd.method).1
  have X0 : Stand p l e ({ frames := 0, cells := 0, slots := 0, locals := 0 } : Room) s m #[(.ref a1), (.int p2)] below meth cd s₁ [] 0 0 := Stand.of_body Bd
  have e0 : s₁.heap = h0 := by rw [← hh, Bd.state]; rfl
  have N0 := Fr.nil n0
  show own_R p.tables e below _ (s₁.setTop (entryFrame m #[(.ref a1), (.int p2)] 2))
  refine own_by (fun t kZ => castTop (ef_4 m a1 p2) kZ) ?_
  show own_R p.tables e below _ (s₁.setTop (mkF m 0 #[.val (.ref a1), .val (.int p2)] []))
  subst hp2
  show own_R p.tables e below _ (s₁.setTop (mkF m 0 #[.val (.ref a1), .val (.int (Int32.ofNat x))] []))
  obtain ⟨Ex, Fb, Fc, Fz, Ft, Vb, Eb, Vc, n1, n2, n3, g1, g2, g3⟩ := W
  refine own_by (fun _ kZ => XS.aloadN X0.here hx rfl (hb hby d4_0) rfl rfl kZ) ?_
  show own_R p.tables e below _ (s₁.setTop (mkF m 1 #[.val (.ref a1), .val (.int (Int32.ofNat x))] [(.ref a1)]))
  obtain ⟨T57, X57, e57, st57⟩ := getF X0 hx hZ hown (host := "") (Or.inl (hw _ (List.mem_of_getElem? (i := 14) rfl))) Via.refl e0 Fc (g := (mkF m 1 #[.val (.ref a1), .val (.int (Int32.ofNat x))] [(.ref a1)])) rfl rfl (hb hby d4_1)
  refine own_by st57 ?_
  show own_R p.tables e below _ (T57.setTop (mkF m 4 #[.val (.ref a1), .val (.int (Int32.ofNat x))] [(.ref c)]))
  refine own_by (fun _ kZ => XS.iloadN X57.here hx rfl (hb hby d4_4) rfl kZ) ?_
  show own_R p.tables e below _ (T57.setTop (mkF m 5 #[.val (.ref a1), .val (.int (Int32.ofNat x))] [(.int (Int32.ofNat x)), (.ref c)]))
  obtain ⟨cl58, Ar58, hin58, hat58⟩ := Vc.rd (i := (Int32.ofNat x)) (p := x) (own_clamp (by omega)) (own_nn (by omega)) lx
  refine own_by (fun _ kZ => X57.iaload hx (j := (Int32.ofNat x)) (v := (.int (ga x))) (by rw [e57]; exact Ar58.1) (State.isArrayOf_alike hZ.alike Ar58.2.1) Ar58.2.2 hin58 hat58 (g := (mkF m 5 #[.val (.ref a1), .val (.int (Int32.ofNat x))] [(.int (Int32.ofNat x)), (.ref c)])) rfl rfl (hb hby d4_5) _ kZ) ?_
  show own_R p.tables e below _ (T57.setTop (mkF m 6 #[.val (.ref a1), .val (.int (Int32.ofNat x))] [(.int (ga x))]))
  refine own_by (fun _ kZ => XS.aloadN X57.here hx rfl (hb hby d4_6) rfl rfl kZ) ?_
  show own_R p.tables e below _ (T57.setTop (mkF m 7 #[.val (.ref a1), .val (.int (Int32.ofNat x))] [(.ref a1), (.int (ga x))]))
  obtain ⟨T59, X59, e59, st59⟩ := getF X57 hx hZ hown (host := "") (Or.inl (hw _ (List.mem_of_getElem? (i := 21) rfl))) Via.refl e57 Ft (g := (mkF m 7 #[.val (.ref a1), .val (.int (Int32.ofNat x))] [(.ref a1), (.int (ga x))])) rfl rfl (hb hby d4_7)
  refine own_by st59 ?_
  show own_R p.tables e below _ (T59.setTop (mkF m 10 #[.val (.ref a1), .val (.int (Int32.ofNat x))] [(.int tk), (.int (ga x))]))
  by_cases hc : (ga x) = tk
  · skip
    refine own_by (fun _ kZ => XS.icmpYes X59.here hx rfl (pc0 := 10) (pc' := 40) rfl (hb hby d4_10) rfl (teq hc).1 (by decide) (by decide) kZ) ?_
    show own_R p.tables e below _ (T59.setTop (mkF m 40 #[.val (.ref a1), .val (.int (Int32.ofNat x))] []))
    obtain ⟨fs, hr, hrun, hended, hW, hsame⟩ := X59.leave (v := none) (fun _ => rfl)
    refine own_end ⟨_, _, ?_, hrun, hended, _, _, rfl, ?_, ⟨_, rfl⟩, hW, hsame.mono (by decide) (by decide)⟩
    · exact X59.returnOut hx Bd.returns (hb hby d4_40) hr
    · show Q4 Z a1 (Int32.ofNat x) b c n tk gv ga x h0 n0 _ T59.heap _
      rw [e59]
      exact ⟨rfl, N0, (Keep.refl h0 [a1, b, c]), by rw [own_an, own_av, own_ag, if_pos hc, if_pos hc, if_pos hc]; exact ⟨Ex, Fb, Fc, Fz, Ft, Vb, Eb, Vc, n1, n2, n3, g1, g2, g3⟩⟩
  · skip
    refine own_by (fun _ kZ => XS.icmpNo X59.here hx rfl (hb hby d4_10) rfl (feq hc).1 kZ) ?_
    show own_R p.tables e below _ (T59.setTop (mkF m 13 #[.val (.ref a1), .val (.int (Int32.ofNat x))] []))
    refine own_by (fun _ kZ => XS.aloadN X59.here hx rfl (hb hby d4_13) rfl rfl kZ) ?_
    show own_R p.tables e below _ (T59.setTop (mkF m 14 #[.val (.ref a1), .val (.int (Int32.ofNat x))] [(.ref a1)]))
    obtain ⟨T60, X60, e60, st60⟩ := getF X59 hx hZ hown (host := "") (Or.inl (hw _ (List.mem_of_getElem? (i := 14) rfl))) Via.refl e59 Fc (g := (mkF m 14 #[.val (.ref a1), .val (.int (Int32.ofNat x))] [(.ref a1)])) rfl rfl (hb hby d4_14)
    refine own_by st60 ?_
    show own_R p.tables e below _ (T60.setTop (mkF m 17 #[.val (.ref a1), .val (.int (Int32.ofNat x))] [(.ref c)]))
    refine own_by (fun _ kZ => XS.iloadN X60.here hx rfl (hb hby d4_17) rfl kZ) ?_
    show own_R p.tables e below _ (T60.setTop (mkF m 18 #[.val (.ref a1), .val (.int (Int32.ofNat x))] [(.int (Int32.ofNat x)), (.ref c)]))
    refine own_by (fun _ kZ => XS.aloadN X60.here hx rfl (hb hby d4_18) rfl rfl kZ) ?_
    show own_R p.tables e below _ (T60.setTop (mkF m 19 #[.val (.ref a1), .val (.int (Int32.ofNat x))] [(.ref a1), (.int (Int32.ofNat x)), (.ref c)]))
    obtain ⟨T61, X61, e61, st61⟩ := getF X60 hx hZ hown (host := "") (Or.inl (hw _ (List.mem_of_getElem? (i := 21) rfl))) Via.refl e60 Ft (g := (mkF m 19 #[.val (.ref a1), .val (.int (Int32.ofNat x))] [(.ref a1), (.int (Int32.ofNat x)), (.ref c)])) rfl rfl (hb hby d4_19)
    refine own_by st61 ?_
    show own_R p.tables e below _ (T61.setTop (mkF m 22 #[.val (.ref a1), .val (.int (Int32.ofNat x))] [(.int tk), (.int (Int32.ofNat x)), (.ref c)]))
    obtain ⟨cl62, Ar62, hin62, -⟩ := Vc.rd (i := (Int32.ofNat x)) (p := x) (own_clamp (by omega)) (own_nn (by omega)) lx
    obtain ⟨T63, h63, X63, e63, W63, st63⟩ := stI X61 hx hZ e61 Ar62 (j := (Int32.ofNat x)) hin62 (g := (mkF m 22 #[.val (.ref a1), .val (.int (Int32.ofNat x))] [(.int tk), (.int (Int32.ofNat x)), (.ref c)])) rfl rfl (hb hby d4_22)
    have f64_a1 : Exa Z h63 a1 "com/example/frugal_scheduler/frugalscheduler/planners/PoolSchedule$Candidates" := Ex.wr W63
    have f65_a1 : Fld Z h63 a1 "com/example/frugal_scheduler/frugalscheduler/planners/PoolSchedule$Candidates" "vms" "[I" (.ref b) := Fb.other W63 (Or.inl n2)
    have f66_a1 : Fld Z h63 a1 "com/example/frugal_scheduler/frugalscheduler/planners/PoolSchedule$Candidates" "addedFor" "[I" (.ref c) := Fc.other W63 (Or.inl n2)
    have f67_a1 : Fld Z h63 a1 "com/example/frugal_scheduler/frugalscheduler/planners/PoolSchedule$Candidates" "size" "I" (.int (Int32.ofNat n)) := Fz.other W63 (Or.inl n2)
    have f68_a1 : Fld Z h63 a1 "com/example/frugal_scheduler/frugalscheduler/planners/PoolSchedule$Candidates" "task" "I" (.int tk) := Ft.other W63 (Or.inl n2)
    have f69_b : own_K .int Z h63 b .int 4 gv := Vb.other W63 n3
    have f70_b : Exa Z h63 b "[I" := Eb.wr W63
    have Z71 : n0 ≤ h63.size := Nat.le_trans Z0 (Keep.of_wr W63).1
    have K71 : Keep h0 h63 [a1, b, c] := (Keep.refl h0 [a1, b, c]).wr W63 (Or.inl (List.mem_of_getElem? (i := 2) rfl))
    have N71 := Fr.snoc X63 N0 g3
    have V63 : own_K .int Z h63 c .int 4 (own_uk ga x tk) := Vc.set (i := (Int32.ofNat x)) (p := x) (own_clamp (by omega)) W63
    refine own_by st63 ?_
    show own_R p.tables e below _ (T63.setTop (mkF m 23 #[.val (.ref a1), .val (.int (Int32.ofNat x))] []))
    refine own_by (fun _ kZ => XS.aloadN X63.here hx rfl (hb hby d4_23) rfl rfl kZ) ?_
    show own_R p.tables e below _ (T63.setTop (mkF m 24 #[.val (.ref a1), .val (.int (Int32.ofNat x))] [(.ref a1)]))
    obtain ⟨T72, X72, e72, st72⟩ := getF X63 hx hZ hown (host := "") (Or.inl (hw _ (List.mem_of_getElem? (i := 12) rfl))) Via.refl e63 f65_a1 (g := (mkF m 24 #[.val (.ref a1), .val (.int (Int32.ofNat x))] [(.ref a1)])) rfl rfl (hb hby d4_24)
    refine own_by st72 ?_
    show own_R p.tables e below _ (T72.setTop (mkF m 27 #[.val (.ref a1), .val (.int (Int32.ofNat x))] [(.ref b)]))
    refine own_by (fun _ kZ => XS.aloadN X72.here hx rfl (hb hby d4_27) rfl rfl kZ) ?_
    show own_R p.tables e below _ (T72.setTop (mkF m 28 #[.val (.ref a1), .val (.int (Int32.ofNat x))] [(.ref a1), (.ref b)]))
    refine own_by (fun _ kZ => XS.dup X72.here hx rfl (hb hby d4_28) rfl rfl kZ) ?_
    show own_R p.tables e below _ (T72.setTop (mkF m 29 #[.val (.ref a1), .val (.int (Int32.ofNat x))] [(.ref a1), (.ref a1), (.ref b)]))
    obtain ⟨T73, X73, e73, st73⟩ := getF X72 hx hZ hown (host := "") (Or.inl (hw _ (List.mem_of_getElem? (i := 23) rfl))) Via.refl e72 f67_a1 (g := (mkF m 29 #[.val (.ref a1), .val (.int (Int32.ofNat x))] [(.ref a1), (.ref a1), (.ref b)])) rfl rfl (hb hby d4_29)
    refine own_by st73 ?_
    show own_R p.tables e below _ (T73.setTop (mkF m 32 #[.val (.ref a1), .val (.int (Int32.ofNat x))] [(.int (Int32.ofNat n)), (.ref a1), (.ref b)]))
    refine own_by (fun _ kZ => XS.dupX1 X73.here hx rfl (hb hby d4_32) rfl rfl rfl kZ) ?_
    show own_R p.tables e below _ (T73.setTop (mkF m 33 #[.val (.ref a1), .val (.int (Int32.ofNat x))] [(.int (Int32.ofNat n)), (.ref a1), (.int (Int32.ofNat n)), (.ref b)]))
    refine own_by (fun _ kZ => XS.iconst X73.here hx rfl (hb hby d4_33) kZ) ?_
    show own_R p.tables e below _ (T73.setTop (mkF m 34 #[.val (.ref a1), .val (.int (Int32.ofNat x))] [(.int (1 : Int32)), (.int (Int32.ofNat n)), (.ref a1), (.int (Int32.ofNat n)), (.ref b)]))
    refine own_by (fun _ kZ => XS.iadd X73.here hx rfl (hb hby d4_34) rfl kZ) ?_
    show own_R p.tables e below _ (T73.setTop (mkF m 35 #[.val (.ref a1), .val (.int (Int32.ofNat x))] [(.int ((Int32.ofNat n) + (1 : Int32))), (.ref a1), (.int (Int32.ofNat n)), (.ref b)]))
    rw [show ((Int32.ofNat n) + (1 : Int32)) = (Int32.ofNat (n + 1)) from own_add1 n]
    show own_R p.tables e below _ (T73.setTop (mkF m 35 #[.val (.ref a1), .val (.int (Int32.ofNat x))] [(.int (Int32.ofNat (n + 1))), (.ref a1), (.int (Int32.ofNat n)), (.ref b)]))
    obtain ⟨T74, h74, X74, e74, W74, st74⟩ := putF X73 hx hZ hown (host := "") (Or.inl (hw _ (List.mem_of_getElem? (i := 23) rfl))) Via.refl e73 f67_a1 f64_a1 (Or.inl (hw _ (List.mem_of_getElem? (i := 24) rfl))) (hw _ (List.mem_of_getElem? (i := 3) rfl)) (ty := .int) (by decide) rfl rfl (g := (mkF m 35 #[.val (.ref a1), .val (.int (Int32.ofNat x))] [(.int (Int32.ofNat (n + 1))), (.ref a1), (.int (Int32.ofNat n)), (.ref b)])) rfl rfl (hb hby d4_35)
    have f75_a1 : Exa Z h74 a1 "com/example/frugal_scheduler/frugalscheduler/planners/PoolSchedule$Candidates" := f64_a1.wr W74
    have f76_a1 : Fld Z h74 a1 "com/example/frugal_scheduler/frugalscheduler/planners/PoolSchedule$Candidates" "vms" "[I" (.ref b) := f65_a1.other W74 (Or.inr (slot_ne (Or.inr (hw _ (List.mem_of_getElem? (i := 13) rfl))) (Or.inl (hw _ (List.mem_of_getElem? (i := 24) rfl))) (by decide) (t := (.array .int)) (t' := .int) (by decide) (by decide)))
    have f77_a1 : Fld Z h74 a1 "com/example/frugal_scheduler/frugalscheduler/planners/PoolSchedule$Candidates" "addedFor" "[I" (.ref c) := f66_a1.other W74 (Or.inr (slot_ne (Or.inr (hw _ (List.mem_of_getElem? (i := 15) rfl))) (Or.inl (hw _ (List.mem_of_getElem? (i := 24) rfl))) (by decide) (t := (.array .int)) (t' := .int) (by decide) (by decide)))
    have f78_a1 : Fld Z h74 a1 "com/example/frugal_scheduler/frugalscheduler/planners/PoolSchedule$Candidates" "size" "I" (.int (Int32.ofNat (n + 1))) := f67_a1.same W74
    have f79_a1 : Fld Z h74 a1 "com/example/frugal_scheduler/frugalscheduler/planners/PoolSchedule$Candidates" "task" "I" (.int tk) := f68_a1.other W74 (Or.inr (slot_ne (Or.inl (hw _ (List.mem_of_getElem? (i := 22) rfl))) (Or.inl (hw _ (List.mem_of_getElem? (i := 24) rfl))) (by decide) (t := .int) (t' := .int) (by decide) (by decide)))
    have f80_b : own_K .int Z h74 b .int 4 gv := f69_b.other W74 (Ne.symm n1)
    have f81_b : Exa Z h74 b "[I" := f70_b.wr W74
    have f82_c : own_K .int Z h74 c .int 4 (own_uk ga x tk) := V63.other W74 (Ne.symm n2)
    have Z83 : n0 ≤ h74.size := Nat.le_trans Z71 (Keep.of_wr W74).1
    have K83 : Keep h0 h74 [a1, b, c] := K71.wr W74 (Or.inl (List.mem_of_getElem? (i := 0) rfl))
    have N83 := Fr.snoc X74 N71 g1
    refine own_by st74 ?_
    show own_R p.tables e below _ (T74.setTop (mkF m 38 #[.val (.ref a1), .val (.int (Int32.ofNat x))] [(.int (Int32.ofNat n)), (.ref b)]))
    refine own_by (fun _ kZ => XS.iloadN X74.here hx rfl (hb hby d4_38) rfl kZ) ?_
    show own_R p.tables e below _ (T74.setTop (mkF m 39 #[.val (.ref a1), .val (.int (Int32.ofNat x))] [(.int (Int32.ofNat x)), (.int (Int32.ofNat n)), (.ref b)]))
    obtain ⟨cl84, Ar84, hin84, -⟩ := f80_b.rd (i := (Int32.ofNat n)) (p := n) (own_clamp (by omega)) (own_nn (by omega)) ln
    obtain ⟨T85, h85, X85, e85, W85, st85⟩ := stI X74 hx hZ e74 Ar84 (j := (Int32.ofNat n)) hin84 (g := (mkF m 39 #[.val (.ref a1), .val (.int (Int32.ofNat x))] [(.int (Int32.ofNat x)), (.int (Int32.ofNat n)), (.ref b)])) rfl rfl (hb hby d4_39)
    have f86_a1 : Exa Z h85 a1 "com/example/frugal_scheduler/frugalscheduler/planners/PoolSchedule$Candidates" := f75_a1.wr W85
    have f87_a1 : Fld Z h85 a1 "com/example/frugal_scheduler/frugalscheduler/planners/PoolSchedule$Candidates" "vms" "[I" (.ref b) := f76_a1.other W85 (Or.inl n1)
    have f88_a1 : Fld Z h85 a1 "com/example/frugal_scheduler/frugalscheduler/planners/PoolSchedule$Candidates" "addedFor" "[I" (.ref c) := f77_a1.other W85 (Or.inl n1)
    have f89_a1 : Fld Z h85 a1 "com/example/frugal_scheduler/frugalscheduler/planners/PoolSchedule$Candidates" "size" "I" (.int (Int32.ofNat (n + 1))) := f78_a1.other W85 (Or.inl n1)
    have f90_a1 : Fld Z h85 a1 "com/example/frugal_scheduler/frugalscheduler/planners/PoolSchedule$Candidates" "task" "I" (.int tk) := f79_a1.other W85 (Or.inl n1)
    have f91_b : Exa Z h85 b "[I" := f81_b.wr W85
    have f92_c : own_K .int Z h85 c .int 4 (own_uk ga x tk) := f82_c.other W85 (Ne.symm n3)
    have Z93 : n0 ≤ h85.size := Nat.le_trans Z83 (Keep.of_wr W85).1
    have K93 : Keep h0 h85 [a1, b, c] := K83.wr W85 (Or.inl (List.mem_of_getElem? (i := 1) rfl))
    have N93 := Fr.snoc X85 N83 g2
    have V85 : own_K .int Z h85 b .int 4 (own_uk gv n (Int32.ofNat x)) := f80_b.set (i := (Int32.ofNat n)) (p := n) (own_clamp (by omega)) W85
    refine own_by st85 ?_
    show own_R p.tables e below _ (T85.setTop (mkF m 40 #[.val (.ref a1), .val (.int (Int32.ofNat x))] []))
    obtain ⟨fs, hr, hrun, hended, hW, hsame⟩ := X85.leave (v := none) (fun _ => rfl)
    refine own_end ⟨_, _, ?_, hrun, hended, _, _, rfl, ?_, ⟨_, rfl⟩, hW, hsame.mono (by decide) (by decide)⟩
    · exact X85.returnOut hx Bd.returns (hb hby d4_40) hr
    · show Q4 Z a1 (Int32.ofNat x) b c n tk gv ga x h0 n0 _ T85.heap _
      rw [e85]
      exact ⟨rfl, N93, K93, by rw [own_an, own_av, own_ag, if_neg hc, if_neg hc, if_neg hc]; exact ⟨f86_a1, f87_a1, f88_a1, f89_a1, f90_a1, V85, f91_b, f92_c, n1, n2, n3, g1, g2, g3⟩⟩
theorem ef_7 (m : MethodId) (p1 : Int32) (p2 : Int32) : entryFrame m #[(.int p1), (.int p2)] 2 = mkF m 0 #[.val (.int p1), .val (.int p2)] [] := by first | (simp [entryFrame, mkF, argsToLocals, Value.category]; done) | rfl
def Q7 (Z : State) (p1 : Int32) (p2 : Int32)  (h0 : Heap) (n0 : Nat) (v : Option Value) (h : Heap) (L : List Loc) : Prop := v = some (.int (own_mi p1 p2)) ∧ Fr n0 L ∧ h = h0
set_option maxRecDepth 65536 in
set_option maxHeartbeats 40000000 in
theorem rm7 (l : Launch) (Z : State) (a0 : Array Value) (hw : ∀ d ∈ tables_1, d.before a0 Z = true) (ws : List Jvm.Cond) (p1 : Int32) (p2 : Int32)  (h0 : Heap) (n0 : Nat) (Z0 : n0 ≤ h0.size)  :
    MetFree l (⟨"java/lang/Math", "min", "(II)I"⟩ : MethodName) (head1 (Jvm.Cond.code (⟨"java/lang/Math", "min", "(II)I"⟩ : MethodName) jdk_29_method_69_code 2 (some .int) :: ws) ({ frames := 0, cells := 0, slots := 0, locals := 0 } : Room)) (fun a U => a = #[(.int p1), (.int p2)] ∧ Z.Warmed39 U.vm ∧ U.heap = h0) (fun _ _ _ _ _ => True) (fun _ U o U' => ∃ v L, o = .returned v ∧ Q7 Z p1 p2 h0 n0 v U'.heap L ∧ FrameEnd U o U' L ({ frames := 0, cells := 0, slots := 0, locals := 0 } : Room).cells ({ frames := 0, cells := 0, slots := 0, locals := 0 } : Room).slots) := by
  refine MetFree.of_bodySF (Jvm.Free.JP.mathPlain rfl (by decide +kernel)) hisR ?_
  intro p e s m args below meth cd s₁ Bd hml0 hP hK
  obtain ⟨rfl, hZ, hh⟩ := hP
  have hx := Bd.exec
  have hby := Bd.bytes
  have hml : cd.maxLocals = 2 := hml0
  have hown : s.vm.findClass "java/lang/Math" = some m.cls := findClass_of_methodNamed Bd.named
  have hnm := (name_of_methodNamed Bd.named Bd.method).1
  have X0 : Stand p l e ({ frames := 0, cells := 0, slots := 0, locals := 0 } : Room) s m #[(.int p1), (.int p2)] below meth cd s₁ [] 0 0 := Stand.of_body Bd
  have e0 : s₁.heap = h0 := by rw [← hh, Bd.state]; rfl
  have N0 := Fr.nil n0
  show own_R p.tables e below _ (s₁.setTop (entryFrame m #[(.int p1), (.int p2)] 2))
  refine own_by (fun t kZ => castTop (ef_7 m p1 p2) kZ) ?_
  show own_R p.tables e below _ (s₁.setTop (mkF m 0 #[.val (.int p1), .val (.int p2)] []))
  refine own_by (fun _ kZ => XS.iloadN X0.here hx rfl (hb hby d7_0) rfl kZ) ?_
  show own_R p.tables e below _ (s₁.setTop (mkF m 1 #[.val (.int p1), .val (.int p2)] [(.int p1)]))
  refine own_by (fun _ kZ => XS.iloadN X0.here hx rfl (hb hby d7_1) rfl kZ) ?_
  show own_R p.tables e below _ (s₁.setTop (mkF m 2 #[.val (.int p1), .val (.int p2)] [(.int p2), (.int p1)]))
  obtain ⟨r, h_r⟩ : ∃ z : Int32, z = (if p2 < p1 then p2 else p1) := ⟨_, rfl⟩
  refine own_by (S' := s₁.setTop (mkF m 10 #[.val (.int p1), .val (.int p2)] [(.int r)])) (fun _ kZ => ?_) ?_
  · skip
    show Steps p.tables e below (s₁.setTop (mkF m 2 #[.val (.int p1), .val (.int p2)] [(.int p2), (.int p1)])) _
    by_cases hd2 : p2 < p1
    · skip
      refine XS.icmpYes X0.here hx rfl (pc0 := 2) (pc' := 9) rfl (hb hby d7_2) rfl (tlt hd2).2.2.1 (by decide) (by decide) ?_
      show Steps p.tables e below (s₁.setTop (mkF m 9 #[.val (.int p1), .val (.int p2)] [])) _
      refine XS.iloadN X0.here hx rfl (hb hby d7_9) rfl ?_
      show Steps p.tables e below (s₁.setTop (mkF m 10 #[.val (.int p1), .val (.int p2)] [(.int p2)])) _
      rw [if_pos hd2] at h_r
      subst h_r
      exact kZ
    · skip
      refine XS.icmpNo X0.here hx rfl (hb hby d7_2) rfl (flt hd2).2.2.1 ?_
      show Steps p.tables e below (s₁.setTop (mkF m 5 #[.val (.int p1), .val (.int p2)] [])) _
      refine XS.iloadN X0.here hx rfl (hb hby d7_5) rfl ?_
      show Steps p.tables e below (s₁.setTop (mkF m 6 #[.val (.int p1), .val (.int p2)] [(.int p1)])) _
      refine XS.goto X0.here hx rfl (pc0 := 6) (pc' := 10) rfl (hb hby d7_6) (by decide) (by decide) ?_
      show Steps p.tables e below (s₁.setTop (mkF m 10 #[.val (.int p1), .val (.int p2)] [(.int p1)])) _
      rw [if_neg hd2] at h_r
      subst h_r
      exact kZ
  show own_R p.tables e below _ (s₁.setTop (mkF m 10 #[.val (.int p1), .val (.int p2)] [(.int r)]))
  obtain ⟨fs, hr, hrun, hended, hW, hsame⟩ := X0.leave (v := some (.int r)) (fun h => by rw [Bd.returns] at h; cases h)
  refine own_end ⟨_, _, ?_, hrun, hended, _, _, rfl, ?_, ⟨_, rfl⟩, hW, hsame.mono (by decide) (by decide)⟩
  · exact own_retI X0 hx Bd.returns (hb hby d7_10) hr
  · show Q7 Z p1 p2 h0 n0 _ s₁.heap _
    rw [e0]
    exact ⟨by rw [h_r]; rfl, N0, rfl⟩
theorem ef_6 (m : MethodId) (a1 : Addr) (p2 : Int32) : entryFrame m #[(.ref a1), (.int p2)] 3 = mkF m 0 #[.val (.ref a1), .val (.int p2), .unset] [] := by first | (simp [entryFrame, mkF, argsToLocals, Value.category]; done) | rfl
def Q6 (Z : State) (a1 : Addr) (p2 : Int32) (n : Nat) (gv : Nat → Int32) (h0 : Heap) (n0 : Nat) (v : Option Value) (h : Heap) (L : List Loc) : Prop := v = some (.ref h0.size) ∧ Fr n0 L ∧ Keep h0 h [] ∧ own_K .int Z h h0.size .int n gv
set_option maxRecDepth 65536 in
set_option maxHeartbeats 40000000 in
theorem rm6 (l : Launch) (Z : State) (a0 : Array Value) (hw : ∀ d ∈ tables_1, d.before a0 Z = true) (ws : List Jvm.Cond) (a1 : Addr) (p2 : Int32) (n : Nat) (gv : Nat → Int32) (h0 : Heap) (n0 : Nat) (Z0 : n0 ≤ h0.size) (hp2 : p2 = Int32.ofNat n) (hn : n ≤ 4) (V : own_K .int Z h0 a1 .int 4 gv) (Ex : Exa Z h0 a1 "[I") :
    MetFree l (⟨"java/util/Arrays", "copyOf", "([II)[I"⟩ : MethodName) (head1 (Jvm.Cond.code (⟨"java/util/Arrays", "copyOf", "([II)[I"⟩ : MethodName) jdk_65_method_123_code 3 (some (.array .int)) :: ws) ({ frames := 2, cells := 1, slots := 4, locals := 54 } : Room)) (fun a U => a = #[(.ref a1), (.int p2)] ∧ Z.Warmed39 U.vm ∧ U.heap = h0) (fun _ _ _ _ _ => True) (fun _ U o U' => ∃ v L, o = .returned v ∧ Q6 Z a1 p2 n gv h0 n0 v U'.heap L ∧ FrameEnd U o U' L ({ frames := 2, cells := 1, slots := 4, locals := 54 } : Room).cells ({ frames := 2, cells := 1, slots := 4, locals := 54 } : Room).slots) := by
  refine MetFree.of_bodySF (plainFor_of_name pn_6) hisR ?_
  intro p e s m args below meth cd s₁ Bd hml0 hP hK
  obtain ⟨rfl, hZ, hh⟩ := hP
  have hx := Bd.exec
  have hby := Bd.bytes
  have hml : cd.maxLocals = 3 := hml0
  have hown : s.vm.findClass "java/util/Arrays" = some m.cls := findClass_of_methodNamed Bd.named
  have hnm := (name_of_methodNamed Bd.named Bd.method).1
  have X0 : Stand p l e ({ frames := 2, cells := 1, slots := 4, locals := 54 } : Room) s m #[(.ref a1), (.int p2)] below meth cd s₁ [] 0 0 := Stand.of_body Bd
  have e0 : s₁.heap = h0 := by rw [← hh, Bd.state]; rfl
  have N0 := Fr.nil n0
  show own_R p.tables e below _ (s₁.setTop (entryFrame m #[(.ref a1), (.int p2)] 3))
  refine own_by (fun t kZ => castTop (ef_6 m a1 p2) kZ) ?_
  show own_R p.tables e below _ (s₁.setTop (mkF m 0 #[.val (.ref a1), .val (.int p2), .unset] []))
  subst hp2
  show own_R p.tables e below _ (s₁.setTop (mkF m 0 #[.val (.ref a1), .val (.int (Int32.ofNat n)), .unset] []))
  refine own_by (fun _ kZ => XS.iloadN X0.here hx rfl (hb hby d6_0) rfl kZ) ?_
  show own_R p.tables e below _ (s₁.setTop (mkF m 1 #[.val (.ref a1), .val (.int (Int32.ofNat n)), .unset] [(.int (Int32.ofNat n))]))
  refine own_by (fun _ kZ => XS.aloadN X0.here hx rfl (hb hby d6_1) rfl rfl kZ) ?_
  show own_R p.tables e below _ (s₁.setTop (mkF m 2 #[.val (.ref a1), .val (.int (Int32.ofNat n)), .unset] [(.ref a1), (.int (Int32.ofNat n))]))
  obtain ⟨cl94, Ar94, hln94⟩ := V.ln
  refine own_by (fun _ kZ => X0.arraylength hx (by rw [e0]; exact Ar94.1) (State.isArrayOf_alike hZ.alike Ar94.2.1) (g := (mkF m 2 #[.val (.ref a1), .val (.int (Int32.ofNat n)), .unset] [(.ref a1), (.int (Int32.ofNat n))])) rfl rfl (hb hby d6_2) _ kZ) ?_
  rw [hln94]
  show own_R p.tables e below _ (s₁.setTop (mkF m 3 #[.val (.ref a1), .val (.int (Int32.ofNat n)), .unset] [(.int (Int32.ofNat 4)), (.int (Int32.ofNat n))]))
  by_cases hc : (Int32.ofNat n) = (Int32.ofNat 4)
  · skip
    refine own_by (fun _ kZ => XS.icmpNo X0.here hx rfl (hb hby d6_3) rfl (teq hc).2 kZ) ?_
    show own_R p.tables e below _ (s₁.setTop (mkF m 6 #[.val (.ref a1), .val (.int (Int32.ofNat n)), .unset] []))
    have hn4 : n = 4 := (own_inj (by omega) (by omega)).mp hc
    refine own_by (fun _ kZ => XS.aloadN X0.here hx rfl (hb hby d6_6) rfl rfl kZ) ?_
    show own_R p.tables e below _ (s₁.setTop (mkF m 7 #[.val (.ref a1), .val (.int (Int32.ofNat n)), .unset] [(.ref a1)]))
    obtain ⟨cl, Ar, Sz, hlt, Hg⟩ := V
    obtain ⟨T95, h95, X95, e95, E95, A95, Ex95, st95⟩ := cloneA X0 hx hZ hown (hw _ (List.mem_of_getElem? (i := 64) rfl)) (hw _ (List.mem_of_getElem? (i := 65) rfl)) (hw _ (List.mem_of_getElem? (i := 69) rfl)) (hw _ (List.mem_of_getElem? (i := 67) rfl)) (hw _ (List.mem_of_getElem? (i := 68) rfl)) (hw _ (List.mem_of_getElem? (i := 70) rfl)) e0 Ar Ex (own_fitc Ar Sz Hg) (g := (mkF m 7 #[.val (.ref a1), .val (.int (Int32.ofNat n)), .unset] [(.ref a1)])) rfl (by rw [hml]; rfl) rfl (hb hby d6_7) (by decide) (W := 0) (by show 2 * 0 + _ ≤ _; exact Nat.le_of_eq rfl) (by decide) (cap := 4) (Nat.le_of_eq Sz) (by decide) (by decide)
    have Vn : own_K .int Z h95 h0.size .int 4 gv := ⟨_, A95, Sz, hlt, Hg⟩
    refine own_by st95 ?_
    show own_R p.tables e below _ (T95.setTop (mkF m 10 #[.val (.ref a1), .val (.int (Int32.ofNat n)), .unset] [(.ref h0.size)]))
    obtain ⟨T96, X96, e96, st96⟩ := castY X95 hx hZ hown (hw _ (List.mem_of_getElem? (i := 71) rfl)) e95 (Ins.self Ex95) (g := (mkF m 10 #[.val (.ref a1), .val (.int (Int32.ofNat n)), .unset] [(.ref h0.size)])) rfl rfl (hb hby d6_10)
    refine own_by st96 ?_
    show own_R p.tables e below _ (T96.setTop (mkF m 13 #[.val (.ref a1), .val (.int (Int32.ofNat n)), .unset] [(.ref h0.size)]))
    obtain ⟨fs, hr, hrun, hended, hW, hsame⟩ := X96.leave (v := some (.ref h0.size)) (fun h => by rw [Bd.returns] at h; cases h)
    refine own_end ⟨_, _, ?_, hrun, hended, _, _, rfl, ?_, ⟨_, rfl⟩, hW, hsame.mono (by decide) (by decide)⟩
    · exact own_retA X96 hx Bd.returns rfl (hb hby d6_13) hr
    · show Q6 Z a1 (Int32.ofNat n) n gv h0 n0 _ T96.heap _
      rw [e96]
      exact ⟨rfl, N0, (Keep.refl h0 []).ext E95, hn4 ▸ Vn⟩
  · skip
    refine own_by (fun _ kZ => XS.icmpYes X0.here hx rfl (pc0 := 3) (pc' := 14) rfl (hb hby d6_3) rfl (feq hc).2 (by decide) (by decide) kZ) ?_
    show own_R p.tables e below _ (s₁.setTop (mkF m 14 #[.val (.ref a1), .val (.int (Int32.ofNat n)), .unset] []))
    refine own_by (fun _ kZ => XS.iloadN X0.here hx rfl (hb hby d6_14) rfl kZ) ?_
    show own_R p.tables e below _ (s₁.setTop (mkF m 15 #[.val (.ref a1), .val (.int (Int32.ofNat n)), .unset] [(.int (Int32.ofNat n))]))
    obtain ⟨T97, h97, k97, X97, e97, E97, A97, st97⟩ := newP X0 hx hZ (hw _ (List.mem_of_getElem? (i := 11) rfl)) e0 (g := (mkF m 15 #[.val (.ref a1), .val (.int (Int32.ofNat n)), .unset] [(.int (Int32.ofNat n))])) rfl (hb hby d6_15) rfl (own_nn (by omega)) (cap := 4) (by rw [own_clamp (by omega)]; exact hn) (by decide) (by decide) (by decide)
    obtain ⟨r, g97⟩ : ∃ z, z = h0.size := ⟨_, rfl⟩
    have ne_a1_r : a1 ≠ r := Nat.ne_of_lt (Nat.lt_of_lt_of_le V.lt (Nat.le_of_eq g97.symm))
    have ge_r : n0 ≤ r := Nat.le_trans Z0 (Nat.le_of_eq g97.symm)
    have sz_r : h0.size ≤ r := Nat.le_trans (Keep.refl h0 []).1 (Nat.le_of_eq g97.symm)
    rw [← g97] at A97 st97
    have f98_a1 : own_K .int Z h97 a1 .int 4 gv := V.ext E97
    have f99_a1 : Exa Z h97 a1 "[I" := Ex.ext E97
    have Z100 : n0 ≤ h97.size := Nat.le_trans Z0 E97.1
    have K100 : Keep h0 h97 [] := (Keep.refl h0 []).ext E97
    have V97 : own_K .int Z h97 r .int n (fun _ => (0 : Int32)) := own_K.new A97 (own_nn (by omega)) (own_clamp (by omega)) rfl
    refine own_by st97 ?_
    show own_R p.tables e below _ (T97.setTop (mkF m 17 #[.val (.ref a1), .val (.int (Int32.ofNat n)), .unset] [(.ref r)]))
    refine own_by (fun _ kZ => XS.astoreN X97.here hx rfl (hb hby d6_17) rfl rfl (l' := #[.val (.ref a1), .val (.int (Int32.ofNat n)), .val (.ref r)]) rfl kZ) ?_
    show own_R p.tables e below _ (T97.setTop (mkF m 18 #[.val (.ref a1), .val (.int (Int32.ofNat n)), .val (.ref r)] []))
    refine own_by (fun _ kZ => XS.aloadN X97.here hx rfl (hb hby d6_18) rfl rfl kZ) ?_
    show own_R p.tables e below _ (T97.setTop (mkF m 19 #[.val (.ref a1), .val (.int (Int32.ofNat n)), .val (.ref r)] [(.ref a1)]))
    refine own_by (fun _ kZ => XS.iconst X97.here hx rfl (hb hby d6_19) kZ) ?_
    show own_R p.tables e below _ (T97.setTop (mkF m 20 #[.val (.ref a1), .val (.int (Int32.ofNat n)), .val (.ref r)] [(.int (0 : Int32)), (.ref a1)]))
    refine own_by (fun _ kZ => XS.aloadN X97.here hx rfl (hb hby d6_20) rfl rfl kZ) ?_
    show own_R p.tables e below _ (T97.setTop (mkF m 21 #[.val (.ref a1), .val (.int (Int32.ofNat n)), .val (.ref r)] [(.ref r), (.int (0 : Int32)), (.ref a1)]))
    refine own_by (fun _ kZ => XS.iconst X97.here hx rfl (hb hby d6_21) kZ) ?_
    show own_R p.tables e below _ (T97.setTop (mkF m 22 #[.val (.ref a1), .val (.int (Int32.ofNat n)), .val (.ref r)] [(.int (0 : Int32)), (.ref r), (.int (0 : Int32)), (.ref a1)]))
    refine own_by (fun _ kZ => XS.aloadN X97.here hx rfl (hb hby d6_22) rfl rfl kZ) ?_
    show own_R p.tables e below _ (T97.setTop (mkF m 23 #[.val (.ref a1), .val (.int (Int32.ofNat n)), .val (.ref r)] [(.ref a1), (.int (0 : Int32)), (.ref r), (.int (0 : Int32)), (.ref a1)]))
    obtain ⟨cl101, Ar101, hln101⟩ := f98_a1.ln
    refine own_by (fun _ kZ => X97.arraylength hx (by rw [e97]; exact Ar101.1) (State.isArrayOf_alike hZ.alike Ar101.2.1) (g := (mkF m 23 #[.val (.ref a1), .val (.int (Int32.ofNat n)), .val (.ref r)] [(.ref a1), (.int (0 : Int32)), (.ref r), (.int (0 : Int32)), (.ref a1)])) rfl rfl (hb hby d6_23) _ kZ) ?_
    rw [hln101]
    show own_R p.tables e below _ (T97.setTop (mkF m 24 #[.val (.ref a1), .val (.int (Int32.ofNat n)), .val (.ref r)] [(.int (Int32.ofNat 4)), (.int (0 : Int32)), (.ref r), (.int (0 : Int32)), (.ref a1)]))
    refine own_by (fun _ kZ => XS.iloadN X97.here hx rfl (hb hby d6_24) rfl kZ) ?_
    show own_R p.tables e below _ (T97.setTop (mkF m 25 #[.val (.ref a1), .val (.int (Int32.ofNat n)), .val (.ref r)] [(.int (Int32.ofNat n)), (.int (Int32.ofNat 4)), (.int (0 : Int32)), (.ref r), (.int (0 : Int32)), (.ref a1)]))
    obtain ⟨_, _, ⟨T102, L102, k102, n102⟩, -, X102, ⟨Lc102, hQ102, l102, y102, z102⟩, st102⟩ := Jvm.LawKit.callS X97 hx (y := (⟨"java/lang/Math", "min", "(II)I"⟩ : MethodName)) hown (mvT hZ (hw _ (List.mem_of_getElem? (i := 39) rfl))) (mvT hZ (hw _ (List.mem_of_getElem? (i := 40) rfl))) (mvT hZ (hw _ (List.mem_of_getElem? (i := 41) rfl))) (mvT hZ (hw _ (List.mem_of_getElem? (i := 42) rfl))) (by decide) (backOf (W := 4) (rm7 l Z a0 hw [] (Int32.ofNat 4) (Int32.ofNat n) h97 n0 Z100) hZ (hw _ (List.mem_of_getElem? (i := 42) rfl)) (hw _ (List.mem_of_getElem? (i := 41) rfl)) (by decide) (by decide)) (g := (mkF m 25 #[.val (.ref a1), .val (.int (Int32.ofNat n)), .val (.ref r)] [(.int (Int32.ofNat n)), (.int (Int32.ofNat 4)), (.int (0 : Int32)), (.ref r), (.int (0 : Int32)), (.ref a1)])) rfl (by rw [hml]; rfl) (argsL := [(.int (Int32.ofNat 4)), (.int (Int32.ofNat n))]) (rest := [(.int (0 : Int32)), (.ref r), (.int (0 : Int32)), (.ref a1)]) (lenOf own_pd0 rfl) rfl (by show 2 * 0 + _ ≤ _; exact Nat.le_of_eq rfl) (hb hby d6_25) (fun _ _ => ⟨rfl, e97, (by decide : 1 + 0 ≤ _), (by decide : 4 + 0 ≤ _)⟩)
    dsimp only [Pt.U, Pt.locs, Pt.cells, Pt.slots] at X102 l102 y102 z102 st102 hQ102
    subst l102 y102 z102
    obtain ⟨rfl, Nq102, e102⟩ := hQ102
    have N102 := Fr.app N0 Nq102
    refine own_by st102 ?_
    show own_R p.tables e below _ (T102.setTop (mkF m 28 #[.val (.ref a1), .val (.int (Int32.ofNat n)), .val (.ref r)] [(.int (own_mi (Int32.ofNat 4) (Int32.ofNat n))), (.int (0 : Int32)), (.ref r), (.int (0 : Int32)), (.ref a1)]))
    rw [show (own_mi (Int32.ofNat 4) (Int32.ofNat n)) = (Int32.ofNat n) from own_mi4 hn]
    show own_R p.tables e below _ (T102.setTop (mkF m 28 #[.val (.ref a1), .val (.int (Int32.ofNat n)), .val (.ref r)] [(.int (Int32.ofNat n)), (.int (0 : Int32)), (.ref r), (.int (0 : Int32)), (.ref a1)]))
    obtain ⟨ka, Av⟩ := own_toArv f98_a1
    obtain ⟨kb, Bv⟩ := own_toArv V97
    obtain ⟨T103, h103, L103, X103, e103, N103, K103, V103, st103⟩ := cpA X102 hx hZ hown (hw _ (List.mem_of_getElem? (i := 43) rfl)) (hw _ (List.mem_of_getElem? (i := 46) rfl)) (hw _ (List.mem_of_getElem? (i := 44) rfl)) (hw _ (List.mem_of_getElem? (i := 45) rfl)) e102 Av Bv (sp := (0 : Int32)) (dp := (0 : Int32)) (nn := Int32.ofNat n) (Or.inl ⟨rfl, rfl⟩) (by decide) (by decide) (own_nn (by omega)) (by rw [own_clamp (by omega), own_clamp (by omega)]; show 0 + n ≤ 4; omega) (by show 0 + _ ≤ _; omega) rfl (by rw [own_clamp (by omega)]; simp) N102 ge_r (g := (mkF m 28 #[.val (.ref a1), .val (.int (Int32.ofNat n)), .val (.ref r)] [(.int (Int32.ofNat n)), (.int (0 : Int32)), (.ref r), (.int (0 : Int32)), (.ref a1)])) rfl (by rw [hml]; rfl) rfl (hb hby d6_28) (by decide) (W := 0) (by show 2 * 0 + _ ≤ _; exact Nat.le_of_eq rfl) (by decide)
    have Vr : own_K .int Z h103 r .int n gv := own_ofArv (by omega) V103 (fun j hj => own_cpd gv _ hn j hj)
    have Kr : Keep h0 h103 [] := K100.trans K103 (allS (Or.inr sz_r) all0)
    refine own_by st103 ?_
    show own_R p.tables e below _ (T103.setTop (mkF m 31 #[.val (.ref a1), .val (.int (Int32.ofNat n)), .val (.ref r)] []))
    refine own_by (fun _ kZ => XS.aloadN X103.here hx rfl (hb hby d6_31) rfl rfl kZ) ?_
    show own_R p.tables e below _ (T103.setTop (mkF m 32 #[.val (.ref a1), .val (.int (Int32.ofNat n)), .val (.ref r)] [(.ref r)]))
    subst g97
    show own_R p.tables e below _ (T103.setTop (mkF m 32 #[.val (.ref a1), .val (.int (Int32.ofNat n)), .val (.ref h0.size)] [(.ref h0.size)]))
    obtain ⟨fs, hr, hrun, hended, hW, hsame⟩ := X103.leave (v := some (.ref h0.size)) (fun h => by rw [Bd.returns] at h; cases h)
    refine own_end ⟨_, _, ?_, hrun, hended, _, _, rfl, ?_, ⟨_, rfl⟩, hW, hsame.mono (by decide) (by decide)⟩
    · exact own_retA X103 hx Bd.returns rfl (hb hby d6_32) hr
    · show Q6 Z a1 (Int32.ofNat n) n gv h0 n0 _ T103.heap _
      rw [e103]
      exact ⟨rfl, N103, Kr, Vr⟩
set_option maxRecDepth 65536 in
set_option maxHeartbeats 40000000 in
theorem lpI {p : Program} {l : Launch} {e : Env} {R : Room} {s : State} {m : MethodId} {args : Array Value} {below : List Frame} {meth : Method} {cd : Code} {A : State → Outcome → Prop} {Z : State} {a0 : Array Value} {h0 : Heap} {n0 : Nat} (hx : p.tables.exec = Jvm.exec) (hZ : Z.Warmed39 s.vm) (hw : ∀ d ∈ tables_1, d.before a0 Z = true) (hby : cd.code = jdk_2529_method_6_code) (hml : cd.maxLocals = 6) (hown : s.vm.findClass "java/util/DualPivotQuicksort" = some m.cls) (a1 : Addr) (n t : Nat) (x : Int32) (hn : n ≤ 4) (ge1 : n0 ≤ a1) :
    ∀ (j : Nat) (gg : Nat → Int32) (hj : j < n) {T : State} {locs : List Loc} {cells slots : Nat} {h : Heap} (X0 : Stand p l e R s m args below meth cd T locs cells slots) (e0 : T.heap = h) (N0 : Fr n0 locs) (Z0 : n0 ≤ h.size) (K0 : Keep h0 h [a1]) (V : own_K .int Z h a1 .int n gg)
      (cont : ∀ {T' : State} {locs' : List Loc} {h' : Heap} (r3 : Int32) (_ : Stand p l e R s m args below meth cd T' locs' cells slots) (_ : T'.heap = h') (_ : Fr n0 locs') (_ : n0 ≤ h'.size) (_ : Keep h0 h' [a1]) (_ : own_K .int Z h' a1 .int n (own_insv j gg x)), own_R p.tables e below A (T'.setTop (mkF m 64 #[.val (.ref a1), .val (.int (0 : Int32)), .val (.int (Int32.ofNat n)), .val (.int r3), .val (.int (Int32.ofNat t)), .val (.int x)] []))), own_R p.tables e below A (T.setTop (mkF m 30 #[.val (.ref a1), .val (.int (0 : Int32)), .val (.int (Int32.ofNat n)), .val (.int (Int32.ofNat j)), .val (.int (Int32.ofNat t)), .val (.int x)] [])) := by
  intro j
  induction j with
  | zero =>
    intro gg hj T locs cells slots h X0 e0 N0 Z0 K0 V cont
    show own_R p.tables e below _ (T.setTop (mkF m 30 #[.val (.ref a1), .val (.int (0 : Int32)), .val (.int (Int32.ofNat n)), .val (.int (Int32.ofNat 0)), .val (.int (Int32.ofNat t)), .val (.int x)] []))
    refine own_by (fun _ kZ => XS.iinc X0.here hx rfl (hb hby d11_30) rfl (l' := #[.val (.ref a1), .val (.int (0 : Int32)), .val (.int (Int32.ofNat n)), .val (.int ((Int32.ofNat 0) + (-1 : Int32))), .val (.int (Int32.ofNat t)), .val (.int x)]) rfl kZ) ?_
    show own_R p.tables e below _ (T.setTop (mkF m 33 #[.val (.ref a1), .val (.int (0 : Int32)), .val (.int (Int32.ofNat n)), .val (.int ((Int32.ofNat 0) + (-1 : Int32))), .val (.int (Int32.ofNat t)), .val (.int x)] []))
    refine own_by (fun _ kZ => XS.iloadN X0.here hx rfl (hb hby d11_33) rfl kZ) ?_
    show own_R p.tables e below _ (T.setTop (mkF m 34 #[.val (.ref a1), .val (.int (0 : Int32)), .val (.int (Int32.ofNat n)), .val (.int ((Int32.ofNat 0) + (-1 : Int32))), .val (.int (Int32.ofNat t)), .val (.int x)] [(.int ((Int32.ofNat 0) + (-1 : Int32)))]))
    refine own_by (fun _ kZ => XS.iloadN X0.here hx rfl (hb hby d11_34) rfl kZ) ?_
    show own_R p.tables e below _ (T.setTop (mkF m 35 #[.val (.ref a1), .val (.int (0 : Int32)), .val (.int (Int32.ofNat n)), .val (.int ((Int32.ofNat 0) + (-1 : Int32))), .val (.int (Int32.ofNat t)), .val (.int x)] [(.int (0 : Int32)), (.int ((Int32.ofNat 0) + (-1 : Int32)))]))
    refine own_by (fun _ kZ => XS.icmpYes X0.here hx rfl (pc0 := 35) (pc' := 57) rfl (hb hby d11_35) rfl (tlt (by decide : ((Int32.ofNat 0) + (-1 : Int32)) < (0 : Int32))).1 (by decide) (by decide) kZ) ?_
    show own_R p.tables e below _ (T.setTop (mkF m 57 #[.val (.ref a1), .val (.int (0 : Int32)), .val (.int (Int32.ofNat n)), .val (.int ((Int32.ofNat 0) + (-1 : Int32))), .val (.int (Int32.ofNat t)), .val (.int x)] []))
    refine own_by (fun _ kZ => XS.aloadN X0.here hx rfl (hb hby d11_57) rfl rfl kZ) ?_
    show own_R p.tables e below _ (T.setTop (mkF m 58 #[.val (.ref a1), .val (.int (0 : Int32)), .val (.int (Int32.ofNat n)), .val (.int ((Int32.ofNat 0) + (-1 : Int32))), .val (.int (Int32.ofNat t)), .val (.int x)] [(.ref a1)]))
    refine own_by (fun _ kZ => XS.iloadN X0.here hx rfl (hb hby d11_58) rfl kZ) ?_
    show own_R p.tables e below _ (T.setTop (mkF m 59 #[.val (.ref a1), .val (.int (0 : Int32)), .val (.int (Int32.ofNat n)), .val (.int ((Int32.ofNat 0) + (-1 : Int32))), .val (.int (Int32.ofNat t)), .val (.int x)] [(.int ((Int32.ofNat 0) + (-1 : Int32))), (.ref a1)]))
    refine own_by (fun _ kZ => XS.iconst X0.here hx rfl (hb hby d11_59) kZ) ?_
    show own_R p.tables e below _ (T.setTop (mkF m 60 #[.val (.ref a1), .val (.int (0 : Int32)), .val (.int (Int32.ofNat n)), .val (.int ((Int32.ofNat 0) + (-1 : Int32))), .val (.int (Int32.ofNat t)), .val (.int x)] [(.int (1 : Int32)), (.int ((Int32.ofNat 0) + (-1 : Int32))), (.ref a1)]))
    refine own_by (fun _ kZ => XS.iadd X0.here hx rfl (hb hby d11_60) rfl kZ) ?_
    show own_R p.tables e below _ (T.setTop (mkF m 61 #[.val (.ref a1), .val (.int (0 : Int32)), .val (.int (Int32.ofNat n)), .val (.int ((Int32.ofNat 0) + (-1 : Int32))), .val (.int (Int32.ofNat t)), .val (.int x)] [(.int (((Int32.ofNat 0) + (-1 : Int32)) + (1 : Int32))), (.ref a1)]))
    rw [show (((Int32.ofNat 0) + (-1 : Int32)) + (1 : Int32)) = (Int32.ofNat 0) from by decide]
    show own_R p.tables e below _ (T.setTop (mkF m 61 #[.val (.ref a1), .val (.int (0 : Int32)), .val (.int (Int32.ofNat n)), .val (.int ((Int32.ofNat 0) + (-1 : Int32))), .val (.int (Int32.ofNat t)), .val (.int x)] [(.int (Int32.ofNat 0)), (.ref a1)]))
    refine own_by (fun _ kZ => XS.iload X0.here hx rfl (hb hby d11_61) rfl kZ) ?_
    show own_R p.tables e below _ (T.setTop (mkF m 63 #[.val (.ref a1), .val (.int (0 : Int32)), .val (.int (Int32.ofNat n)), .val (.int ((Int32.ofNat 0) + (-1 : Int32))), .val (.int (Int32.ofNat t)), .val (.int x)] [(.int x), (.int (Int32.ofNat 0)), (.ref a1)]))
    obtain ⟨cl104, Ar104, hin104, -⟩ := V.rd (i := (Int32.ofNat 0)) (p := 0) (own_clamp (by omega)) (own_nn (by omega)) (by omega)
    obtain ⟨T105, h105, X105, e105, W105, st105⟩ := stI X0 hx hZ e0 Ar104 (j := (Int32.ofNat 0)) hin104 (g := (mkF m 63 #[.val (.ref a1), .val (.int (0 : Int32)), .val (.int (Int32.ofNat n)), .val (.int ((Int32.ofNat 0) + (-1 : Int32))), .val (.int (Int32.ofNat t)), .val (.int x)] [(.int x), (.int (Int32.ofNat 0)), (.ref a1)])) rfl rfl (hb hby d11_63)
    have Z106 : n0 ≤ h105.size := Nat.le_trans Z0 (Keep.of_wr W105).1
    have K106 : Keep h0 h105 [a1] := K0.wr W105 (Or.inl (List.mem_of_getElem? (i := 0) rfl))
    have N106 := Fr.snoc X105 N0 ge1
    have V105 : own_K .int Z h105 a1 .int n (own_uk gg 0 x) := V.set (i := (Int32.ofNat 0)) (p := 0) (own_clamp (by omega)) W105
    refine own_by st105 ?_
    show own_R p.tables e below _ (T105.setTop (mkF m 64 #[.val (.ref a1), .val (.int (0 : Int32)), .val (.int (Int32.ofNat n)), .val (.int ((Int32.ofNat 0) + (-1 : Int32))), .val (.int (Int32.ofNat t)), .val (.int x)] []))
    exact cont _ X105 e105 N106 Z106 K106 V105
  | succ i ih =>
    intro gg hj T locs cells slots h X0 e0 N0 Z0 K0 V cont
    show own_R p.tables e below _ (T.setTop (mkF m 30 #[.val (.ref a1), .val (.int (0 : Int32)), .val (.int (Int32.ofNat n)), .val (.int (Int32.ofNat (i + 1))), .val (.int (Int32.ofNat t)), .val (.int x)] []))
    refine own_by (fun _ kZ => XS.iinc X0.here hx rfl (hb hby d11_30) rfl (l' := #[.val (.ref a1), .val (.int (0 : Int32)), .val (.int (Int32.ofNat n)), .val (.int ((Int32.ofNat (i + 1)) + (-1 : Int32))), .val (.int (Int32.ofNat t)), .val (.int x)]) rfl kZ) ?_
    show own_R p.tables e below _ (T.setTop (mkF m 33 #[.val (.ref a1), .val (.int (0 : Int32)), .val (.int (Int32.ofNat n)), .val (.int ((Int32.ofNat (i + 1)) + (-1 : Int32))), .val (.int (Int32.ofNat t)), .val (.int x)] []))
    rw [show ((Int32.ofNat (i + 1)) + (-1 : Int32)) = (Int32.ofNat i) from (Int32.sub_eq_add_neg _ _).symm.trans (own_sub1 i)]
    show own_R p.tables e below _ (T.setTop (mkF m 33 #[.val (.ref a1), .val (.int (0 : Int32)), .val (.int (Int32.ofNat n)), .val (.int (Int32.ofNat i)), .val (.int (Int32.ofNat t)), .val (.int x)] []))
    refine own_by (fun _ kZ => XS.iloadN X0.here hx rfl (hb hby d11_33) rfl kZ) ?_
    show own_R p.tables e below _ (T.setTop (mkF m 34 #[.val (.ref a1), .val (.int (0 : Int32)), .val (.int (Int32.ofNat n)), .val (.int (Int32.ofNat i)), .val (.int (Int32.ofNat t)), .val (.int x)] [(.int (Int32.ofNat i))]))
    refine own_by (fun _ kZ => XS.iloadN X0.here hx rfl (hb hby d11_34) rfl kZ) ?_
    show own_R p.tables e below _ (T.setTop (mkF m 35 #[.val (.ref a1), .val (.int (0 : Int32)), .val (.int (Int32.ofNat n)), .val (.int (Int32.ofNat i)), .val (.int (Int32.ofNat t)), .val (.int x)] [(.int (0 : Int32)), (.int (Int32.ofNat i))]))
    refine own_by (fun _ kZ => XS.icmpNo X0.here hx rfl (hb hby d11_35) rfl (flt (own_nn (by omega) : ¬ Int32.ofNat i < 0)).1 kZ) ?_
    show own_R p.tables e below _ (T.setTop (mkF m 38 #[.val (.ref a1), .val (.int (0 : Int32)), .val (.int (Int32.ofNat n)), .val (.int (Int32.ofNat i)), .val (.int (Int32.ofNat t)), .val (.int x)] []))
    refine own_by (fun _ kZ => XS.iload X0.here hx rfl (hb hby d11_38) rfl kZ) ?_
    show own_R p.tables e below _ (T.setTop (mkF m 40 #[.val (.ref a1), .val (.int (0 : Int32)), .val (.int (Int32.ofNat n)), .val (.int (Int32.ofNat i)), .val (.int (Int32.ofNat t)), .val (.int x)] [(.int x)]))
    refine own_by (fun _ kZ => XS.aloadN X0.here hx rfl (hb hby d11_40) rfl rfl kZ) ?_
    show own_R p.tables e below _ (T.setTop (mkF m 41 #[.val (.ref a1), .val (.int (0 : Int32)), .val (.int (Int32.ofNat n)), .val (.int (Int32.ofNat i)), .val (.int (Int32.ofNat t)), .val (.int x)] [(.ref a1), (.int x)]))
    refine own_by (fun _ kZ => XS.iloadN X0.here hx rfl (hb hby d11_41) rfl kZ) ?_
    show own_R p.tables e below _ (T.setTop (mkF m 42 #[.val (.ref a1), .val (.int (0 : Int32)), .val (.int (Int32.ofNat n)), .val (.int (Int32.ofNat i)), .val (.int (Int32.ofNat t)), .val (.int x)] [(.int (Int32.ofNat i)), (.ref a1), (.int x)]))
    obtain ⟨cl107, Ar107, hin107, hat107⟩ := V.rd (i := (Int32.ofNat i)) (p := i) (own_clamp (by omega)) (own_nn (by omega)) (by omega)
    refine own_by (fun _ kZ => X0.iaload hx (j := (Int32.ofNat i)) (v := (.int (gg i))) (by rw [e0]; exact Ar107.1) (State.isArrayOf_alike hZ.alike Ar107.2.1) Ar107.2.2 hin107 hat107 (g := (mkF m 42 #[.val (.ref a1), .val (.int (0 : Int32)), .val (.int (Int32.ofNat n)), .val (.int (Int32.ofNat i)), .val (.int (Int32.ofNat t)), .val (.int x)] [(.int (Int32.ofNat i)), (.ref a1), (.int x)])) rfl rfl (hb hby d11_42) _ kZ) ?_
    show own_R p.tables e below _ (T.setTop (mkF m 43 #[.val (.ref a1), .val (.int (0 : Int32)), .val (.int (Int32.ofNat n)), .val (.int (Int32.ofNat i)), .val (.int (Int32.ofNat t)), .val (.int x)] [(.int (gg i)), (.int x)]))
    by_cases hc : x < (gg i)
    · skip
      refine own_by (fun _ kZ => XS.icmpNo X0.here hx rfl (hb hby d11_43) rfl (tlt hc).2.1 kZ) ?_
      show own_R p.tables e below _ (T.setTop (mkF m 46 #[.val (.ref a1), .val (.int (0 : Int32)), .val (.int (Int32.ofNat n)), .val (.int (Int32.ofNat i)), .val (.int (Int32.ofNat t)), .val (.int x)] []))
      refine own_by (fun _ kZ => XS.aloadN X0.here hx rfl (hb hby d11_46) rfl rfl kZ) ?_
      show own_R p.tables e below _ (T.setTop (mkF m 47 #[.val (.ref a1), .val (.int (0 : Int32)), .val (.int (Int32.ofNat n)), .val (.int (Int32.ofNat i)), .val (.int (Int32.ofNat t)), .val (.int x)] [(.ref a1)]))
      refine own_by (fun _ kZ => XS.iloadN X0.here hx rfl (hb hby d11_47) rfl kZ) ?_
      show own_R p.tables e below _ (T.setTop (mkF m 48 #[.val (.ref a1), .val (.int (0 : Int32)), .val (.int (Int32.ofNat n)), .val (.int (Int32.ofNat i)), .val (.int (Int32.ofNat t)), .val (.int x)] [(.int (Int32.ofNat i)), (.ref a1)]))
      refine own_by (fun _ kZ => XS.iconst X0.here hx rfl (hb hby d11_48) kZ) ?_
      show own_R p.tables e below _ (T.setTop (mkF m 49 #[.val (.ref a1), .val (.int (0 : Int32)), .val (.int (Int32.ofNat n)), .val (.int (Int32.ofNat i)), .val (.int (Int32.ofNat t)), .val (.int x)] [(.int (1 : Int32)), (.int (Int32.ofNat i)), (.ref a1)]))
      refine own_by (fun _ kZ => XS.iadd X0.here hx rfl (hb hby d11_49) rfl kZ) ?_
      show own_R p.tables e below _ (T.setTop (mkF m 50 #[.val (.ref a1), .val (.int (0 : Int32)), .val (.int (Int32.ofNat n)), .val (.int (Int32.ofNat i)), .val (.int (Int32.ofNat t)), .val (.int x)] [(.int ((Int32.ofNat i) + (1 : Int32))), (.ref a1)]))
      rw [show ((Int32.ofNat i) + (1 : Int32)) = (Int32.ofNat (i + 1)) from own_add1 i]
      show own_R p.tables e below _ (T.setTop (mkF m 50 #[.val (.ref a1), .val (.int (0 : Int32)), .val (.int (Int32.ofNat n)), .val (.int (Int32.ofNat i)), .val (.int (Int32.ofNat t)), .val (.int x)] [(.int (Int32.ofNat (i + 1))), (.ref a1)]))
      refine own_by (fun _ kZ => XS.aloadN X0.here hx rfl (hb hby d11_50) rfl rfl kZ) ?_
      show own_R p.tables e below _ (T.setTop (mkF m 51 #[.val (.ref a1), .val (.int (0 : Int32)), .val (.int (Int32.ofNat n)), .val (.int (Int32.ofNat i)), .val (.int (Int32.ofNat t)), .val (.int x)] [(.ref a1), (.int (Int32.ofNat (i + 1))), (.ref a1)]))
      refine own_by (fun _ kZ => XS.iloadN X0.here hx rfl (hb hby d11_51) rfl kZ) ?_
      show own_R p.tables e below _ (T.setTop (mkF m 52 #[.val (.ref a1), .val (.int (0 : Int32)), .val (.int (Int32.ofNat n)), .val (.int (Int32.ofNat i)), .val (.int (Int32.ofNat t)), .val (.int x)] [(.int (Int32.ofNat i)), (.ref a1), (.int (Int32.ofNat (i + 1))), (.ref a1)]))
      obtain ⟨cl108, Ar108, hin108, hat108⟩ := V.rd (i := (Int32.ofNat i)) (p := i) (own_clamp (by omega)) (own_nn (by omega)) (by omega)
      refine own_by (fun _ kZ => X0.iaload hx (j := (Int32.ofNat i)) (v := (.int (gg i))) (by rw [e0]; exact Ar108.1) (State.isArrayOf_alike hZ.alike Ar108.2.1) Ar108.2.2 hin108 hat108 (g := (mkF m 52 #[.val (.ref a1), .val (.int (0 : Int32)), .val (.int (Int32.ofNat n)), .val (.int (Int32.ofNat i)), .val (.int (Int32.ofNat t)), .val (.int x)] [(.int (Int32.ofNat i)), (.ref a1), (.int (Int32.ofNat (i + 1))), (.ref a1)])) rfl rfl (hb hby d11_52) _ kZ) ?_
      show own_R p.tables e below _ (T.setTop (mkF m 53 #[.val (.ref a1), .val (.int (0 : Int32)), .val (.int (Int32.ofNat n)), .val (.int (Int32.ofNat i)), .val (.int (Int32.ofNat t)), .val (.int x)] [(.int (gg i)), (.int (Int32.ofNat (i + 1))), (.ref a1)]))
      obtain ⟨cl109, Ar109, hin109, -⟩ := V.rd (i := (Int32.ofNat (i + 1))) (p := (i + 1)) (own_clamp (by omega)) (own_nn (by omega)) (by omega)
      obtain ⟨T110, h110, X110, e110, W110, st110⟩ := stI X0 hx hZ e0 Ar109 (j := (Int32.ofNat (i + 1))) hin109 (g := (mkF m 53 #[.val (.ref a1), .val (.int (0 : Int32)), .val (.int (Int32.ofNat n)), .val (.int (Int32.ofNat i)), .val (.int (Int32.ofNat t)), .val (.int x)] [(.int (gg i)), (.int (Int32.ofNat (i + 1))), (.ref a1)])) rfl rfl (hb hby d11_53)
      have Z111 : n0 ≤ h110.size := Nat.le_trans Z0 (Keep.of_wr W110).1
      have K111 : Keep h0 h110 [a1] := K0.wr W110 (Or.inl (List.mem_of_getElem? (i := 0) rfl))
      have N111 := Fr.snoc X110 N0 ge1
      have V110 : own_K .int Z h110 a1 .int n (own_uk gg (i + 1) (gg i)) := V.set (i := (Int32.ofNat (i + 1))) (p := (i + 1)) (own_clamp (by omega)) W110
      refine own_by st110 ?_
      show own_R p.tables e below _ (T110.setTop (mkF m 54 #[.val (.ref a1), .val (.int (0 : Int32)), .val (.int (Int32.ofNat n)), .val (.int (Int32.ofNat i)), .val (.int (Int32.ofNat t)), .val (.int x)] []))
      refine own_by (fun _ kZ => XS.goto X110.here hx rfl (pc0 := 54) (pc' := 30) rfl (hb hby d11_54) (by decide) (by decide) kZ) ?_
      show own_R p.tables e below _ (T110.setTop (mkF m 30 #[.val (.ref a1), .val (.int (0 : Int32)), .val (.int (Int32.ofNat n)), .val (.int (Int32.ofNat i)), .val (.int (Int32.ofNat t)), .val (.int x)] []))
      refine ih _ (by omega) X110 e110 N111 Z111 K111 V110 ?_
      intro T' locs' h' r3 X' e' N' Z' K' V'
      exact cont r3 X' e' N' Z' K' (by rw [own_insv, if_pos hc]; exact V')
    · skip
      refine own_by (fun _ kZ => XS.icmpYes X0.here hx rfl (pc0 := 43) (pc' := 57) rfl (hb hby d11_43) rfl (flt hc).2.1 (by decide) (by decide) kZ) ?_
      show own_R p.tables e below _ (T.setTop (mkF m 57 #[.val (.ref a1), .val (.int (0 : Int32)), .val (.int (Int32.ofNat n)), .val (.int (Int32.ofNat i)), .val (.int (Int32.ofNat t)), .val (.int x)] []))
      refine own_by (fun _ kZ => XS.aloadN X0.here hx rfl (hb hby d11_57) rfl rfl kZ) ?_
      show own_R p.tables e below _ (T.setTop (mkF m 58 #[.val (.ref a1), .val (.int (0 : Int32)), .val (.int (Int32.ofNat n)), .val (.int (Int32.ofNat i)), .val (.int (Int32.ofNat t)), .val (.int x)] [(.ref a1)]))
      refine own_by (fun _ kZ => XS.iloadN X0.here hx rfl (hb hby d11_58) rfl kZ) ?_
      show own_R p.tables e below _ (T.setTop (mkF m 59 #[.val (.ref a1), .val (.int (0 : Int32)), .val (.int (Int32.ofNat n)), .val (.int (Int32.ofNat i)), .val (.int (Int32.ofNat t)), .val (.int x)] [(.int (Int32.ofNat i)), (.ref a1)]))
      refine own_by (fun _ kZ => XS.iconst X0.here hx rfl (hb hby d11_59) kZ) ?_
      show own_R p.tables e below _ (T.setTop (mkF m 60 #[.val (.ref a1), .val (.int (0 : Int32)), .val (.int (Int32.ofNat n)), .val (.int (Int32.ofNat i)), .val (.int (Int32.ofNat t)), .val (.int x)] [(.int (1 : Int32)), (.int (Int32.ofNat i)), (.ref a1)]))
      refine own_by (fun _ kZ => XS.iadd X0.here hx rfl (hb hby d11_60) rfl kZ) ?_
      show own_R p.tables e below _ (T.setTop (mkF m 61 #[.val (.ref a1), .val (.int (0 : Int32)), .val (.int (Int32.ofNat n)), .val (.int (Int32.ofNat i)), .val (.int (Int32.ofNat t)), .val (.int x)] [(.int ((Int32.ofNat i) + (1 : Int32))), (.ref a1)]))
      rw [show ((Int32.ofNat i) + (1 : Int32)) = (Int32.ofNat (i + 1)) from own_add1 i]
      show own_R p.tables e below _ (T.setTop (mkF m 61 #[.val (.ref a1), .val (.int (0 : Int32)), .val (.int (Int32.ofNat n)), .val (.int (Int32.ofNat i)), .val (.int (Int32.ofNat t)), .val (.int x)] [(.int (Int32.ofNat (i + 1))), (.ref a1)]))
      refine own_by (fun _ kZ => XS.iload X0.here hx rfl (hb hby d11_61) rfl kZ) ?_
      show own_R p.tables e below _ (T.setTop (mkF m 63 #[.val (.ref a1), .val (.int (0 : Int32)), .val (.int (Int32.ofNat n)), .val (.int (Int32.ofNat i)), .val (.int (Int32.ofNat t)), .val (.int x)] [(.int x), (.int (Int32.ofNat (i + 1))), (.ref a1)]))
      obtain ⟨cl112, Ar112, hin112, -⟩ := V.rd (i := (Int32.ofNat (i + 1))) (p := (i + 1)) (own_clamp (by omega)) (own_nn (by omega)) (by omega)
      obtain ⟨T113, h113, X113, e113, W113, st113⟩ := stI X0 hx hZ e0 Ar112 (j := (Int32.ofNat (i + 1))) hin112 (g := (mkF m 63 #[.val (.ref a1), .val (.int (0 : Int32)), .val (.int (Int32.ofNat n)), .val (.int (Int32.ofNat i)), .val (.int (Int32.ofNat t)), .val (.int x)] [(.int x), (.int (Int32.ofNat (i + 1))), (.ref a1)])) rfl rfl (hb hby d11_63)
      have Z114 : n0 ≤ h113.size := Nat.le_trans Z0 (Keep.of_wr W113).1
      have K114 : Keep h0 h113 [a1] := K0.wr W113 (Or.inl (List.mem_of_getElem? (i := 0) rfl))
      have N114 := Fr.snoc X113 N0 ge1
      have V113 : own_K .int Z h113 a1 .int n (own_uk gg (i + 1) x) := V.set (i := (Int32.ofNat (i + 1))) (p := (i + 1)) (own_clamp (by omega)) W113
      refine own_by st113 ?_
      show own_R p.tables e below _ (T113.setTop (mkF m 64 #[.val (.ref a1), .val (.int (0 : Int32)), .val (.int (Int32.ofNat n)), .val (.int (Int32.ofNat i)), .val (.int (Int32.ofNat t)), .val (.int x)] []))
      exact cont _ X113 e113 N114 Z114 K114 (by rw [own_insv, if_neg hc]; exact V113)
set_option maxRecDepth 65536 in
set_option maxHeartbeats 40000000 in
theorem lpJ {p : Program} {l : Launch} {e : Env} {R : Room} {s : State} {m : MethodId} {args : Array Value} {below : List Frame} {meth : Method} {cd : Code} {A : State → Outcome → Prop} {Z : State} {a0 : Array Value} {h0 : Heap} {n0 : Nat} (hx : p.tables.exec = Jvm.exec) (hZ : Z.Warmed39 s.vm) (hw : ∀ d ∈ tables_1, d.before a0 Z = true) (hby : cd.code = jdk_2529_method_6_code) (hml : cd.maxLocals = 6) (hown : s.vm.findClass "java/util/DualPivotQuicksort" = some m.cls) (a1 : Addr) (n : Nat) (hn : n ≤ 4) (ge1 : n0 ≤ a1) :
    ∀ (k t : Nat) (gg : Nat → Int32) (s3 s5 : Slot) (hk : k = n - (t + 1)) (ht : t ≤ 4) (hs3 : One s3) (hs5 : One s5) {T : State} {locs : List Loc} {cells slots : Nat} {h : Heap} (X0 : Stand p l e R s m args below meth cd T locs cells slots) (e0 : T.heap = h) (N0 : Fr n0 locs) (Z0 : n0 ≤ h.size) (K0 : Keep h0 h [a1]) (V : own_K .int Z h a1 .int n gg)
      (cont : ∀ {T' : State} {locs' : List Loc} {h' : Heap} (t' : Int32) (s3' s5' : Slot) (_ : Stand p l e R s m args below meth cd T' locs' cells slots) (_ : T'.heap = h') (_ : Fr n0 locs') (_ : n0 ≤ h'.size) (_ : Keep h0 h' [a1]) (_ : own_K .int Z h' a1 .int n (own_os k t gg)), own_R p.tables e below A (T'.setTop (mkF m 67 #[.val (.ref a1), .val (.int (0 : Int32)), .val (.int (Int32.ofNat n)), s3', .val (.int t'), s5'] []))), own_R p.tables e below A (T.setTop (mkF m 3 #[.val (.ref a1), .val (.int (0 : Int32)), .val (.int (Int32.ofNat n)), s3, .val (.int (Int32.ofNat t)), s5] [])) := by
  intro k
  induction k with
  | zero =>
    intro t gg s3 s5 hk ht hs3 hs5 T locs cells slots h X0 e0 N0 Z0 K0 V cont
    show own_R p.tables e below _ (T.setTop (mkF m 3 #[.val (.ref a1), .val (.int (0 : Int32)), .val (.int (Int32.ofNat n)), s3, .val (.int (Int32.ofNat t)), s5] []))
    refine own_by (fun _ kZ => XS.iinc X0.here hx rfl (hb hby d11_3) rfl (l' := #[.val (.ref a1), .val (.int (0 : Int32)), .val (.int (Int32.ofNat n)), s3, .val (.int ((Int32.ofNat t) + (1 : Int32))), s5]) rfl kZ) ?_
    show own_R p.tables e below _ (T.setTop (mkF m 6 #[.val (.ref a1), .val (.int (0 : Int32)), .val (.int (Int32.ofNat n)), s3, .val (.int ((Int32.ofNat t) + (1 : Int32))), s5] []))
    rw [show ((Int32.ofNat t) + (1 : Int32)) = (Int32.ofNat (t + 1)) from own_add1 t]
    show own_R p.tables e below _ (T.setTop (mkF m 6 #[.val (.ref a1), .val (.int (0 : Int32)), .val (.int (Int32.ofNat n)), s3, .val (.int (Int32.ofNat (t + 1))), s5] []))
    refine own_by (fun _ kZ => XS.iload X0.here hx rfl (hb hby d11_6) rfl kZ) ?_
    show own_R p.tables e below _ (T.setTop (mkF m 8 #[.val (.ref a1), .val (.int (0 : Int32)), .val (.int (Int32.ofNat n)), s3, .val (.int (Int32.ofNat (t + 1))), s5] [(.int (Int32.ofNat (t + 1)))]))
    refine own_by (fun _ kZ => XS.iloadN X0.here hx rfl (hb hby d11_8) rfl kZ) ?_
    show own_R p.tables e below _ (T.setTop (mkF m 9 #[.val (.ref a1), .val (.int (0 : Int32)), .val (.int (Int32.ofNat n)), s3, .val (.int (Int32.ofNat (t + 1))), s5] [(.int (Int32.ofNat n)), (.int (Int32.ofNat (t + 1)))]))
    refine own_by (fun _ kZ => XS.icmpYes X0.here hx rfl (pc0 := 9) (pc' := 67) rfl (hb hby d11_9) rfl (flt (by rw [own_ltI (by omega) (by omega)]; omega : ¬ Int32.ofNat (t + 1) < Int32.ofNat n)).2.1 (by decide) (by decide) kZ) ?_
    show own_R p.tables e below _ (T.setTop (mkF m 67 #[.val (.ref a1), .val (.int (0 : Int32)), .val (.int (Int32.ofNat n)), s3, .val (.int (Int32.ofNat (t + 1))), s5] []))
    exact cont _ _ _ X0 e0 N0 Z0 K0 V
  | succ k ih =>
    intro t gg s3 s5 hk ht hs3 hs5 T locs cells slots h X0 e0 N0 Z0 K0 V cont
    show own_R p.tables e below _ (T.setTop (mkF m 3 #[.val (.ref a1), .val (.int (0 : Int32)), .val (.int (Int32.ofNat n)), s3, .val (.int (Int32.ofNat t)), s5] []))
    refine own_by (fun _ kZ => XS.iinc X0.here hx rfl (hb hby d11_3) rfl (l' := #[.val (.ref a1), .val (.int (0 : Int32)), .val (.int (Int32.ofNat n)), s3, .val (.int ((Int32.ofNat t) + (1 : Int32))), s5]) rfl kZ) ?_
    show own_R p.tables e below _ (T.setTop (mkF m 6 #[.val (.ref a1), .val (.int (0 : Int32)), .val (.int (Int32.ofNat n)), s3, .val (.int ((Int32.ofNat t) + (1 : Int32))), s5] []))
    rw [show ((Int32.ofNat t) + (1 : Int32)) = (Int32.ofNat (t + 1)) from own_add1 t]
    show own_R p.tables e below _ (T.setTop (mkF m 6 #[.val (.ref a1), .val (.int (0 : Int32)), .val (.int (Int32.ofNat n)), s3, .val (.int (Int32.ofNat (t + 1))), s5] []))
    refine own_by (fun _ kZ => XS.iload X0.here hx rfl (hb hby d11_6) rfl kZ) ?_
    show own_R p.tables e below _ (T.setTop (mkF m 8 #[.val (.ref a1), .val (.int (0 : Int32)), .val (.int (Int32.ofNat n)), s3, .val (.int (Int32.ofNat (t + 1))), s5] [(.int (Int32.ofNat (t + 1)))]))
    refine own_by (fun _ kZ => XS.iloadN X0.here hx rfl (hb hby d11_8) rfl kZ) ?_
    show own_R p.tables e below _ (T.setTop (mkF m 9 #[.val (.ref a1), .val (.int (0 : Int32)), .val (.int (Int32.ofNat n)), s3, .val (.int (Int32.ofNat (t + 1))), s5] [(.int (Int32.ofNat n)), (.int (Int32.ofNat (t + 1)))]))
    refine own_by (fun _ kZ => XS.icmpNo X0.here hx rfl (hb hby d11_9) rfl (tlt ((own_ltI (by omega) (by omega)).mpr (by omega) : Int32.ofNat (t + 1) < Int32.ofNat n)).2.1 kZ) ?_
    show own_R p.tables e below _ (T.setTop (mkF m 12 #[.val (.ref a1), .val (.int (0 : Int32)), .val (.int (Int32.ofNat n)), s3, .val (.int (Int32.ofNat (t + 1))), s5] []))
    refine own_by (fun _ kZ => XS.aloadN X0.here hx rfl (hb hby d11_12) rfl rfl kZ) ?_
    show own_R p.tables e below _ (T.setTop (mkF m 13 #[.val (.ref a1), .val (.int (0 : Int32)), .val (.int (Int32.ofNat n)), s3, .val (.int (Int32.ofNat (t + 1))), s5] [(.ref a1)]))
    refine own_by (fun _ kZ => XS.iload X0.here hx rfl (hb hby d11_13) rfl kZ) ?_
    show own_R p.tables e below _ (T.setTop (mkF m 15 #[.val (.ref a1), .val (.int (0 : Int32)), .val (.int (Int32.ofNat n)), s3, .val (.int (Int32.ofNat (t + 1))), s5] [(.int (Int32.ofNat (t + 1))), (.ref a1)]))
    refine own_by (fun _ kZ => XS.dup X0.here hx rfl (hb hby d11_15) rfl rfl kZ) ?_
    show own_R p.tables e below _ (T.setTop (mkF m 16 #[.val (.ref a1), .val (.int (0 : Int32)), .val (.int (Int32.ofNat n)), s3, .val (.int (Int32.ofNat (t + 1))), s5] [(.int (Int32.ofNat (t + 1))), (.int (Int32.ofNat (t + 1))), (.ref a1)]))
    refine own_by (fun _ kZ => XS.istoreN X0.here hx rfl (hb hby d11_16) rfl (l' := #[.val (.ref a1), .val (.int (0 : Int32)), .val (.int (Int32.ofNat n)), .val (.int (Int32.ofNat (t + 1))), .val (.int (Int32.ofNat (t + 1))), s5]) (own_os3 hs3) kZ) ?_
    show own_R p.tables e below _ (T.setTop (mkF m 17 #[.val (.ref a1), .val (.int (0 : Int32)), .val (.int (Int32.ofNat n)), .val (.int (Int32.ofNat (t + 1))), .val (.int (Int32.ofNat (t + 1))), s5] [(.int (Int32.ofNat (t + 1))), (.ref a1)]))
    obtain ⟨cl115, Ar115, hin115, hat115⟩ := V.rd (i := (Int32.ofNat (t + 1))) (p := (t + 1)) (own_clamp (by omega)) (own_nn (by omega)) (by omega)
    refine own_by (fun _ kZ => X0.iaload hx (j := (Int32.ofNat (t + 1))) (v := (.int (gg (t + 1)))) (by rw [e0]; exact Ar115.1) (State.isArrayOf_alike hZ.alike Ar115.2.1) Ar115.2.2 hin115 hat115 (g := (mkF m 17 #[.val (.ref a1), .val (.int (0 : Int32)), .val (.int (Int32.ofNat n)), .val (.int (Int32.ofNat (t + 1))), .val (.int (Int32.ofNat (t + 1))), s5] [(.int (Int32.ofNat (t + 1))), (.ref a1)])) rfl rfl (hb hby d11_17) _ kZ) ?_
    show own_R p.tables e below _ (T.setTop (mkF m 18 #[.val (.ref a1), .val (.int (0 : Int32)), .val (.int (Int32.ofNat n)), .val (.int (Int32.ofNat (t + 1))), .val (.int (Int32.ofNat (t + 1))), s5] [(.int (gg (t + 1)))]))
    refine own_by (fun _ kZ => XS.istore X0.here hx rfl (hb hby d11_18) rfl (l' := #[.val (.ref a1), .val (.int (0 : Int32)), .val (.int (Int32.ofNat n)), .val (.int (Int32.ofNat (t + 1))), .val (.int (Int32.ofNat (t + 1))), .val (.int (gg (t + 1)))]) (own_os5 hs5) kZ) ?_
    show own_R p.tables e below _ (T.setTop (mkF m 20 #[.val (.ref a1), .val (.int (0 : Int32)), .val (.int (Int32.ofNat n)), .val (.int (Int32.ofNat (t + 1))), .val (.int (Int32.ofNat (t + 1))), .val (.int (gg (t + 1)))] []))
    refine own_by (fun _ kZ => XS.iload X0.here hx rfl (hb hby d11_20) rfl kZ) ?_
    show own_R p.tables e below _ (T.setTop (mkF m 22 #[.val (.ref a1), .val (.int (0 : Int32)), .val (.int (Int32.ofNat n)), .val (.int (Int32.ofNat (t + 1))), .val (.int (Int32.ofNat (t + 1))), .val (.int (gg (t + 1)))] [(.int (gg (t + 1)))]))
    refine own_by (fun _ kZ => XS.aloadN X0.here hx rfl (hb hby d11_22) rfl rfl kZ) ?_
    show own_R p.tables e below _ (T.setTop (mkF m 23 #[.val (.ref a1), .val (.int (0 : Int32)), .val (.int (Int32.ofNat n)), .val (.int (Int32.ofNat (t + 1))), .val (.int (Int32.ofNat (t + 1))), .val (.int (gg (t + 1)))] [(.ref a1), (.int (gg (t + 1)))]))
    refine own_by (fun _ kZ => XS.iloadN X0.here hx rfl (hb hby d11_23) rfl kZ) ?_
    show own_R p.tables e below _ (T.setTop (mkF m 24 #[.val (.ref a1), .val (.int (0 : Int32)), .val (.int (Int32.ofNat n)), .val (.int (Int32.ofNat (t + 1))), .val (.int (Int32.ofNat (t + 1))), .val (.int (gg (t + 1)))] [(.int (Int32.ofNat (t + 1))), (.ref a1), (.int (gg (t + 1)))]))
    refine own_by (fun _ kZ => XS.iconst X0.here hx rfl (hb hby d11_24) kZ) ?_
    show own_R p.tables e below _ (T.setTop (mkF m 25 #[.val (.ref a1), .val (.int (0 : Int32)), .val (.int (Int32.ofNat n)), .val (.int (Int32.ofNat (t + 1))), .val (.int (Int32.ofNat (t + 1))), .val (.int (gg (t + 1)))] [(.int (1 : Int32)), (.int (Int32.ofNat (t + 1))), (.ref a1), (.int (gg (t + 1)))]))
    refine own_by (fun _ kZ => XS.isub X0.here hx rfl (hb hby d11_25) rfl kZ) ?_
    show own_R p.tables e below _ (T.setTop (mkF m 26 #[.val (.ref a1), .val (.int (0 : Int32)), .val (.int (Int32.ofNat n)), .val (.int (Int32.ofNat (t + 1))), .val (.int (Int32.ofNat (t + 1))), .val (.int (gg (t + 1)))] [(.int ((Int32.ofNat (t + 1)) - (1 : Int32))), (.ref a1), (.int (gg (t + 1)))]))
    rw [show ((Int32.ofNat (t + 1)) - (1 : Int32)) = (Int32.ofNat t) from own_sub1 t]
    show own_R p.tables e below _ (T.setTop (mkF m 26 #[.val (.ref a1), .val (.int (0 : Int32)), .val (.int (Int32.ofNat n)), .val (.int (Int32.ofNat (t + 1))), .val (.int (Int32.ofNat (t + 1))), .val (.int (gg (t + 1)))] [(.int (Int32.ofNat t)), (.ref a1), (.int (gg (t + 1)))]))
    obtain ⟨cl116, Ar116, hin116, hat116⟩ := V.rd (i := (Int32.ofNat t)) (p := t) (own_clamp (by omega)) (own_nn (by omega)) (by omega)
    refine own_by (fun _ kZ => X0.iaload hx (j := (Int32.ofNat t)) (v := (.int (gg t))) (by rw [e0]; exact Ar116.1) (State.isArrayOf_alike hZ.alike Ar116.2.1) Ar116.2.2 hin116 hat116 (g := (mkF m 26 #[.val (.ref a1), .val (.int (0 : Int32)), .val (.int (Int32.ofNat n)), .val (.int (Int32.ofNat (t + 1))), .val (.int (Int32.ofNat (t + 1))), .val (.int (gg (t + 1)))] [(.int (Int32.ofNat t)), (.ref a1), (.int (gg (t + 1)))])) rfl rfl (hb hby d11_26) _ kZ) ?_
    show own_R p.tables e below _ (T.setTop (mkF m 27 #[.val (.ref a1), .val (.int (0 : Int32)), .val (.int (Int32.ofNat n)), .val (.int (Int32.ofNat (t + 1))), .val (.int (Int32.ofNat (t + 1))), .val (.int (gg (t + 1)))] [(.int (gg t)), (.int (gg (t + 1)))]))
    by_cases hc : (gg (t + 1)) < (gg t)
    · skip
      refine own_by (fun _ kZ => XS.icmpNo X0.here hx rfl (hb hby d11_27) rfl (tlt hc).2.1 kZ) ?_
      show own_R p.tables e below _ (T.setTop (mkF m 30 #[.val (.ref a1), .val (.int (0 : Int32)), .val (.int (Int32.ofNat n)), .val (.int (Int32.ofNat (t + 1))), .val (.int (Int32.ofNat (t + 1))), .val (.int (gg (t + 1)))] []))
      refine lpI hx hZ hw hby hml hown a1 n (t + 1) (gg (t + 1)) hn ge1 (t + 1) gg (by omega) X0 e0 N0 Z0 K0 V ?_
      intro T7 locs7 h7 r7 X7 e7 N7 Z7 K7 V7
      show own_R p.tables e below _ (T7.setTop (mkF m 64 #[.val (.ref a1), .val (.int (0 : Int32)), .val (.int (Int32.ofNat n)), .val (.int r7), .val (.int (Int32.ofNat (t + 1))), .val (.int (gg (t + 1)))] []))
      refine own_by (fun _ kZ => XS.goto X7.here hx rfl (pc0 := 64) (pc' := 3) rfl (hb hby d11_64) (by decide) (by decide) kZ) ?_
      show own_R p.tables e below _ (T7.setTop (mkF m 3 #[.val (.ref a1), .val (.int (0 : Int32)), .val (.int (Int32.ofNat n)), .val (.int r7), .val (.int (Int32.ofNat (t + 1))), .val (.int (gg (t + 1)))] []))
      exact ih (t + 1) _ _ _ (by omega) (by omega) (One.val rfl) (One.val rfl) X7 e7 N7 Z7 K7 ((own_turnlt gg t hc) ▸ V7) cont
    · skip
      refine own_by (fun _ kZ => XS.icmpYes X0.here hx rfl (pc0 := 27) (pc' := 64) rfl (hb hby d11_27) rfl (flt hc).2.1 (by decide) (by decide) kZ) ?_
      show own_R p.tables e below _ (T.setTop (mkF m 64 #[.val (.ref a1), .val (.int (0 : Int32)), .val (.int (Int32.ofNat n)), .val (.int (Int32.ofNat (t + 1))), .val (.int (Int32.ofNat (t + 1))), .val (.int (gg (t + 1)))] []))
      refine own_by (fun _ kZ => XS.goto X0.here hx rfl (pc0 := 64) (pc' := 3) rfl (hb hby d11_64) (by decide) (by decide) kZ) ?_
      show own_R p.tables e below _ (T.setTop (mkF m 3 #[.val (.ref a1), .val (.int (0 : Int32)), .val (.int (Int32.ofNat n)), .val (.int (Int32.ofNat (t + 1))), .val (.int (Int32.ofNat (t + 1))), .val (.int (gg (t + 1)))] []))
      exact ih (t + 1) _ _ _ (by omega) (by omega) (One.val rfl) (One.val rfl) X0 e0 N0 Z0 K0 ((own_turnge gg t hc) ▸ V) cont
theorem ef_11 (m : MethodId) (a1 : Addr) (p2 : Int32) (p3 : Int32) : entryFrame m #[(.ref a1), (.int p2), (.int p3)] 6 = mkF m 0 #[.val (.ref a1), .val (.int p2), .val (.int p3), .unset, .unset, .unset] [] := by first | (simp [entryFrame, mkF, argsToLocals, Value.category]; done) | rfl
def Q11 (Z : State) (a1 : Addr) (p2 : Int32) (p3 : Int32) (n : Nat) (gg : Nat → Int32) (h0 : Heap) (n0 : Nat) (v : Option Value) (h : Heap) (L : List Loc) : Prop := v = none ∧ Fr n0 L ∧ Keep h0 h [a1] ∧ own_K .int Z h a1 .int n (own_os (n - 1) 0 gg)
set_option maxRecDepth 65536 in
set_option maxHeartbeats 40000000 in
theorem rm11 (l : Launch) (Z : State) (a0 : Array Value) (hw : ∀ d ∈ tables_1, d.before a0 Z = true) (ws : List Jvm.Cond) (a1 : Addr) (p2 : Int32) (p3 : Int32) (n : Nat) (gg : Nat → Int32) (h0 : Heap) (n0 : Nat) (Z0 : n0 ≤ h0.size) (hp2 : p2 = (0 : Int32)) (hp3 : p3 = Int32.ofNat n) (hn : n ≤ 4) (ge1 : n0 ≤ a1) (V : own_K .int Z h0 a1 .int n gg) :
    MetFree l (⟨"java/util/DualPivotQuicksort", "insertionSort", "([III)V"⟩ : MethodName) (head1 (Jvm.Cond.code (⟨"java/util/DualPivotQuicksort", "insertionSort", "([III)V"⟩ : MethodName) jdk_2529_method_6_code 6 none :: ws) ({ frames := 0, cells := 0, slots := 0, locals := 0 } : Room)) (fun a U => a = #[(.ref a1), (.int p2), (.int p3)] ∧ Z.Warmed39 U.vm ∧ U.heap = h0) (fun _ _ _ _ _ => True) (fun _ U o U' => ∃ v L, o = .returned v ∧ Q11 Z a1 p2 p3 n gg h0 n0 v U'.heap L ∧ FrameEnd U o U' L ({ frames := 0, cells := 0, slots := 0, locals := 0 } : Room).cells ({ frames := 0, cells := 0, slots := 0, locals := 0 } : Room).slots) := by
  refine MetFree.of_bodySF (plainFor_of_name pn_11) hisR ?_
  intro p e s m args below meth cd s₁ Bd hml0 hP hK
  obtain ⟨rfl, hZ, hh⟩ := hP
  have hx := Bd.exec
  have hby := Bd.bytes
  have hml : cd.maxLocals = 6 := hml0
  have hown : s.vm.findClass "java/util/DualPivotQuicksort" = some m.cls := findClass_of_methodNamed Bd.named
  have hnm := (name_of_methodNamed Bd.named Bd.method).1
  have X0 : Stand p l e ({ frames := 0, cells := 0, slots := 0, locals := 0 } : Room) s m #[(.ref a1), (.int p2), (.int p3)] below meth cd s₁ [] 0 0 := Stand.of_body Bd
  have e0 : s₁.heap = h0 := by rw [← hh, Bd.state]; rfl
  have N0 := Fr.nil n0
  show own_R p.tables e below _ (s₁.setTop (entryFrame m #[(.ref a1), (.int p2), (.int p3)] 6))
  refine own_by (fun t kZ => castTop (ef_11 m a1 p2 p3) kZ) ?_
  show own_R p.tables e below _ (s₁.setTop (mkF m 0 #[.val (.ref a1), .val (.int p2), .val (.int p3), .unset, .unset, .unset] []))
  subst hp2 hp3
  show own_R p.tables e below _ (s₁.setTop (mkF m 0 #[.val (.ref a1), .val (.int (0 : Int32)), .val (.int (Int32.ofNat n)), .unset, .unset, .unset] []))
  refine own_by (fun _ kZ => XS.iloadN X0.here hx rfl (hb hby d11_0) rfl kZ) ?_
  show own_R p.tables e below _ (s₁.setTop (mkF m 1 #[.val (.ref a1), .val (.int (0 : Int32)), .val (.int (Int32.ofNat n)), .unset, .unset, .unset] [(.int (0 : Int32))]))
  refine own_by (fun _ kZ => XS.istore X0.here hx rfl (hb hby d11_1) rfl (l' := #[.val (.ref a1), .val (.int (0 : Int32)), .val (.int (Int32.ofNat n)), .unset, .val (.int (0 : Int32)), .unset]) rfl kZ) ?_
  show own_R p.tables e below _ (s₁.setTop (mkF m 3 #[.val (.ref a1), .val (.int (0 : Int32)), .val (.int (Int32.ofNat n)), .unset, .val (.int (0 : Int32)), .unset] []))
  show own_R p.tables e below _ (s₁.setTop (mkF m 3 #[.val (.ref a1), .val (.int (0 : Int32)), .val (.int (Int32.ofNat n)), .unset, .val (.int (Int32.ofNat 0)), .unset] []))
  refine lpJ hx hZ hw hby hml hown a1 n hn ge1 (n - 1) 0 gg .unset .unset rfl (by omega) One.u One.u X0 e0 N0 Z0 (Keep.refl h0 [a1]) V ?_
  intro T9 locs9 h9 t9 s39 s59 X9 e9 N9 Z9 K9 V9
  show own_R p.tables e below _ (T9.setTop (mkF m 67 #[.val (.ref a1), .val (.int (0 : Int32)), .val (.int (Int32.ofNat n)), s39, .val (.int t9), s59] []))
  obtain ⟨fs, hr, hrun, hended, hW, hsame⟩ := X9.leave (v := none) (fun _ => rfl)
  refine own_end ⟨_, _, ?_, hrun, hended, _, _, rfl, ?_, ⟨_, rfl⟩, hW, hsame.mono (by decide) (by decide)⟩
  · exact X9.returnOut hx Bd.returns (hb hby d11_67) hr
  · show Q11 Z a1 (0 : Int32) (Int32.ofNat n) n gg h0 n0 _ T9.heap _
    rw [e9]
    exact ⟨rfl, N9, K9, V9⟩
theorem ef_10 (m : MethodId) (a2 : Addr) (p3 : Int32) (p4 : Int32) (p5 : Int32) : entryFrame m #[.null, (.ref a2), (.int p3), (.int p4), (.int p5)] 21 = mkF m 0 #[.val .null, .val (.ref a2), .val (.int p3), .val (.int p4), .val (.int p5), .unset, .unset, .unset, .unset, .unset, .unset, .unset, .unset, .unset, .unset, .unset, .unset, .unset, .unset, .unset, .unset] [] := by first | (simp [entryFrame, mkF, argsToLocals, Value.category]; done) | rfl
def Q10 (Z : State) (a2 : Addr) (p3 : Int32) (p4 : Int32) (p5 : Int32) (n : Nat) (gg : Nat → Int32) (h0 : Heap) (n0 : Nat) (v : Option Value) (h : Heap) (L : List Loc) : Prop := v = none ∧ Fr n0 L ∧ Keep h0 h [a2] ∧ own_K .int Z h a2 .int n (own_os (n - 1) 0 gg)
set_option maxRecDepth 65536 in
set_option maxHeartbeats 40000000 in
theorem rm10 (l : Launch) (Z : State) (a0 : Array Value) (hw : ∀ d ∈ tables_1, d.before a0 Z = true) (ws : List Jvm.Cond) (a2 : Addr) (p3 : Int32) (p4 : Int32) (p5 : Int32) (n : Nat) (gg : Nat → Int32) (h0 : Heap) (n0 : Nat) (Z0 : n0 ≤ h0.size) (hp3 : p3 = (0 : Int32)) (hp4 : p4 = (0 : Int32)) (hp5 : p5 = Int32.ofNat n) (hn : n ≤ 4) (ge1 : n0 ≤ a2) (V : own_K .int Z h0 a2 .int n gg) :
    MetFree l (⟨"java/util/DualPivotQuicksort", "sort", "(Ljava/util/DualPivotQuicksort$Sorter;[IIII)V"⟩ : MethodName) (head1 (Jvm.Cond.code (⟨"java/util/DualPivotQuicksort", "sort", "(Ljava/util/DualPivotQuicksort$Sorter;[IIII)V"⟩ : MethodName) jdk_2529_method_4_code 21 none :: ws) ({ frames := 1, cells := 0, slots := 0, locals := 17 } : Room)) (fun a U => a = #[.null, (.ref a2), (.int p3), (.int p4), (.int p5)] ∧ Z.Warmed39 U.vm ∧ U.heap = h0) (fun _ _ _ _ _ => True) (fun _ U o U' => ∃ v L, o = .returned v ∧ Q10 Z a2 p3 p4 p5 n gg h0 n0 v U'.heap L ∧ FrameEnd U o U' L ({ frames := 1, cells := 0, slots := 0, locals := 17 } : Room).cells ({ frames := 1, cells := 0, slots := 0, locals := 17 } : Room).slots) := by
  refine MetFree.of_bodySF (plainFor_of_name pn_10) hisR ?_
  intro p e s m args below meth cd s₁ Bd hml0 hP hK
  obtain ⟨rfl, hZ, hh⟩ := hP
  have hx := Bd.exec
  have hby := Bd.bytes
  have hml : cd.maxLocals = 21 := hml0
  have hown : s.vm.findClass "java/util/DualPivotQuicksort" = some m.cls := findClass_of_methodNamed Bd.named
  have hnm := (name_of_methodNamed Bd.named Bd.method).1
  have X0 : Stand p l e ({ frames := 1, cells := 0, slots := 0, locals := 17 } : Room) s m #[.null, (.ref a2), (.int p3), (.int p4), (.int p5)] below meth cd s₁ [] 0 0 := Stand.of_body Bd
  have e0 : s₁.heap = h0 := by rw [← hh, Bd.state]; rfl
  have N0 := Fr.nil n0
  show own_R p.tables e below _ (s₁.setTop (entryFrame m #[.null, (.ref a2), (.int p3), (.int p4), (.int p5)] 21))
  refine own_by (fun t kZ => castTop (ef_10 m a2 p3 p4 p5) kZ) ?_
  show own_R p.tables e below _ (s₁.setTop (mkF m 0 #[.val .null, .val (.ref a2), .val (.int p3), .val (.int p4), .val (.int p5), .unset, .unset, .unset, .unset, .unset, .unset, .unset, .unset, .unset, .unset, .unset, .unset, .unset, .unset, .unset, .unset] []))
  subst hp3 hp4 hp5
  show own_R p.tables e below _ (s₁.setTop (mkF m 0 #[.val .null, .val (.ref a2), .val (.int (0 : Int32)), .val (.int (0 : Int32)), .val (.int (Int32.ofNat n)), .unset, .unset, .unset, .unset, .unset, .unset, .unset, .unset, .unset, .unset, .unset, .unset, .unset, .unset, .unset, .unset] []))
  refine own_by (fun _ kZ => XS.iload X0.here hx rfl (hb hby d10_0) rfl kZ) ?_
  show own_R p.tables e below _ (s₁.setTop (mkF m 2 #[.val .null, .val (.ref a2), .val (.int (0 : Int32)), .val (.int (0 : Int32)), .val (.int (Int32.ofNat n)), .unset, .unset, .unset, .unset, .unset, .unset, .unset, .unset, .unset, .unset, .unset, .unset, .unset, .unset, .unset, .unset] [(.int (Int32.ofNat n))]))
  refine own_by (fun _ kZ => XS.iconst X0.here hx rfl (hb hby d10_2) kZ) ?_
  show own_R p.tables e below _ (s₁.setTop (mkF m 3 #[.val .null, .val (.ref a2), .val (.int (0 : Int32)), .val (.int (0 : Int32)), .val (.int (Int32.ofNat n)), .unset, .unset, .unset, .unset, .unset, .unset, .unset, .unset, .unset, .unset, .unset, .unset, .unset, .unset, .unset, .unset] [(.int (1 : Int32)), (.int (Int32.ofNat n))]))
  refine own_by (fun _ kZ => XS.isub X0.here hx rfl (hb hby d10_3) rfl kZ) ?_
  show own_R p.tables e below _ (s₁.setTop (mkF m 4 #[.val .null, .val (.ref a2), .val (.int (0 : Int32)), .val (.int (0 : Int32)), .val (.int (Int32.ofNat n)), .unset, .unset, .unset, .unset, .unset, .unset, .unset, .unset, .unset, .unset, .unset, .unset, .unset, .unset, .unset, .unset] [(.int ((Int32.ofNat n) - (1 : Int32)))]))
  refine own_by (fun _ kZ => XS.istore X0.here hx rfl (hb hby d10_4) rfl (l' := #[.val .null, .val (.ref a2), .val (.int (0 : Int32)), .val (.int (0 : Int32)), .val (.int (Int32.ofNat n)), .val (.int ((Int32.ofNat n) - (1 : Int32))), .unset, .unset, .unset, .unset, .unset, .unset, .unset, .unset, .unset, .unset, .unset, .unset, .unset, .unset, .unset]) rfl kZ) ?_
  show own_R p.tables e below _ (s₁.setTop (mkF m 6 #[.val .null, .val (.ref a2), .val (.int (0 : Int32)), .val (.int (0 : Int32)), .val (.int (Int32.ofNat n)), .val (.int ((Int32.ofNat n) - (1 : Int32))), .unset, .unset, .unset, .unset, .unset, .unset, .unset, .unset, .unset, .unset, .unset, .unset, .unset, .unset, .unset] []))
  refine own_by (fun _ kZ => XS.iload X0.here hx rfl (hb hby d10_6) rfl kZ) ?_
  show own_R p.tables e below _ (s₁.setTop (mkF m 8 #[.val .null, .val (.ref a2), .val (.int (0 : Int32)), .val (.int (0 : Int32)), .val (.int (Int32.ofNat n)), .val (.int ((Int32.ofNat n) - (1 : Int32))), .unset, .unset, .unset, .unset, .unset, .unset, .unset, .unset, .unset, .unset, .unset, .unset, .unset, .unset, .unset] [(.int (Int32.ofNat n))]))
  refine own_by (fun _ kZ => XS.iloadN X0.here hx rfl (hb hby d10_8) rfl kZ) ?_
  show own_R p.tables e below _ (s₁.setTop (mkF m 9 #[.val .null, .val (.ref a2), .val (.int (0 : Int32)), .val (.int (0 : Int32)), .val (.int (Int32.ofNat n)), .val (.int ((Int32.ofNat n) - (1 : Int32))), .unset, .unset, .unset, .unset, .unset, .unset, .unset, .unset, .unset, .unset, .unset, .unset, .unset, .unset, .unset] [(.int (0 : Int32)), (.int (Int32.ofNat n))]))
  refine own_by (fun _ kZ => XS.isub X0.here hx rfl (hb hby d10_9) rfl kZ) ?_
  show own_R p.tables e below _ (s₁.setTop (mkF m 10 #[.val .null, .val (.ref a2), .val (.int (0 : Int32)), .val (.int (0 : Int32)), .val (.int (Int32.ofNat n)), .val (.int ((Int32.ofNat n) - (1 : Int32))), .unset, .unset, .unset, .unset, .unset, .unset, .unset, .unset, .unset, .unset, .unset, .unset, .unset, .unset, .unset] [(.int ((Int32.ofNat n) - (0 : Int32)))]))
  rw [show ((Int32.ofNat n) - (0 : Int32)) = (Int32.ofNat n) from Int32.sub_zero _]
  show own_R p.tables e below _ (s₁.setTop (mkF m 10 #[.val .null, .val (.ref a2), .val (.int (0 : Int32)), .val (.int (0 : Int32)), .val (.int (Int32.ofNat n)), .val (.int ((Int32.ofNat n) - (1 : Int32))), .unset, .unset, .unset, .unset, .unset, .unset, .unset, .unset, .unset, .unset, .unset, .unset, .unset, .unset, .unset] [(.int (Int32.ofNat n))]))
  refine own_by (fun _ kZ => XS.istore X0.here hx rfl (hb hby d10_10) rfl (l' := #[.val .null, .val (.ref a2), .val (.int (0 : Int32)), .val (.int (0 : Int32)), .val (.int (Int32.ofNat n)), .val (.int ((Int32.ofNat n) - (1 : Int32))), .val (.int (Int32.ofNat n)), .unset, .unset, .unset, .unset, .unset, .unset, .unset, .unset, .unset, .unset, .unset, .unset, .unset, .unset]) rfl kZ) ?_
  show own_R p.tables e below _ (s₁.setTop (mkF m 12 #[.val .null, .val (.ref a2), .val (.int (0 : Int32)), .val (.int (0 : Int32)), .val (.int (Int32.ofNat n)), .val (.int ((Int32.ofNat n) - (1 : Int32))), .val (.int (Int32.ofNat n)), .unset, .unset, .unset, .unset, .unset, .unset, .unset, .unset, .unset, .unset, .unset, .unset, .unset, .unset] []))
  refine own_by (fun _ kZ => XS.iload X0.here hx rfl (hb hby d10_12) rfl kZ) ?_
  show own_R p.tables e below _ (s₁.setTop (mkF m 14 #[.val .null, .val (.ref a2), .val (.int (0 : Int32)), .val (.int (0 : Int32)), .val (.int (Int32.ofNat n)), .val (.int ((Int32.ofNat n) - (1 : Int32))), .val (.int (Int32.ofNat n)), .unset, .unset, .unset, .unset, .unset, .unset, .unset, .unset, .unset, .unset, .unset, .unset, .unset, .unset] [(.int (Int32.ofNat n))]))
  refine own_by (fun _ kZ => XS.bipush X0.here hx rfl (hb hby d10_14) kZ) ?_
  show own_R p.tables e below _ (s₁.setTop (mkF m 16 #[.val .null, .val (.ref a2), .val (.int (0 : Int32)), .val (.int (0 : Int32)), .val (.int (Int32.ofNat n)), .val (.int ((Int32.ofNat n) - (1 : Int32))), .val (.int (Int32.ofNat n)), .unset, .unset, .unset, .unset, .unset, .unset, .unset, .unset, .unset, .unset, .unset, .unset, .unset, .unset] [(.int (65 : Int32)), (.int (Int32.ofNat n))]))
  refine own_by (fun _ kZ => XS.iloadN X0.here hx rfl (hb hby d10_16) rfl kZ) ?_
  show own_R p.tables e below _ (s₁.setTop (mkF m 17 #[.val .null, .val (.ref a2), .val (.int (0 : Int32)), .val (.int (0 : Int32)), .val (.int (Int32.ofNat n)), .val (.int ((Int32.ofNat n) - (1 : Int32))), .val (.int (Int32.ofNat n)), .unset, .unset, .unset, .unset, .unset, .unset, .unset, .unset, .unset, .unset, .unset, .unset, .unset, .unset] [(.int (0 : Int32)), (.int (65 : Int32)), (.int (Int32.ofNat n))]))
  refine own_by (fun _ kZ => XS.iadd X0.here hx rfl (hb hby d10_17) rfl kZ) ?_
  show own_R p.tables e below _ (s₁.setTop (mkF m 18 #[.val .null, .val (.ref a2), .val (.int (0 : Int32)), .val (.int (0 : Int32)), .val (.int (Int32.ofNat n)), .val (.int ((Int32.ofNat n) - (1 : Int32))), .val (.int (Int32.ofNat n)), .unset, .unset, .unset, .unset, .unset, .unset, .unset, .unset, .unset, .unset, .unset, .unset, .unset, .unset] [(.int ((65 : Int32) + (0 : Int32))), (.int (Int32.ofNat n))]))
  refine own_by (fun _ kZ => XS.icmpNo X0.here hx rfl (hb hby d10_18) rfl (tlt ((own_ltI (b := 65) (by omega) (by decide)).mpr (by omega) : Int32.ofNat n < ((65 : Int32) + (0 : Int32)))).2.1 kZ) ?_
  show own_R p.tables e below _ (s₁.setTop (mkF m 21 #[.val .null, .val (.ref a2), .val (.int (0 : Int32)), .val (.int (0 : Int32)), .val (.int (Int32.ofNat n)), .val (.int ((Int32.ofNat n) - (1 : Int32))), .val (.int (Int32.ofNat n)), .unset, .unset, .unset, .unset, .unset, .unset, .unset, .unset, .unset, .unset, .unset, .unset, .unset, .unset] []))
  refine own_by (fun _ kZ => XS.iloadN X0.here hx rfl (hb hby d10_21) rfl kZ) ?_
  show own_R p.tables e below _ (s₁.setTop (mkF m 22 #[.val .null, .val (.ref a2), .val (.int (0 : Int32)), .val (.int (0 : Int32)), .val (.int (Int32.ofNat n)), .val (.int ((Int32.ofNat n) - (1 : Int32))), .val (.int (Int32.ofNat n)), .unset, .unset, .unset, .unset, .unset, .unset, .unset, .unset, .unset, .unset, .unset, .unset, .unset, .unset] [(.int (0 : Int32))]))
  refine own_by (fun _ kZ => XS.iconst X0.here hx rfl (hb hby d10_22) kZ) ?_
  show own_R p.tables e below _ (s₁.setTop (mkF m 23 #[.val .null, .val (.ref a2), .val (.int (0 : Int32)), .val (.int (0 : Int32)), .val (.int (Int32.ofNat n)), .val (.int ((Int32.ofNat n) - (1 : Int32))), .val (.int (Int32.ofNat n)), .unset, .unset, .unset, .unset, .unset, .unset, .unset, .unset, .unset, .unset, .unset, .unset, .unset, .unset] [(.int (1 : Int32)), (.int (0 : Int32))]))
  refine own_by (fun _ kZ => XS.iand X0.here hx rfl (hb hby d10_23) rfl kZ) ?_
  show own_R p.tables e below _ (s₁.setTop (mkF m 24 #[.val .null, .val (.ref a2), .val (.int (0 : Int32)), .val (.int (0 : Int32)), .val (.int (Int32.ofNat n)), .val (.int ((Int32.ofNat n) - (1 : Int32))), .val (.int (Int32.ofNat n)), .unset, .unset, .unset, .unset, .unset, .unset, .unset, .unset, .unset, .unset, .unset, .unset, .unset, .unset] [(.int ((0 : Int32) &&& (1 : Int32)))]))
  refine own_by (fun _ kZ => XS.ifYes X0.here hx rfl (pc0 := 24) (pc' := 46) rfl (hb hby d10_24) rfl ((if0 _ _).trans (flt (by decide : ¬ (0 : Int32) < ((0 : Int32) &&& (1 : Int32)))).2.2.2) (by decide) (by decide) kZ) ?_
  show own_R p.tables e below _ (s₁.setTop (mkF m 46 #[.val .null, .val (.ref a2), .val (.int (0 : Int32)), .val (.int (0 : Int32)), .val (.int (Int32.ofNat n)), .val (.int ((Int32.ofNat n) - (1 : Int32))), .val (.int (Int32.ofNat n)), .unset, .unset, .unset, .unset, .unset, .unset, .unset, .unset, .unset, .unset, .unset, .unset, .unset, .unset] []))
  refine own_by (fun _ kZ => XS.iload X0.here hx rfl (hb hby d10_46) rfl kZ) ?_
  show own_R p.tables e below _ (s₁.setTop (mkF m 48 #[.val .null, .val (.ref a2), .val (.int (0 : Int32)), .val (.int (0 : Int32)), .val (.int (Int32.ofNat n)), .val (.int ((Int32.ofNat n) - (1 : Int32))), .val (.int (Int32.ofNat n)), .unset, .unset, .unset, .unset, .unset, .unset, .unset, .unset, .unset, .unset, .unset, .unset, .unset, .unset] [(.int (Int32.ofNat n))]))
  refine own_by (fun _ kZ => XS.bipush X0.here hx rfl (hb hby d10_48) kZ) ?_
  show own_R p.tables e below _ (s₁.setTop (mkF m 50 #[.val .null, .val (.ref a2), .val (.int (0 : Int32)), .val (.int (0 : Int32)), .val (.int (Int32.ofNat n)), .val (.int ((Int32.ofNat n) - (1 : Int32))), .val (.int (Int32.ofNat n)), .unset, .unset, .unset, .unset, .unset, .unset, .unset, .unset, .unset, .unset, .unset, .unset, .unset, .unset] [(.int (44 : Int32)), (.int (Int32.ofNat n))]))
  refine own_by (fun _ kZ => XS.icmpNo X0.here hx rfl (hb hby d10_50) rfl (tlt ((own_ltI (b := 44) (by omega) (by decide)).mpr (by omega) : Int32.ofNat n < (44 : Int32))).2.1 kZ) ?_
  show own_R p.tables e below _ (s₁.setTop (mkF m 53 #[.val .null, .val (.ref a2), .val (.int (0 : Int32)), .val (.int (0 : Int32)), .val (.int (Int32.ofNat n)), .val (.int ((Int32.ofNat n) - (1 : Int32))), .val (.int (Int32.ofNat n)), .unset, .unset, .unset, .unset, .unset, .unset, .unset, .unset, .unset, .unset, .unset, .unset, .unset, .unset] []))
  refine own_by (fun _ kZ => XS.aloadN X0.here hx rfl (hb hby d10_53) rfl rfl kZ) ?_
  show own_R p.tables e below _ (s₁.setTop (mkF m 54 #[.val .null, .val (.ref a2), .val (.int (0 : Int32)), .val (.int (0 : Int32)), .val (.int (Int32.ofNat n)), .val (.int ((Int32.ofNat n) - (1 : Int32))), .val (.int (Int32.ofNat n)), .unset, .unset, .unset, .unset, .unset, .unset, .unset, .unset, .unset, .unset, .unset, .unset, .unset, .unset] [(.ref a2)]))
  refine own_by (fun _ kZ => XS.iloadN X0.here hx rfl (hb hby d10_54) rfl kZ) ?_
  show own_R p.tables e below _ (s₁.setTop (mkF m 55 #[.val .null, .val (.ref a2), .val (.int (0 : Int32)), .val (.int (0 : Int32)), .val (.int (Int32.ofNat n)), .val (.int ((Int32.ofNat n) - (1 : Int32))), .val (.int (Int32.ofNat n)), .unset, .unset, .unset, .unset, .unset, .unset, .unset, .unset, .unset, .unset, .unset, .unset, .unset, .unset] [(.int (0 : Int32)), (.ref a2)]))
  refine own_by (fun _ kZ => XS.iload X0.here hx rfl (hb hby d10_55) rfl kZ) ?_
  show own_R p.tables e below _ (s₁.setTop (mkF m 57 #[.val .null, .val (.ref a2), .val (.int (0 : Int32)), .val (.int (0 : Int32)), .val (.int (Int32.ofNat n)), .val (.int ((Int32.ofNat n) - (1 : Int32))), .val (.int (Int32.ofNat n)), .unset, .unset, .unset, .unset, .unset, .unset, .unset, .unset, .unset, .unset, .unset, .unset, .unset, .unset] [(.int (Int32.ofNat n)), (.int (0 : Int32)), (.ref a2)]))
  obtain ⟨_, _, ⟨T117, L117, k117, n117⟩, -, X117, ⟨Lc117, hQ117, l117, y117, z117⟩, st117⟩ := Jvm.LawKit.callS X0 hx (y := (⟨"java/util/DualPivotQuicksort", "insertionSort", "([III)V"⟩ : MethodName)) hown (mvT hZ (hw _ (List.mem_of_getElem? (i := 57) rfl))) (mvT hZ (hw _ (List.mem_of_getElem? (i := 58) rfl))) (mvT hZ (hw _ (List.mem_of_getElem? (i := 52) rfl))) (mvT hZ (hw _ (List.mem_of_getElem? (i := 59) rfl))) (by decide) (backOf (W := 0) (rm11 l Z a0 hw [] a2 (0 : Int32) (Int32.ofNat n) n gg h0 n0 Z0 rfl rfl hn ge1 V) hZ (hw _ (List.mem_of_getElem? (i := 59) rfl)) (hw _ (List.mem_of_getElem? (i := 52) rfl)) (by decide) (by decide)) (g := (mkF m 57 #[.val .null, .val (.ref a2), .val (.int (0 : Int32)), .val (.int (0 : Int32)), .val (.int (Int32.ofNat n)), .val (.int ((Int32.ofNat n) - (1 : Int32))), .val (.int (Int32.ofNat n)), .unset, .unset, .unset, .unset, .unset, .unset, .unset, .unset, .unset, .unset, .unset, .unset, .unset, .unset] [(.int (Int32.ofNat n)), (.int (0 : Int32)), (.ref a2)])) rfl (by rw [hml]; rfl) (argsL := [(.ref a2), (.int (0 : Int32)), (.int (Int32.ofNat n))]) (rest := []) (lenOf own_pd1 rfl) rfl (by show 2 * 0 + _ ≤ _; exact Nat.le_of_eq rfl) (hb hby d10_57) (fun _ _ => ⟨rfl, e0, (by decide : 0 + 0 ≤ _), (by decide : 0 + 0 ≤ _)⟩)
  dsimp only [Pt.U, Pt.locs, Pt.cells, Pt.slots] at X117 l117 y117 z117 st117 hQ117
  subst l117 y117 z117
  obtain ⟨rfl, Nq117, K117, V117⟩ := hQ117
  have N117 := Fr.app N0 Nq117
  have Z118 : n0 ≤ T117.heap.size := Nat.le_trans Z0 K117.1
  refine own_by st117 ?_
  show own_R p.tables e below _ (T117.setTop (mkF m 60 #[.val .null, .val (.ref a2), .val (.int (0 : Int32)), .val (.int (0 : Int32)), .val (.int (Int32.ofNat n)), .val (.int ((Int32.ofNat n) - (1 : Int32))), .val (.int (Int32.ofNat n)), .unset, .unset, .unset, .unset, .unset, .unset, .unset, .unset, .unset, .unset, .unset, .unset, .unset, .unset] []))
  obtain ⟨fs, hr, hrun, hended, hW, hsame⟩ := X117.leave (v := none) (fun _ => rfl)
  refine own_end ⟨_, _, ?_, hrun, hended, _, _, rfl, ?_, ⟨_, rfl⟩, hW, hsame.mono (by decide) (by decide)⟩
  · exact X117.returnOut hx Bd.returns (hb hby d10_60) hr
  · show Q10 Z a2 (0 : Int32) (0 : Int32) (Int32.ofNat n) n gg h0 n0 _ T117.heap _
    exact ⟨rfl, N117, K117, V117⟩
theorem ef_9 (m : MethodId) (a1 : Addr) (p2 : Int32) (p3 : Int32) (p4 : Int32) : entryFrame m #[(.ref a1), (.int p2), (.int p3), (.int p4)] 7 = mkF m 0 #[.val (.ref a1), .val (.int p2), .val (.int p3), .val (.int p4), .unset, .unset, .unset] [] := by first | (simp [entryFrame, mkF, argsToLocals, Value.category]; done) | rfl
def Q9 (Z : State) (a1 : Addr) (p2 : Int32) (p3 : Int32) (p4 : Int32) (n : Nat) (gg : Nat → Int32) (h0 : Heap) (n0 : Nat) (v : Option Value) (h : Heap) (L : List Loc) : Prop := v = none ∧ Fr n0 L ∧ Keep h0 h [a1] ∧ own_K .int Z h a1 .int n (own_os (n - 1) 0 gg)
set_option maxRecDepth 65536 in
set_option maxHeartbeats 40000000 in
theorem rm9 (l : Launch) (Z : State) (a0 : Array Value) (hw : ∀ d ∈ tables_1, d.before a0 Z = true) (ws : List Jvm.Cond) (a1 : Addr) (p2 : Int32) (p3 : Int32) (p4 : Int32) (n : Nat) (gg : Nat → Int32) (h0 : Heap) (n0 : Nat) (Z0 : n0 ≤ h0.size) (hp2 : p2 = (0 : Int32)) (hp3 : p3 = (0 : Int32)) (hp4 : p4 = Int32.ofNat n) (hn : n ≤ 4) (ge1 : n0 ≤ a1) (V : own_K .int Z h0 a1 .int n gg) :
    MetFree l (⟨"java/util/DualPivotQuicksort", "sort", "([IIII)V"⟩ : MethodName) (head1 (Jvm.Cond.code (⟨"java/util/DualPivotQuicksort", "sort", "([IIII)V"⟩ : MethodName) jdk_2529_method_3_code 7 none :: ws) ({ frames := 2, cells := 0, slots := 0, locals := 49 } : Room)) (fun a U => a = #[(.ref a1), (.int p2), (.int p3), (.int p4)] ∧ Z.Warmed39 U.vm ∧ U.heap = h0) (fun _ _ _ _ _ => True) (fun _ U o U' => ∃ v L, o = .returned v ∧ Q9 Z a1 p2 p3 p4 n gg h0 n0 v U'.heap L ∧ FrameEnd U o U' L ({ frames := 2, cells := 0, slots := 0, locals := 49 } : Room).cells ({ frames := 2, cells := 0, slots := 0, locals := 49 } : Room).slots) := by
  refine MetFree.of_bodySF (plainFor_of_name pn_9) hisR ?_
  intro p e s m args below meth cd s₁ Bd hml0 hP hK
  obtain ⟨rfl, hZ, hh⟩ := hP
  have hx := Bd.exec
  have hby := Bd.bytes
  have hml : cd.maxLocals = 7 := hml0
  have hown : s.vm.findClass "java/util/DualPivotQuicksort" = some m.cls := findClass_of_methodNamed Bd.named
  have hnm := (name_of_methodNamed Bd.named Bd.method).1
  have X0 : Stand p l e ({ frames := 2, cells := 0, slots := 0, locals := 49 } : Room) s m #[(.ref a1), (.int p2), (.int p3), (.int p4)] below meth cd s₁ [] 0 0 := Stand.of_body Bd
  have e0 : s₁.heap = h0 := by rw [← hh, Bd.state]; rfl
  have N0 := Fr.nil n0
  show own_R p.tables e below _ (s₁.setTop (entryFrame m #[(.ref a1), (.int p2), (.int p3), (.int p4)] 7))
  refine own_by (fun t kZ => castTop (ef_9 m a1 p2 p3 p4) kZ) ?_
  show own_R p.tables e below _ (s₁.setTop (mkF m 0 #[.val (.ref a1), .val (.int p2), .val (.int p3), .val (.int p4), .unset, .unset, .unset] []))
  subst hp2 hp3 hp4
  show own_R p.tables e below _ (s₁.setTop (mkF m 0 #[.val (.ref a1), .val (.int (0 : Int32)), .val (.int (0 : Int32)), .val (.int (Int32.ofNat n)), .unset, .unset, .unset] []))
  refine own_by (fun _ kZ => XS.iloadN X0.here hx rfl (hb hby d9_0) rfl kZ) ?_
  show own_R p.tables e below _ (s₁.setTop (mkF m 1 #[.val (.ref a1), .val (.int (0 : Int32)), .val (.int (0 : Int32)), .val (.int (Int32.ofNat n)), .unset, .unset, .unset] [(.int (Int32.ofNat n))]))
  refine own_by (fun _ kZ => XS.iloadN X0.here hx rfl (hb hby d9_1) rfl kZ) ?_
  show own_R p.tables e below _ (s₁.setTop (mkF m 2 #[.val (.ref a1), .val (.int (0 : Int32)), .val (.int (0 : Int32)), .val (.int (Int32.ofNat n)), .unset, .unset, .unset] [(.int (0 : Int32)), (.int (Int32.ofNat n))]))
  refine own_by (fun _ kZ => XS.isub X0.here hx rfl (hb hby d9_2) rfl kZ) ?_
  show own_R p.tables e below _ (s₁.setTop (mkF m 3 #[.val (.ref a1), .val (.int (0 : Int32)), .val (.int (0 : Int32)), .val (.int (Int32.ofNat n)), .unset, .unset, .unset] [(.int ((Int32.ofNat n) - (0 : Int32)))]))
  refine own_by (fun _ kZ => XS.istore X0.here hx rfl (hb hby d9_3) rfl (l' := #[.val (.ref a1), .val (.int (0 : Int32)), .val (.int (0 : Int32)), .val (.int (Int32.ofNat n)), .val (.int ((Int32.ofNat n) - (0 : Int32))), .unset, .unset]) rfl kZ) ?_
  show own_R p.tables e below _ (s₁.setTop (mkF m 5 #[.val (.ref a1), .val (.int (0 : Int32)), .val (.int (0 : Int32)), .val (.int (Int32.ofNat n)), .val (.int ((Int32.ofNat n) - (0 : Int32))), .unset, .unset] []))
  refine own_by (fun _ kZ => XS.iloadN X0.here hx rfl (hb hby d9_5) rfl kZ) ?_
  show own_R p.tables e below _ (s₁.setTop (mkF m 6 #[.val (.ref a1), .val (.int (0 : Int32)), .val (.int (0 : Int32)), .val (.int (Int32.ofNat n)), .val (.int ((Int32.ofNat n) - (0 : Int32))), .unset, .unset] [(.int (0 : Int32))]))
  refine own_by (fun _ kZ => XS.iconst X0.here hx rfl (hb hby d9_6) kZ) ?_
  show own_R p.tables e below _ (s₁.setTop (mkF m 7 #[.val (.ref a1), .val (.int (0 : Int32)), .val (.int (0 : Int32)), .val (.int (Int32.ofNat n)), .val (.int ((Int32.ofNat n) - (0 : Int32))), .unset, .unset] [(.int (1 : Int32)), (.int (0 : Int32))]))
  refine own_by (fun _ kZ => XS.icmpYes X0.here hx rfl (pc0 := 7) (pc' := 68) rfl (hb hby d9_7) rfl (flt (by decide : ¬ (1 : Int32) < (0 : Int32))).2.2.2 (by decide) (by decide) kZ) ?_
  show own_R p.tables e below _ (s₁.setTop (mkF m 68 #[.val (.ref a1), .val (.int (0 : Int32)), .val (.int (0 : Int32)), .val (.int (Int32.ofNat n)), .val (.int ((Int32.ofNat n) - (0 : Int32))), .unset, .unset] []))
  refine own_by (fun _ kZ => XS.aconstNull X0.here hx rfl (hb hby d9_68) kZ) ?_
  show own_R p.tables e below _ (s₁.setTop (mkF m 69 #[.val (.ref a1), .val (.int (0 : Int32)), .val (.int (0 : Int32)), .val (.int (Int32.ofNat n)), .val (.int ((Int32.ofNat n) - (0 : Int32))), .unset, .unset] [.null]))
  refine own_by (fun _ kZ => XS.aloadN X0.here hx rfl (hb hby d9_69) rfl rfl kZ) ?_
  show own_R p.tables e below _ (s₁.setTop (mkF m 70 #[.val (.ref a1), .val (.int (0 : Int32)), .val (.int (0 : Int32)), .val (.int (Int32.ofNat n)), .val (.int ((Int32.ofNat n) - (0 : Int32))), .unset, .unset] [(.ref a1), .null]))
  refine own_by (fun _ kZ => XS.iconst X0.here hx rfl (hb hby d9_70) kZ) ?_
  show own_R p.tables e below _ (s₁.setTop (mkF m 71 #[.val (.ref a1), .val (.int (0 : Int32)), .val (.int (0 : Int32)), .val (.int (Int32.ofNat n)), .val (.int ((Int32.ofNat n) - (0 : Int32))), .unset, .unset] [(.int (0 : Int32)), (.ref a1), .null]))
  refine own_by (fun _ kZ => XS.iloadN X0.here hx rfl (hb hby d9_71) rfl kZ) ?_
  show own_R p.tables e below _ (s₁.setTop (mkF m 72 #[.val (.ref a1), .val (.int (0 : Int32)), .val (.int (0 : Int32)), .val (.int (Int32.ofNat n)), .val (.int ((Int32.ofNat n) - (0 : Int32))), .unset, .unset] [(.int (0 : Int32)), (.int (0 : Int32)), (.ref a1), .null]))
  refine own_by (fun _ kZ => XS.iloadN X0.here hx rfl (hb hby d9_72) rfl kZ) ?_
  show own_R p.tables e below _ (s₁.setTop (mkF m 73 #[.val (.ref a1), .val (.int (0 : Int32)), .val (.int (0 : Int32)), .val (.int (Int32.ofNat n)), .val (.int ((Int32.ofNat n) - (0 : Int32))), .unset, .unset] [(.int (Int32.ofNat n)), (.int (0 : Int32)), (.int (0 : Int32)), (.ref a1), .null]))
  obtain ⟨_, _, ⟨T119, L119, k119, n119⟩, -, X119, ⟨Lc119, hQ119, l119, y119, z119⟩, st119⟩ := Jvm.LawKit.callS X0 hx (y := (⟨"java/util/DualPivotQuicksort", "sort", "(Ljava/util/DualPivotQuicksort$Sorter;[IIII)V"⟩ : MethodName)) hown (mvT hZ (hw _ (List.mem_of_getElem? (i := 54) rfl))) (mvT hZ (hw _ (List.mem_of_getElem? (i := 55) rfl))) (mvT hZ (hw _ (List.mem_of_getElem? (i := 52) rfl))) (mvT hZ (hw _ (List.mem_of_getElem? (i := 56) rfl))) (by decide) (backOf (W := 0) (rm10 l Z a0 hw [] a1 (0 : Int32) (0 : Int32) (Int32.ofNat n) n gg h0 n0 Z0 rfl rfl rfl hn ge1 V) hZ (hw _ (List.mem_of_getElem? (i := 56) rfl)) (hw _ (List.mem_of_getElem? (i := 52) rfl)) (by decide) (by decide)) (g := (mkF m 73 #[.val (.ref a1), .val (.int (0 : Int32)), .val (.int (0 : Int32)), .val (.int (Int32.ofNat n)), .val (.int ((Int32.ofNat n) - (0 : Int32))), .unset, .unset] [(.int (Int32.ofNat n)), (.int (0 : Int32)), (.int (0 : Int32)), (.ref a1), .null])) rfl (by rw [hml]; rfl) (argsL := [.null, (.ref a1), (.int (0 : Int32)), (.int (0 : Int32)), (.int (Int32.ofNat n))]) (rest := []) (lenOf own_pd2 rfl) rfl (by show 2 * 0 + _ ≤ _; exact Nat.le_of_eq rfl) (hb hby d9_73) (fun _ _ => ⟨rfl, e0, (by decide : 0 + 0 ≤ _), (by decide : 0 + 0 ≤ _)⟩)
  dsimp only [Pt.U, Pt.locs, Pt.cells, Pt.slots] at X119 l119 y119 z119 st119 hQ119
  subst l119 y119 z119
  obtain ⟨rfl, Nq119, K119, V119⟩ := hQ119
  have N119 := Fr.app N0 Nq119
  have Z120 : n0 ≤ T119.heap.size := Nat.le_trans Z0 K119.1
  refine own_by st119 ?_
  show own_R p.tables e below _ (T119.setTop (mkF m 76 #[.val (.ref a1), .val (.int (0 : Int32)), .val (.int (0 : Int32)), .val (.int (Int32.ofNat n)), .val (.int ((Int32.ofNat n) - (0 : Int32))), .unset, .unset] []))
  obtain ⟨fs, hr, hrun, hended, hW, hsame⟩ := X119.leave (v := none) (fun _ => rfl)
  refine own_end ⟨_, _, ?_, hrun, hended, _, _, rfl, ?_, ⟨_, rfl⟩, hW, hsame.mono (by decide) (by decide)⟩
  · exact X119.returnOut hx Bd.returns (hb hby d9_76) hr
  · show Q9 Z a1 (0 : Int32) (0 : Int32) (Int32.ofNat n) n gg h0 n0 _ T119.heap _
    exact ⟨rfl, N119, K119, V119⟩
theorem ef_8 (m : MethodId) (a1 : Addr) : entryFrame m #[(.ref a1)] 1 = mkF m 0 #[.val (.ref a1)] [] := by first | (simp [entryFrame, mkF, argsToLocals, Value.category]; done) | rfl
def Q8 (Z : State) (a1 : Addr) (n : Nat) (gg : Nat → Int32) (h0 : Heap) (n0 : Nat) (v : Option Value) (h : Heap) (L : List Loc) : Prop := v = none ∧ Fr n0 L ∧ Keep h0 h [a1] ∧ own_K .int Z h a1 .int n (own_os (n - 1) 0 gg)
set_option maxRecDepth 65536 in
set_option maxHeartbeats 40000000 in
theorem rm8 (l : Launch) (Z : State) (a0 : Array Value) (hw : ∀ d ∈ tables_1, d.before a0 Z = true) (ws : List Jvm.Cond) (a1 : Addr) (n : Nat) (gg : Nat → Int32) (h0 : Heap) (n0 : Nat) (Z0 : n0 ≤ h0.size) (hn : n ≤ 4) (ge1 : n0 ≤ a1) (V : own_K .int Z h0 a1 .int n gg) :
    MetFree l (⟨"java/util/Arrays", "sort", "([I)V"⟩ : MethodName) (head1 (Jvm.Cond.code (⟨"java/util/Arrays", "sort", "([I)V"⟩ : MethodName) jdk_65_method_2_code 1 none :: ws) ({ frames := 3, cells := 0, slots := 0, locals := 67 } : Room)) (fun a U => a = #[(.ref a1)] ∧ Z.Warmed39 U.vm ∧ U.heap = h0) (fun _ _ _ _ _ => True) (fun _ U o U' => ∃ v L, o = .returned v ∧ Q8 Z a1 n gg h0 n0 v U'.heap L ∧ FrameEnd U o U' L ({ frames := 3, cells := 0, slots := 0, locals := 67 } : Room).cells ({ frames := 3, cells := 0, slots := 0, locals := 67 } : Room).slots) := by
  refine MetFree.of_bodySF (plainFor_of_name pn_8) hisR ?_
  intro p e s m args below meth cd s₁ Bd hml0 hP hK
  obtain ⟨rfl, hZ, hh⟩ := hP
  have hx := Bd.exec
  have hby := Bd.bytes
  have hml : cd.maxLocals = 1 := hml0
  have hown : s.vm.findClass "java/util/Arrays" = some m.cls := findClass_of_methodNamed Bd.named
  have hnm := (name_of_methodNamed Bd.named Bd.method).1
  have X0 : Stand p l e ({ frames := 3, cells := 0, slots := 0, locals := 67 } : Room) s m #[(.ref a1)] below meth cd s₁ [] 0 0 := Stand.of_body Bd
  have e0 : s₁.heap = h0 := by rw [← hh, Bd.state]; rfl
  have N0 := Fr.nil n0
  show own_R p.tables e below _ (s₁.setTop (entryFrame m #[(.ref a1)] 1))
  refine own_by (fun t kZ => castTop (ef_8 m a1) kZ) ?_
  show own_R p.tables e below _ (s₁.setTop (mkF m 0 #[.val (.ref a1)] []))
  refine own_by (fun _ kZ => XS.aloadN X0.here hx rfl (hb hby d8_0) rfl rfl kZ) ?_
  show own_R p.tables e below _ (s₁.setTop (mkF m 1 #[.val (.ref a1)] [(.ref a1)]))
  refine own_by (fun _ kZ => XS.iconst X0.here hx rfl (hb hby d8_1) kZ) ?_
  show own_R p.tables e below _ (s₁.setTop (mkF m 2 #[.val (.ref a1)] [(.int (0 : Int32)), (.ref a1)]))
  refine own_by (fun _ kZ => XS.iconst X0.here hx rfl (hb hby d8_2) kZ) ?_
  show own_R p.tables e below _ (s₁.setTop (mkF m 3 #[.val (.ref a1)] [(.int (0 : Int32)), (.int (0 : Int32)), (.ref a1)]))
  refine own_by (fun _ kZ => XS.aloadN X0.here hx rfl (hb hby d8_3) rfl rfl kZ) ?_
  show own_R p.tables e below _ (s₁.setTop (mkF m 4 #[.val (.ref a1)] [(.ref a1), (.int (0 : Int32)), (.int (0 : Int32)), (.ref a1)]))
  obtain ⟨cl121, Ar121, hln121⟩ := V.ln
  refine own_by (fun _ kZ => X0.arraylength hx (by rw [e0]; exact Ar121.1) (State.isArrayOf_alike hZ.alike Ar121.2.1) (g := (mkF m 4 #[.val (.ref a1)] [(.ref a1), (.int (0 : Int32)), (.int (0 : Int32)), (.ref a1)])) rfl rfl (hb hby d8_4) _ kZ) ?_
  rw [hln121]
  show own_R p.tables e below _ (s₁.setTop (mkF m 5 #[.val (.ref a1)] [(.int (Int32.ofNat n)), (.int (0 : Int32)), (.int (0 : Int32)), (.ref a1)]))
  obtain ⟨_, _, ⟨T122, L122, k122, n122⟩, -, X122, ⟨Lc122, hQ122, l122, y122, z122⟩, st122⟩ := Jvm.LawKit.callS X0 hx (y := (⟨"java/util/DualPivotQuicksort", "sort", "([IIII)V"⟩ : MethodName)) hown (mvT hZ (hw _ (List.mem_of_getElem? (i := 50) rfl))) (mvT hZ (hw _ (List.mem_of_getElem? (i := 51) rfl))) (mvT hZ (hw _ (List.mem_of_getElem? (i := 52) rfl))) (mvT hZ (hw _ (List.mem_of_getElem? (i := 53) rfl))) (by decide) (backOf (W := 0) (rm9 l Z a0 hw [] a1 (0 : Int32) (0 : Int32) (Int32.ofNat n) n gg h0 n0 Z0 rfl rfl rfl hn ge1 V) hZ (hw _ (List.mem_of_getElem? (i := 53) rfl)) (hw _ (List.mem_of_getElem? (i := 52) rfl)) (by decide) (by decide)) (g := (mkF m 5 #[.val (.ref a1)] [(.int (Int32.ofNat n)), (.int (0 : Int32)), (.int (0 : Int32)), (.ref a1)])) rfl (by rw [hml]; rfl) (argsL := [(.ref a1), (.int (0 : Int32)), (.int (0 : Int32)), (.int (Int32.ofNat n))]) (rest := []) (lenOf own_pd3 rfl) rfl (by show 2 * 0 + _ ≤ _; exact Nat.le_of_eq rfl) (hb hby d8_5) (fun _ _ => ⟨rfl, e0, (by decide : 0 + 0 ≤ _), (by decide : 0 + 0 ≤ _)⟩)
  dsimp only [Pt.U, Pt.locs, Pt.cells, Pt.slots] at X122 l122 y122 z122 st122 hQ122
  subst l122 y122 z122
  obtain ⟨rfl, Nq122, K122, V122⟩ := hQ122
  have N122 := Fr.app N0 Nq122
  have Z123 : n0 ≤ T122.heap.size := Nat.le_trans Z0 K122.1
  refine own_by st122 ?_
  show own_R p.tables e below _ (T122.setTop (mkF m 8 #[.val (.ref a1)] []))
  obtain ⟨fs, hr, hrun, hended, hW, hsame⟩ := X122.leave (v := none) (fun _ => rfl)
  refine own_end ⟨_, _, ?_, hrun, hended, _, _, rfl, ?_, ⟨_, rfl⟩, hW, hsame.mono (by decide) (by decide)⟩
  · exact X122.returnOut hx Bd.returns (hb hby d8_8) hr
  · show Q8 Z a1 n gg h0 n0 _ T122.heap _
    exact ⟨rfl, N122, K122, V122⟩
theorem ef_5 (m : MethodId) (a1 : Addr) : entryFrame m #[(.ref a1)] 2 = mkF m 0 #[.val (.ref a1), .unset] [] := by first | (simp [entryFrame, mkF, argsToLocals, Value.category]; done) | rfl
def Q5 (Z : State) (a1 : Addr) (b c : Addr) (n : Nat) (tk : Int32) (gv ga : Nat → Int32) (h0 : Heap) (n0 : Nat) (v : Option Value) (h : Heap) (L : List Loc) : Prop := v = some (.ref h0.size) ∧ Fr n0 L ∧ Keep h0 h [] ∧ own_K .int Z h h0.size .int n (own_os (n - 1) 0 gv)
set_option maxRecDepth 65536 in
set_option maxHeartbeats 40000000 in
theorem rm5 (l : Launch) (Z : State) (a0 : Array Value) (hw : ∀ d ∈ tables_1, d.before a0 Z = true) (ws : List Jvm.Cond) (a1 : Addr) (b c : Addr) (n : Nat) (tk : Int32) (gv ga : Nat → Int32) (h0 : Heap) (n0 : Nat) (Z0 : n0 ≤ h0.size) (W : own_CD Z h0 n0 a1 b c n tk gv ga) (ln : n ≤ 4) :
    MetFree l (⟨"com/example/frugal_scheduler/frugalscheduler/planners/PoolSchedule$Candidates", "inPoolOrder", "()[I"⟩ : MethodName) (head1 (Jvm.Cond.code (⟨"com/example/frugal_scheduler/frugalscheduler/planners/PoolSchedule$Candidates", "inPoolOrder", "()[I"⟩ : MethodName) prog_68_method_4_code 2 (some (.array .int)) :: ws) ({ frames := 4, cells := 1, slots := 4, locals := 79 } : Room)) (fun a U => a = #[(.ref a1)] ∧ Z.Warmed39 U.vm ∧ U.heap = h0) (fun _ _ _ _ _ => True) (fun _ U o U' => ∃ v L, o = .returned v ∧ Q5 Z a1 b c n tk gv ga h0 n0 v U'.heap L ∧ FrameEnd U o U' L ({ frames := 4, cells := 1, slots := 4, locals := 79 } : Room).cells ({ frames := 4, cells := 1, slots := 4, locals := 79 } : Room).slots) := by
  refine MetFree.of_bodySF (plainFor_of_name pn_5) hisR ?_
  intro p e s m args below meth cd s₁ Bd hml0 hP hK
  obtain ⟨rfl, hZ, hh⟩ := hP
  have hx := Bd.exec
  have hby := Bd.bytes
  have hml : cd.maxLocals = 2 := hml0
  have hown : s.vm.findClass "com/example/frugal_scheduler/frugalscheduler/planners/PoolSchedule$Candidates" = some m.cls := findClass_of_methodNamed Bd.named
  have hnm := (name_of_methodNamed Bd.named Bd.method).1
  have X0 : Stand p l e ({ frames := 4, cells := 1, slots := 4, locals := 79 } : Room) s m #[(.ref a1)] below meth cd s₁ [] 0 0 := Stand.of_body Bd
  have e0 : s₁.heap = h0 := by rw [← hh, Bd.state]; rfl
  have N0 := Fr.nil n0
  show own_R p.tables e below _ (s₁.setTop (entryFrame m #[(.ref a1)] 2))
  refine own_by (fun t kZ => castTop (ef_5 m a1) kZ) ?_
  show own_R p.tables e below _ (s₁.setTop (mkF m 0 #[.val (.ref a1), .unset] []))
  obtain ⟨Ex, Fb, Fc, Fz, Ft, Vb, Eb, Vc, n1, n2, n3, g1, g2, g3⟩ := W
  refine own_by (fun _ kZ => XS.aloadN X0.here hx rfl (hb hby d5_0) rfl rfl kZ) ?_
  show own_R p.tables e below _ (s₁.setTop (mkF m 1 #[.val (.ref a1), .unset] [(.ref a1)]))
  obtain ⟨T124, X124, e124, st124⟩ := getF X0 hx hZ hown (host := "") (Or.inl (hw _ (List.mem_of_getElem? (i := 12) rfl))) Via.refl e0 Fb (g := (mkF m 1 #[.val (.ref a1), .unset] [(.ref a1)])) rfl rfl (hb hby d5_1)
  refine own_by st124 ?_
  show own_R p.tables e below _ (T124.setTop (mkF m 4 #[.val (.ref a1), .unset] [(.ref b)]))
  refine own_by (fun _ kZ => XS.aloadN X124.here hx rfl (hb hby d5_4) rfl rfl kZ) ?_
  show own_R p.tables e below _ (T124.setTop (mkF m 5 #[.val (.ref a1), .unset] [(.ref a1), (.ref b)]))
  obtain ⟨T125, X125, e125, st125⟩ := getF X124 hx hZ hown (host := "") (Or.inl (hw _ (List.mem_of_getElem? (i := 23) rfl))) Via.refl e124 Fz (g := (mkF m 5 #[.val (.ref a1), .unset] [(.ref a1), (.ref b)])) rfl rfl (hb hby d5_5)
  refine own_by st125 ?_
  show own_R p.tables e below _ (T125.setTop (mkF m 8 #[.val (.ref a1), .unset] [(.int (Int32.ofNat n)), (.ref b)]))
  obtain ⟨_, _, ⟨T126, L126, k126, n126⟩, -, X126, ⟨Lc126, hQ126, l126, y126, z126⟩, st126⟩ := Jvm.LawKit.callS X125 hx (y := (⟨"java/util/Arrays", "copyOf", "([II)[I"⟩ : MethodName)) hown (mvT hZ (hw _ (List.mem_of_getElem? (i := 35) rfl))) (mvT hZ (hw _ (List.mem_of_getElem? (i := 36) rfl))) (mvT hZ (hw _ (List.mem_of_getElem? (i := 37) rfl))) (mvT hZ (hw _ (List.mem_of_getElem? (i := 38) rfl))) (by decide) (backOf (W := 0) (rm6 l Z a0 hw [] b (Int32.ofNat n) n gv h0 n0 Z0 rfl ln Vb Eb) hZ (hw _ (List.mem_of_getElem? (i := 38) rfl)) (hw _ (List.mem_of_getElem? (i := 37) rfl)) (by decide) (by decide)) (g := (mkF m 8 #[.val (.ref a1), .unset] [(.int (Int32.ofNat n)), (.ref b)])) rfl (by rw [hml]; rfl) (argsL := [(.ref b), (.int (Int32.ofNat n))]) (rest := []) (lenOf own_pd4 rfl) rfl (by show 2 * 0 + _ ≤ _; exact Nat.le_of_eq rfl) (hb hby d5_8) (fun _ _ => ⟨rfl, e125, (by decide : 0 + 1 ≤ _), (by decide : 0 + 4 ≤ _)⟩)
  dsimp only [Pt.U, Pt.locs, Pt.cells, Pt.slots] at X126 l126 y126 z126 st126 hQ126
  subst l126 y126 z126
  obtain ⟨rfl, Nq126, K126, V126⟩ := hQ126
  have N126 := Fr.app N0 Nq126
  have Z127 : n0 ≤ T126.heap.size := Nat.le_trans Z0 K126.1
  have K127 : Keep h0 T126.heap [] := (Keep.refl h0 []).trans K126 all0
  refine own_by st126 ?_
  show own_R p.tables e below _ (T126.setTop (mkF m 11 #[.val (.ref a1), .unset] [(.ref h0.size)]))
  refine own_by (fun _ kZ => XS.astoreN X126.here hx rfl (hb hby d5_11) rfl rfl (l' := #[.val (.ref a1), .val (.ref h0.size)]) rfl kZ) ?_
  show own_R p.tables e below _ (T126.setTop (mkF m 12 #[.val (.ref a1), .val (.ref h0.size)] []))
  refine own_by (fun _ kZ => XS.aloadN X126.here hx rfl (hb hby d5_12) rfl rfl kZ) ?_
  show own_R p.tables e below _ (T126.setTop (mkF m 13 #[.val (.ref a1), .val (.ref h0.size)] [(.ref h0.size)]))
  obtain ⟨_, _, ⟨T128, L128, k128, n128⟩, -, X128, ⟨Lc128, hQ128, l128, y128, z128⟩, st128⟩ := Jvm.LawKit.callS X126 hx (y := (⟨"java/util/Arrays", "sort", "([I)V"⟩ : MethodName)) hown (mvT hZ (hw _ (List.mem_of_getElem? (i := 47) rfl))) (mvT hZ (hw _ (List.mem_of_getElem? (i := 48) rfl))) (mvT hZ (hw _ (List.mem_of_getElem? (i := 37) rfl))) (mvT hZ (hw _ (List.mem_of_getElem? (i := 49) rfl))) (by decide) (backOf (W := 0) (rm8 l Z a0 hw [] h0.size n gv T126.heap n0 Z127 ln Z0 V126) hZ (hw _ (List.mem_of_getElem? (i := 49) rfl)) (hw _ (List.mem_of_getElem? (i := 37) rfl)) (by decide) (by decide)) (g := (mkF m 13 #[.val (.ref a1), .val (.ref h0.size)] [(.ref h0.size)])) rfl (by rw [hml]; rfl) (argsL := [(.ref h0.size)]) (rest := []) (lenOf own_pd5 rfl) rfl (by show 2 * 0 + _ ≤ _; exact Nat.le_of_eq rfl) (hb hby d5_13) (fun _ _ => ⟨rfl, rfl, (by decide : 1 + 0 ≤ _), (by decide : 4 + 0 ≤ _)⟩)
  dsimp only [Pt.U, Pt.locs, Pt.cells, Pt.slots] at X128 l128 y128 z128 st128 hQ128
  subst l128 y128 z128
  obtain ⟨rfl, Nq128, K128, V128⟩ := hQ128
  have N128 := Fr.app N126 Nq128
  have Z129 : n0 ≤ T128.heap.size := Nat.le_trans Z127 K128.1
  have K129 : Keep h0 T128.heap [] := K127.trans K128 (allS (Or.inr (Nat.le_refl _)) all0)
  refine own_by st128 ?_
  show own_R p.tables e below _ (T128.setTop (mkF m 16 #[.val (.ref a1), .val (.ref h0.size)] []))
  refine own_by (fun _ kZ => XS.aloadN X128.here hx rfl (hb hby d5_16) rfl rfl kZ) ?_
  show own_R p.tables e below _ (T128.setTop (mkF m 17 #[.val (.ref a1), .val (.ref h0.size)] [(.ref h0.size)]))
  obtain ⟨fs, hr, hrun, hended, hW, hsame⟩ := X128.leave (v := some (.ref h0.size)) (fun h => by rw [Bd.returns] at h; cases h)
  refine own_end ⟨_, _, ?_, hrun, hended, _, _, rfl, ?_, ⟨_, rfl⟩, hW, hsame.mono (by decide) (by decide)⟩
  · exact own_retA X128 hx Bd.returns rfl (hb hby d5_17) hr
  · show Q5 Z a1 b c n tk gv ga h0 n0 _ T128.heap _
    exact ⟨rfl, N128, K129, V128⟩
set_option maxRecDepth 65536 in
set_option maxHeartbeats 40000000 in
theorem mt0 {p : Program} {l : Launch} {e : Env} {R : Room} {s : State} {m : MethodId} {args : Array Value} {below : List Frame} {meth : Method} {cd : Code} {A : State → Outcome → Prop} {Z : State} {a0 : Array Value} {h0 : Heap} {n0 : Nat} (hx : p.tables.exec = Jvm.exec) (hZ : Z.Warmed39 s.vm) (hw : ∀ d ∈ tables_1, d.before a0 Z = true) (hby : cd.code = method_3_code) (hml : cd.maxLocals = 7) (hown : s.vm.findClass "com/example/frugal_scheduler/frugalscheduler/planners/CandidatesAddPinLaw" = some m.cls) (a1 bw : Addr) (p2 p3 p4 p5 : Int32) (n : Nat) (gg : Nat → Int32) (n1 : a1 ≠ bw) (gew : n0 ≤ bw) (szw : h0.size ≤ bw) (k : Nat) (hk : k ≤ 0) (ww : Nat → Int32) {T : State} {locs : List Loc} {cells slots : Nat} {h : Heap} (X0 : Stand p l e R s m args below meth cd T locs cells slots) (e0 : T.heap = h) (N0 : Fr n0 locs) (Z0 : n0 ≤ h.size) (K0 : Keep h0 h []) (Va : own_K .int Z h a1 .int n gg) (Vw : own_K .int Z h bw .int 4 ww)
      (cont : ∀ {T' : State} {locs' : List Loc} {h' : Heap} (_ : Stand p l e R s m args below meth cd T' locs' cells slots) (_ : T'.heap = h') (_ : Fr n0 locs') (_ : n0 ≤ h'.size) (_ : Keep h0 h' []) (_ : own_K .int Z h' a1 .int n gg) (_ : own_K .int Z h' bw .int 4 (own_ww p2 k ww (0 : Int32))), own_R p.tables e below A (T'.setTop (mkF m 21 #[.val (.ref a1), .val (.int p2), .val (.int p3), .val (.int p4), .val (.int p5), .val (.ref bw), .val (.int (Int32.ofNat (own_wk p2 k)))] []))) : own_R p.tables e below A (T.setTop (mkF m 8 #[.val (.ref a1), .val (.int p2), .val (.int p3), .val (.int p4), .val (.int p5), .val (.ref bw), .val (.int (Int32.ofNat k))] [])) := by
  show own_R p.tables e below _ (T.setTop (mkF m 8 #[.val (.ref a1), .val (.int p2), .val (.int p3), .val (.int p4), .val (.int p5), .val (.ref bw), .val (.int (Int32.ofNat k))] []))
  refine own_by (fun _ kZ => XS.iloadN X0.here hx rfl (hb hby d12_8) rfl kZ) ?_
  show own_R p.tables e below _ (T.setTop (mkF m 9 #[.val (.ref a1), .val (.int p2), .val (.int p3), .val (.int p4), .val (.int p5), .val (.ref bw), .val (.int (Int32.ofNat k))] [(.int p2)]))
  by_cases hc : p2 = (0 : Int32)
  · skip
    refine own_by (fun _ kZ => XS.ifYes X0.here hx rfl (pc0 := 9) (pc' := 21) rfl (hb hby d12_9) rfl ((if0 _ _).trans (teq hc).1) (by decide) (by decide) kZ) ?_
    show own_R p.tables e below _ (T.setTop (mkF m 21 #[.val (.ref a1), .val (.int p2), .val (.int p3), .val (.int p4), .val (.int p5), .val (.ref bw), .val (.int (Int32.ofNat k))] []))
    have q := cont X0 e0 N0 Z0 K0 Va (by rw [own_ww, if_pos hc]; exact Vw)
    rw [own_wk, if_pos hc] at q
    exact q
  · skip
    refine own_by (fun _ kZ => XS.ifNo X0.here hx rfl (hb hby d12_9) rfl ((if0 _ _).trans (feq hc).1) kZ) ?_
    show own_R p.tables e below _ (T.setTop (mkF m 12 #[.val (.ref a1), .val (.int p2), .val (.int p3), .val (.int p4), .val (.int p5), .val (.ref bw), .val (.int (Int32.ofNat k))] []))
    refine own_by (fun _ kZ => XS.aload X0.here hx rfl (hb hby d12_12) rfl rfl kZ) ?_
    show own_R p.tables e below _ (T.setTop (mkF m 14 #[.val (.ref a1), .val (.int p2), .val (.int p3), .val (.int p4), .val (.int p5), .val (.ref bw), .val (.int (Int32.ofNat k))] [(.ref bw)]))
    refine own_by (fun _ kZ => XS.iload X0.here hx rfl (hb hby d12_14) rfl kZ) ?_
    show own_R p.tables e below _ (T.setTop (mkF m 16 #[.val (.ref a1), .val (.int p2), .val (.int p3), .val (.int p4), .val (.int p5), .val (.ref bw), .val (.int (Int32.ofNat k))] [(.int (Int32.ofNat k)), (.ref bw)]))
    refine own_by (fun _ kZ => XS.iconst X0.here hx rfl (hb hby d12_16) kZ) ?_
    show own_R p.tables e below _ (T.setTop (mkF m 17 #[.val (.ref a1), .val (.int p2), .val (.int p3), .val (.int p4), .val (.int p5), .val (.ref bw), .val (.int (Int32.ofNat k))] [(.int (0 : Int32)), (.int (Int32.ofNat k)), (.ref bw)]))
    obtain ⟨cl130, Ar130, hin130, -⟩ := Vw.rd (i := (Int32.ofNat k)) (p := k) (own_clamp (by omega)) (own_nn (by omega)) (by omega)
    obtain ⟨T131, h131, X131, e131, W131, st131⟩ := stI X0 hx hZ e0 Ar130 (j := (Int32.ofNat k)) hin130 (g := (mkF m 17 #[.val (.ref a1), .val (.int p2), .val (.int p3), .val (.int p4), .val (.int p5), .val (.ref bw), .val (.int (Int32.ofNat k))] [(.int (0 : Int32)), (.int (Int32.ofNat k)), (.ref bw)])) rfl rfl (hb hby d12_17)
    have f132_a1 : own_K .int Z h131 a1 .int n gg := Va.other W131 n1
    have Z133 : n0 ≤ h131.size := Nat.le_trans Z0 (Keep.of_wr W131).1
    have K133 : Keep h0 h131 [] := K0.wr W131 (Or.inr szw)
    have N133 := Fr.snoc X131 N0 gew
    have V131 : own_K .int Z h131 bw .int 4 (own_uk ww k (0 : Int32)) := Vw.set (i := (Int32.ofNat k)) (p := k) (own_clamp (by omega)) W131
    refine own_by st131 ?_
    show own_R p.tables e below _ (T131.setTop (mkF m 18 #[.val (.ref a1), .val (.int p2), .val (.int p3), .val (.int p4), .val (.int p5), .val (.ref bw), .val (.int (Int32.ofNat k))] []))
    refine own_by (fun _ kZ => XS.iinc X131.here hx rfl (hb hby d12_18) rfl (l' := #[.val (.ref a1), .val (.int p2), .val (.int p3), .val (.int p4), .val (.int p5), .val (.ref bw), .val (.int ((Int32.ofNat k) + (1 : Int32)))]) rfl kZ) ?_
    show own_R p.tables e below _ (T131.setTop (mkF m 21 #[.val (.ref a1), .val (.int p2), .val (.int p3), .val (.int p4), .val (.int p5), .val (.ref bw), .val (.int ((Int32.ofNat k) + (1 : Int32)))] []))
    rw [show ((Int32.ofNat k) + (1 : Int32)) = (Int32.ofNat (k + 1)) from own_add1 k]
    show own_R p.tables e below _ (T131.setTop (mkF m 21 #[.val (.ref a1), .val (.int p2), .val (.int p3), .val (.int p4), .val (.int p5), .val (.ref bw), .val (.int (Int32.ofNat (k + 1)))] []))
    have q := cont X131 e131 N133 Z133 K133 f132_a1 (by rw [own_ww, if_neg hc]; exact V131)
    rw [own_wk, if_neg hc] at q
    exact q
set_option maxRecDepth 65536 in
set_option maxHeartbeats 40000000 in
theorem mt1 {p : Program} {l : Launch} {e : Env} {R : Room} {s : State} {m : MethodId} {args : Array Value} {below : List Frame} {meth : Method} {cd : Code} {A : State → Outcome → Prop} {Z : State} {a0 : Array Value} {h0 : Heap} {n0 : Nat} (hx : p.tables.exec = Jvm.exec) (hZ : Z.Warmed39 s.vm) (hw : ∀ d ∈ tables_1, d.before a0 Z = true) (hby : cd.code = method_3_code) (hml : cd.maxLocals = 7) (hown : s.vm.findClass "com/example/frugal_scheduler/frugalscheduler/planners/CandidatesAddPinLaw" = some m.cls) (a1 bw : Addr) (p2 p3 p4 p5 : Int32) (n : Nat) (gg : Nat → Int32) (n1 : a1 ≠ bw) (gew : n0 ≤ bw) (szw : h0.size ≤ bw) (k : Nat) (hk : k ≤ 1) (ww : Nat → Int32) {T : State} {locs : List Loc} {cells slots : Nat} {h : Heap} (X0 : Stand p l e R s m args below meth cd T locs cells slots) (e0 : T.heap = h) (N0 : Fr n0 locs) (Z0 : n0 ≤ h.size) (K0 : Keep h0 h []) (Va : own_K .int Z h a1 .int n gg) (Vw : own_K .int Z h bw .int 4 ww)
      (cont : ∀ {T' : State} {locs' : List Loc} {h' : Heap} (_ : Stand p l e R s m args below meth cd T' locs' cells slots) (_ : T'.heap = h') (_ : Fr n0 locs') (_ : n0 ≤ h'.size) (_ : Keep h0 h' []) (_ : own_K .int Z h' a1 .int n gg) (_ : own_K .int Z h' bw .int 4 (own_ww p3 k ww (1 : Int32))), own_R p.tables e below A (T'.setTop (mkF m 34 #[.val (.ref a1), .val (.int p2), .val (.int p3), .val (.int p4), .val (.int p5), .val (.ref bw), .val (.int (Int32.ofNat (own_wk p3 k)))] []))) : own_R p.tables e below A (T.setTop (mkF m 21 #[.val (.ref a1), .val (.int p2), .val (.int p3), .val (.int p4), .val (.int p5), .val (.ref bw), .val (.int (Int32.ofNat k))] [])) := by
  show own_R p.tables e below _ (T.setTop (mkF m 21 #[.val (.ref a1), .val (.int p2), .val (.int p3), .val (.int p4), .val (.int p5), .val (.ref bw), .val (.int (Int32.ofNat k))] []))
  refine own_by (fun _ kZ => XS.iloadN X0.here hx rfl (hb hby d12_21) rfl kZ) ?_
  show own_R p.tables e below _ (T.setTop (mkF m 22 #[.val (.ref a1), .val (.int p2), .val (.int p3), .val (.int p4), .val (.int p5), .val (.ref bw), .val (.int (Int32.ofNat k))] [(.int p3)]))
  by_cases hc : p3 = (0 : Int32)
  · skip
    refine own_by (fun _ kZ => XS.ifYes X0.here hx rfl (pc0 := 22) (pc' := 34) rfl (hb hby d12_22) rfl ((if0 _ _).trans (teq hc).1) (by decide) (by decide) kZ) ?_
    show own_R p.tables e below _ (T.setTop (mkF m 34 #[.val (.ref a1), .val (.int p2), .val (.int p3), .val (.int p4), .val (.int p5), .val (.ref bw), .val (.int (Int32.ofNat k))] []))
    have q := cont X0 e0 N0 Z0 K0 Va (by rw [own_ww, if_pos hc]; exact Vw)
    rw [own_wk, if_pos hc] at q
    exact q
  · skip
    refine own_by (fun _ kZ => XS.ifNo X0.here hx rfl (hb hby d12_22) rfl ((if0 _ _).trans (feq hc).1) kZ) ?_
    show own_R p.tables e below _ (T.setTop (mkF m 25 #[.val (.ref a1), .val (.int p2), .val (.int p3), .val (.int p4), .val (.int p5), .val (.ref bw), .val (.int (Int32.ofNat k))] []))
    refine own_by (fun _ kZ => XS.aload X0.here hx rfl (hb hby d12_25) rfl rfl kZ) ?_
    show own_R p.tables e below _ (T.setTop (mkF m 27 #[.val (.ref a1), .val (.int p2), .val (.int p3), .val (.int p4), .val (.int p5), .val (.ref bw), .val (.int (Int32.ofNat k))] [(.ref bw)]))
    refine own_by (fun _ kZ => XS.iload X0.here hx rfl (hb hby d12_27) rfl kZ) ?_
    show own_R p.tables e below _ (T.setTop (mkF m 29 #[.val (.ref a1), .val (.int p2), .val (.int p3), .val (.int p4), .val (.int p5), .val (.ref bw), .val (.int (Int32.ofNat k))] [(.int (Int32.ofNat k)), (.ref bw)]))
    refine own_by (fun _ kZ => XS.iconst X0.here hx rfl (hb hby d12_29) kZ) ?_
    show own_R p.tables e below _ (T.setTop (mkF m 30 #[.val (.ref a1), .val (.int p2), .val (.int p3), .val (.int p4), .val (.int p5), .val (.ref bw), .val (.int (Int32.ofNat k))] [(.int (1 : Int32)), (.int (Int32.ofNat k)), (.ref bw)]))
    obtain ⟨cl134, Ar134, hin134, -⟩ := Vw.rd (i := (Int32.ofNat k)) (p := k) (own_clamp (by omega)) (own_nn (by omega)) (by omega)
    obtain ⟨T135, h135, X135, e135, W135, st135⟩ := stI X0 hx hZ e0 Ar134 (j := (Int32.ofNat k)) hin134 (g := (mkF m 30 #[.val (.ref a1), .val (.int p2), .val (.int p3), .val (.int p4), .val (.int p5), .val (.ref bw), .val (.int (Int32.ofNat k))] [(.int (1 : Int32)), (.int (Int32.ofNat k)), (.ref bw)])) rfl rfl (hb hby d12_30)
    have f136_a1 : own_K .int Z h135 a1 .int n gg := Va.other W135 n1
    have Z137 : n0 ≤ h135.size := Nat.le_trans Z0 (Keep.of_wr W135).1
    have K137 : Keep h0 h135 [] := K0.wr W135 (Or.inr szw)
    have N137 := Fr.snoc X135 N0 gew
    have V135 : own_K .int Z h135 bw .int 4 (own_uk ww k (1 : Int32)) := Vw.set (i := (Int32.ofNat k)) (p := k) (own_clamp (by omega)) W135
    refine own_by st135 ?_
    show own_R p.tables e below _ (T135.setTop (mkF m 31 #[.val (.ref a1), .val (.int p2), .val (.int p3), .val (.int p4), .val (.int p5), .val (.ref bw), .val (.int (Int32.ofNat k))] []))
    refine own_by (fun _ kZ => XS.iinc X135.here hx rfl (hb hby d12_31) rfl (l' := #[.val (.ref a1), .val (.int p2), .val (.int p3), .val (.int p4), .val (.int p5), .val (.ref bw), .val (.int ((Int32.ofNat k) + (1 : Int32)))]) rfl kZ) ?_
    show own_R p.tables e below _ (T135.setTop (mkF m 34 #[.val (.ref a1), .val (.int p2), .val (.int p3), .val (.int p4), .val (.int p5), .val (.ref bw), .val (.int ((Int32.ofNat k) + (1 : Int32)))] []))
    rw [show ((Int32.ofNat k) + (1 : Int32)) = (Int32.ofNat (k + 1)) from own_add1 k]
    show own_R p.tables e below _ (T135.setTop (mkF m 34 #[.val (.ref a1), .val (.int p2), .val (.int p3), .val (.int p4), .val (.int p5), .val (.ref bw), .val (.int (Int32.ofNat (k + 1)))] []))
    have q := cont X135 e135 N137 Z137 K137 f136_a1 (by rw [own_ww, if_neg hc]; exact V135)
    rw [own_wk, if_neg hc] at q
    exact q
set_option maxRecDepth 65536 in
set_option maxHeartbeats 40000000 in
theorem mt2 {p : Program} {l : Launch} {e : Env} {R : Room} {s : State} {m : MethodId} {args : Array Value} {below : List Frame} {meth : Method} {cd : Code} {A : State → Outcome → Prop} {Z : State} {a0 : Array Value} {h0 : Heap} {n0 : Nat} (hx : p.tables.exec = Jvm.exec) (hZ : Z.Warmed39 s.vm) (hw : ∀ d ∈ tables_1, d.before a0 Z = true) (hby : cd.code = method_3_code) (hml : cd.maxLocals = 7) (hown : s.vm.findClass "com/example/frugal_scheduler/frugalscheduler/planners/CandidatesAddPinLaw" = some m.cls) (a1 bw : Addr) (p2 p3 p4 p5 : Int32) (n : Nat) (gg : Nat → Int32) (n1 : a1 ≠ bw) (gew : n0 ≤ bw) (szw : h0.size ≤ bw) (k : Nat) (hk : k ≤ 2) (ww : Nat → Int32) {T : State} {locs : List Loc} {cells slots : Nat} {h : Heap} (X0 : Stand p l e R s m args below meth cd T locs cells slots) (e0 : T.heap = h) (N0 : Fr n0 locs) (Z0 : n0 ≤ h.size) (K0 : Keep h0 h []) (Va : own_K .int Z h a1 .int n gg) (Vw : own_K .int Z h bw .int 4 ww)
      (cont : ∀ {T' : State} {locs' : List Loc} {h' : Heap} (_ : Stand p l e R s m args below meth cd T' locs' cells slots) (_ : T'.heap = h') (_ : Fr n0 locs') (_ : n0 ≤ h'.size) (_ : Keep h0 h' []) (_ : own_K .int Z h' a1 .int n gg) (_ : own_K .int Z h' bw .int 4 (own_ww p4 k ww (2 : Int32))), own_R p.tables e below A (T'.setTop (mkF m 47 #[.val (.ref a1), .val (.int p2), .val (.int p3), .val (.int p4), .val (.int p5), .val (.ref bw), .val (.int (Int32.ofNat (own_wk p4 k)))] []))) : own_R p.tables e below A (T.setTop (mkF m 34 #[.val (.ref a1), .val (.int p2), .val (.int p3), .val (.int p4), .val (.int p5), .val (.ref bw), .val (.int (Int32.ofNat k))] [])) := by
  show own_R p.tables e below _ (T.setTop (mkF m 34 #[.val (.ref a1), .val (.int p2), .val (.int p3), .val (.int p4), .val (.int p5), .val (.ref bw), .val (.int (Int32.ofNat k))] []))
  refine own_by (fun _ kZ => XS.iloadN X0.here hx rfl (hb hby d12_34) rfl kZ) ?_
  show own_R p.tables e below _ (T.setTop (mkF m 35 #[.val (.ref a1), .val (.int p2), .val (.int p3), .val (.int p4), .val (.int p5), .val (.ref bw), .val (.int (Int32.ofNat k))] [(.int p4)]))
  by_cases hc : p4 = (0 : Int32)
  · skip
    refine own_by (fun _ kZ => XS.ifYes X0.here hx rfl (pc0 := 35) (pc' := 47) rfl (hb hby d12_35) rfl ((if0 _ _).trans (teq hc).1) (by decide) (by decide) kZ) ?_
    show own_R p.tables e below _ (T.setTop (mkF m 47 #[.val (.ref a1), .val (.int p2), .val (.int p3), .val (.int p4), .val (.int p5), .val (.ref bw), .val (.int (Int32.ofNat k))] []))
    have q := cont X0 e0 N0 Z0 K0 Va (by rw [own_ww, if_pos hc]; exact Vw)
    rw [own_wk, if_pos hc] at q
    exact q
  · skip
    refine own_by (fun _ kZ => XS.ifNo X0.here hx rfl (hb hby d12_35) rfl ((if0 _ _).trans (feq hc).1) kZ) ?_
    show own_R p.tables e below _ (T.setTop (mkF m 38 #[.val (.ref a1), .val (.int p2), .val (.int p3), .val (.int p4), .val (.int p5), .val (.ref bw), .val (.int (Int32.ofNat k))] []))
    refine own_by (fun _ kZ => XS.aload X0.here hx rfl (hb hby d12_38) rfl rfl kZ) ?_
    show own_R p.tables e below _ (T.setTop (mkF m 40 #[.val (.ref a1), .val (.int p2), .val (.int p3), .val (.int p4), .val (.int p5), .val (.ref bw), .val (.int (Int32.ofNat k))] [(.ref bw)]))
    refine own_by (fun _ kZ => XS.iload X0.here hx rfl (hb hby d12_40) rfl kZ) ?_
    show own_R p.tables e below _ (T.setTop (mkF m 42 #[.val (.ref a1), .val (.int p2), .val (.int p3), .val (.int p4), .val (.int p5), .val (.ref bw), .val (.int (Int32.ofNat k))] [(.int (Int32.ofNat k)), (.ref bw)]))
    refine own_by (fun _ kZ => XS.iconst X0.here hx rfl (hb hby d12_42) kZ) ?_
    show own_R p.tables e below _ (T.setTop (mkF m 43 #[.val (.ref a1), .val (.int p2), .val (.int p3), .val (.int p4), .val (.int p5), .val (.ref bw), .val (.int (Int32.ofNat k))] [(.int (2 : Int32)), (.int (Int32.ofNat k)), (.ref bw)]))
    obtain ⟨cl138, Ar138, hin138, -⟩ := Vw.rd (i := (Int32.ofNat k)) (p := k) (own_clamp (by omega)) (own_nn (by omega)) (by omega)
    obtain ⟨T139, h139, X139, e139, W139, st139⟩ := stI X0 hx hZ e0 Ar138 (j := (Int32.ofNat k)) hin138 (g := (mkF m 43 #[.val (.ref a1), .val (.int p2), .val (.int p3), .val (.int p4), .val (.int p5), .val (.ref bw), .val (.int (Int32.ofNat k))] [(.int (2 : Int32)), (.int (Int32.ofNat k)), (.ref bw)])) rfl rfl (hb hby d12_43)
    have f140_a1 : own_K .int Z h139 a1 .int n gg := Va.other W139 n1
    have Z141 : n0 ≤ h139.size := Nat.le_trans Z0 (Keep.of_wr W139).1
    have K141 : Keep h0 h139 [] := K0.wr W139 (Or.inr szw)
    have N141 := Fr.snoc X139 N0 gew
    have V139 : own_K .int Z h139 bw .int 4 (own_uk ww k (2 : Int32)) := Vw.set (i := (Int32.ofNat k)) (p := k) (own_clamp (by omega)) W139
    refine own_by st139 ?_
    show own_R p.tables e below _ (T139.setTop (mkF m 44 #[.val (.ref a1), .val (.int p2), .val (.int p3), .val (.int p4), .val (.int p5), .val (.ref bw), .val (.int (Int32.ofNat k))] []))
    refine own_by (fun _ kZ => XS.iinc X139.here hx rfl (hb hby d12_44) rfl (l' := #[.val (.ref a1), .val (.int p2), .val (.int p3), .val (.int p4), .val (.int p5), .val (.ref bw), .val (.int ((Int32.ofNat k) + (1 : Int32)))]) rfl kZ) ?_
    show own_R p.tables e below _ (T139.setTop (mkF m 47 #[.val (.ref a1), .val (.int p2), .val (.int p3), .val (.int p4), .val (.int p5), .val (.ref bw), .val (.int ((Int32.ofNat k) + (1 : Int32)))] []))
    rw [show ((Int32.ofNat k) + (1 : Int32)) = (Int32.ofNat (k + 1)) from own_add1 k]
    show own_R p.tables e below _ (T139.setTop (mkF m 47 #[.val (.ref a1), .val (.int p2), .val (.int p3), .val (.int p4), .val (.int p5), .val (.ref bw), .val (.int (Int32.ofNat (k + 1)))] []))
    have q := cont X139 e139 N141 Z141 K141 f140_a1 (by rw [own_ww, if_neg hc]; exact V139)
    rw [own_wk, if_neg hc] at q
    exact q
set_option maxRecDepth 65536 in
set_option maxHeartbeats 40000000 in
theorem mt3 {p : Program} {l : Launch} {e : Env} {R : Room} {s : State} {m : MethodId} {args : Array Value} {below : List Frame} {meth : Method} {cd : Code} {A : State → Outcome → Prop} {Z : State} {a0 : Array Value} {h0 : Heap} {n0 : Nat} (hx : p.tables.exec = Jvm.exec) (hZ : Z.Warmed39 s.vm) (hw : ∀ d ∈ tables_1, d.before a0 Z = true) (hby : cd.code = method_3_code) (hml : cd.maxLocals = 7) (hown : s.vm.findClass "com/example/frugal_scheduler/frugalscheduler/planners/CandidatesAddPinLaw" = some m.cls) (a1 bw : Addr) (p2 p3 p4 p5 : Int32) (n : Nat) (gg : Nat → Int32) (n1 : a1 ≠ bw) (gew : n0 ≤ bw) (szw : h0.size ≤ bw) (k : Nat) (hk : k ≤ 3) (ww : Nat → Int32) {T : State} {locs : List Loc} {cells slots : Nat} {h : Heap} (X0 : Stand p l e R s m args below meth cd T locs cells slots) (e0 : T.heap = h) (N0 : Fr n0 locs) (Z0 : n0 ≤ h.size) (K0 : Keep h0 h []) (Va : own_K .int Z h a1 .int n gg) (Vw : own_K .int Z h bw .int 4 ww)
      (cont : ∀ {T' : State} {locs' : List Loc} {h' : Heap} (_ : Stand p l e R s m args below meth cd T' locs' cells slots) (_ : T'.heap = h') (_ : Fr n0 locs') (_ : n0 ≤ h'.size) (_ : Keep h0 h' []) (_ : own_K .int Z h' a1 .int n gg) (_ : own_K .int Z h' bw .int 4 (own_ww p5 k ww (3 : Int32))), own_R p.tables e below A (T'.setTop (mkF m 61 #[.val (.ref a1), .val (.int p2), .val (.int p3), .val (.int p4), .val (.int p5), .val (.ref bw), .val (.int (Int32.ofNat (own_wk p5 k)))] []))) : own_R p.tables e below A (T.setTop (mkF m 47 #[.val (.ref a1), .val (.int p2), .val (.int p3), .val (.int p4), .val (.int p5), .val (.ref bw), .val (.int (Int32.ofNat k))] [])) := by
  show own_R p.tables e below _ (T.setTop (mkF m 47 #[.val (.ref a1), .val (.int p2), .val (.int p3), .val (.int p4), .val (.int p5), .val (.ref bw), .val (.int (Int32.ofNat k))] []))
  refine own_by (fun _ kZ => XS.iload X0.here hx rfl (hb hby d12_47) rfl kZ) ?_
  show own_R p.tables e below _ (T.setTop (mkF m 49 #[.val (.ref a1), .val (.int p2), .val (.int p3), .val (.int p4), .val (.int p5), .val (.ref bw), .val (.int (Int32.ofNat k))] [(.int p5)]))
  by_cases hc : p5 = (0 : Int32)
  · skip
    refine own_by (fun _ kZ => XS.ifYes X0.here hx rfl (pc0 := 49) (pc' := 61) rfl (hb hby d12_49) rfl ((if0 _ _).trans (teq hc).1) (by decide) (by decide) kZ) ?_
    show own_R p.tables e below _ (T.setTop (mkF m 61 #[.val (.ref a1), .val (.int p2), .val (.int p3), .val (.int p4), .val (.int p5), .val (.ref bw), .val (.int (Int32.ofNat k))] []))
    have q := cont X0 e0 N0 Z0 K0 Va (by rw [own_ww, if_pos hc]; exact Vw)
    rw [own_wk, if_pos hc] at q
    exact q
  · skip
    refine own_by (fun _ kZ => XS.ifNo X0.here hx rfl (hb hby d12_49) rfl ((if0 _ _).trans (feq hc).1) kZ) ?_
    show own_R p.tables e below _ (T.setTop (mkF m 52 #[.val (.ref a1), .val (.int p2), .val (.int p3), .val (.int p4), .val (.int p5), .val (.ref bw), .val (.int (Int32.ofNat k))] []))
    refine own_by (fun _ kZ => XS.aload X0.here hx rfl (hb hby d12_52) rfl rfl kZ) ?_
    show own_R p.tables e below _ (T.setTop (mkF m 54 #[.val (.ref a1), .val (.int p2), .val (.int p3), .val (.int p4), .val (.int p5), .val (.ref bw), .val (.int (Int32.ofNat k))] [(.ref bw)]))
    refine own_by (fun _ kZ => XS.iload X0.here hx rfl (hb hby d12_54) rfl kZ) ?_
    show own_R p.tables e below _ (T.setTop (mkF m 56 #[.val (.ref a1), .val (.int p2), .val (.int p3), .val (.int p4), .val (.int p5), .val (.ref bw), .val (.int (Int32.ofNat k))] [(.int (Int32.ofNat k)), (.ref bw)]))
    refine own_by (fun _ kZ => XS.iconst X0.here hx rfl (hb hby d12_56) kZ) ?_
    show own_R p.tables e below _ (T.setTop (mkF m 57 #[.val (.ref a1), .val (.int p2), .val (.int p3), .val (.int p4), .val (.int p5), .val (.ref bw), .val (.int (Int32.ofNat k))] [(.int (3 : Int32)), (.int (Int32.ofNat k)), (.ref bw)]))
    obtain ⟨cl142, Ar142, hin142, -⟩ := Vw.rd (i := (Int32.ofNat k)) (p := k) (own_clamp (by omega)) (own_nn (by omega)) (by omega)
    obtain ⟨T143, h143, X143, e143, W143, st143⟩ := stI X0 hx hZ e0 Ar142 (j := (Int32.ofNat k)) hin142 (g := (mkF m 57 #[.val (.ref a1), .val (.int p2), .val (.int p3), .val (.int p4), .val (.int p5), .val (.ref bw), .val (.int (Int32.ofNat k))] [(.int (3 : Int32)), (.int (Int32.ofNat k)), (.ref bw)])) rfl rfl (hb hby d12_57)
    have f144_a1 : own_K .int Z h143 a1 .int n gg := Va.other W143 n1
    have Z145 : n0 ≤ h143.size := Nat.le_trans Z0 (Keep.of_wr W143).1
    have K145 : Keep h0 h143 [] := K0.wr W143 (Or.inr szw)
    have N145 := Fr.snoc X143 N0 gew
    have V143 : own_K .int Z h143 bw .int 4 (own_uk ww k (3 : Int32)) := Vw.set (i := (Int32.ofNat k)) (p := k) (own_clamp (by omega)) W143
    refine own_by st143 ?_
    show own_R p.tables e below _ (T143.setTop (mkF m 58 #[.val (.ref a1), .val (.int p2), .val (.int p3), .val (.int p4), .val (.int p5), .val (.ref bw), .val (.int (Int32.ofNat k))] []))
    refine own_by (fun _ kZ => XS.iinc X143.here hx rfl (hb hby d12_58) rfl (l' := #[.val (.ref a1), .val (.int p2), .val (.int p3), .val (.int p4), .val (.int p5), .val (.ref bw), .val (.int ((Int32.ofNat k) + (1 : Int32)))]) rfl kZ) ?_
    show own_R p.tables e below _ (T143.setTop (mkF m 61 #[.val (.ref a1), .val (.int p2), .val (.int p3), .val (.int p4), .val (.int p5), .val (.ref bw), .val (.int ((Int32.ofNat k) + (1 : Int32)))] []))
    rw [show ((Int32.ofNat k) + (1 : Int32)) = (Int32.ofNat (k + 1)) from own_add1 k]
    show own_R p.tables e below _ (T143.setTop (mkF m 61 #[.val (.ref a1), .val (.int p2), .val (.int p3), .val (.int p4), .val (.int p5), .val (.ref bw), .val (.int (Int32.ofNat (k + 1)))] []))
    have q := cont X143 e143 N145 Z145 K145 f144_a1 (by rw [own_ww, if_neg hc]; exact V143)
    rw [own_wk, if_neg hc] at q
    exact q
theorem ef_12 (m : MethodId) (a1 : Addr) (p2 : Int32) (p3 : Int32) (p4 : Int32) (p5 : Int32) : entryFrame m #[(.ref a1), (.int p2), (.int p3), (.int p4), (.int p5)] 7 = mkF m 0 #[.val (.ref a1), .val (.int p2), .val (.int p3), .val (.int p4), .val (.int p5), .unset, .unset] [] := by first | (simp [entryFrame, mkF, argsToLocals, Value.category]; done) | rfl
def Q12 (Z : State) (a1 : Addr) (p2 : Int32) (p3 : Int32) (p4 : Int32) (p5 : Int32) (n : Nat) (gg : Nat → Int32) (h0 : Heap) (n0 : Nat) (v : Option Value) (h : Heap) (L : List Loc) : Prop := v = some (.int 1) ∧ Fr n0 L ∧ Keep h0 h []
set_option maxRecDepth 65536 in
set_option maxHeartbeats 40000000 in
theorem rm12 (l : Launch) (Z : State) (a0 : Array Value) (hw : ∀ d ∈ tables_1, d.before a0 Z = true) (ws : List Jvm.Cond) (a1 : Addr) (p2 : Int32) (p3 : Int32) (p4 : Int32) (p5 : Int32) (n : Nat) (gg : Nat → Int32) (h0 : Heap) (n0 : Nat) (Z0 : n0 ≤ h0.size) (ln : n ≤ 4) (V : own_K .int Z h0 a1 .int n gg) (hk : n = own_k4 p2 p3 p4 p5) (hg : ∀ j, j < n → gg j = own_w4 p2 p3 p4 p5 j) :
    MetFree l (⟨"com/example/frugal_scheduler/frugalscheduler/planners/CandidatesAddPinLaw", "matches", "([IZZZZ)Z"⟩ : MethodName) (head1 (Jvm.Cond.code (⟨"com/example/frugal_scheduler/frugalscheduler/planners/CandidatesAddPinLaw", "matches", "([IZZZZ)Z"⟩ : MethodName) method_3_code 7 (some .boolean) :: ws) ({ frames := 0, cells := 1, slots := 4, locals := 0 } : Room)) (fun a U => a = #[(.ref a1), (.int p2), (.int p3), (.int p4), (.int p5)] ∧ Z.Warmed39 U.vm ∧ U.heap = h0) (fun _ _ _ _ _ => True) (fun _ U o U' => ∃ v L, o = .returned v ∧ Q12 Z a1 p2 p3 p4 p5 n gg h0 n0 v U'.heap L ∧ FrameEnd U o U' L ({ frames := 0, cells := 1, slots := 4, locals := 0 } : Room).cells ({ frames := 0, cells := 1, slots := 4, locals := 0 } : Room).slots) := by
  refine MetFree.of_bodySF (plainFor_of_name pn_12) hisR ?_
  intro p e s m args below meth cd s₁ Bd hml0 hP hK
  obtain ⟨rfl, hZ, hh⟩ := hP
  have hx := Bd.exec
  have hby := Bd.bytes
  have hml : cd.maxLocals = 7 := hml0
  have hown : s.vm.findClass "com/example/frugal_scheduler/frugalscheduler/planners/CandidatesAddPinLaw" = some m.cls := findClass_of_methodNamed Bd.named
  have hnm := (name_of_methodNamed Bd.named Bd.method).1
  have X0 : Stand p l e ({ frames := 0, cells := 1, slots := 4, locals := 0 } : Room) s m #[(.ref a1), (.int p2), (.int p3), (.int p4), (.int p5)] below meth cd s₁ [] 0 0 := Stand.of_body Bd
  have e0 : s₁.heap = h0 := by rw [← hh, Bd.state]; rfl
  have N0 := Fr.nil n0
  show own_R p.tables e below _ (s₁.setTop (entryFrame m #[(.ref a1), (.int p2), (.int p3), (.int p4), (.int p5)] 7))
  refine own_by (fun t kZ => castTop (ef_12 m a1 p2 p3 p4 p5) kZ) ?_
  show own_R p.tables e below _ (s₁.setTop (mkF m 0 #[.val (.ref a1), .val (.int p2), .val (.int p3), .val (.int p4), .val (.int p5), .unset, .unset] []))
  refine own_by (fun _ kZ => XS.iconst X0.here hx rfl (hb hby d12_0) kZ) ?_
  show own_R p.tables e below _ (s₁.setTop (mkF m 1 #[.val (.ref a1), .val (.int p2), .val (.int p3), .val (.int p4), .val (.int p5), .unset, .unset] [(.int (4 : Int32))]))
  obtain ⟨T146, h146, k146, X146, e146, E146, A146, st146⟩ := newP X0 hx hZ (hw _ (List.mem_of_getElem? (i := 11) rfl)) e0 (g := (mkF m 1 #[.val (.ref a1), .val (.int p2), .val (.int p3), .val (.int p4), .val (.int p5), .unset, .unset] [(.int (4 : Int32))])) rfl (hb hby d12_1) rfl (by decide) (cap := 4) (by decide) (by decide) (by decide) (by decide)
  obtain ⟨bw, g146⟩ : ∃ z, z = h0.size := ⟨_, rfl⟩
  have ne_a1_bw : a1 ≠ bw := Nat.ne_of_lt (Nat.lt_of_lt_of_le V.lt (Nat.le_of_eq g146.symm))
  have ge_bw : n0 ≤ bw := Nat.le_trans Z0 (Nat.le_of_eq g146.symm)
  have sz_bw : h0.size ≤ bw := Nat.le_trans (Keep.refl h0 []).1 (Nat.le_of_eq g146.symm)
  rw [← g146] at A146 st146
  have f147_a1 : own_K .int Z h146 a1 .int n gg := V.ext E146
  have Z148 : n0 ≤ h146.size := Nat.le_trans Z0 E146.1
  have K148 : Keep h0 h146 [] := (Keep.refl h0 []).ext E146
  have V146 : own_K .int Z h146 bw .int 4 (fun _ => (0 : Int32)) := own_K.new A146 (by decide) rfl rfl
  refine own_by st146 ?_
  show own_R p.tables e below _ (T146.setTop (mkF m 3 #[.val (.ref a1), .val (.int p2), .val (.int p3), .val (.int p4), .val (.int p5), .unset, .unset] [(.ref bw)]))
  refine own_by (fun _ kZ => XS.astore X146.here hx rfl (hb hby d12_3) rfl rfl (l' := #[.val (.ref a1), .val (.int p2), .val (.int p3), .val (.int p4), .val (.int p5), .val (.ref bw), .unset]) rfl kZ) ?_
  show own_R p.tables e below _ (T146.setTop (mkF m 5 #[.val (.ref a1), .val (.int p2), .val (.int p3), .val (.int p4), .val (.int p5), .val (.ref bw), .unset] []))
  refine own_by (fun _ kZ => XS.iconst X146.here hx rfl (hb hby d12_5) kZ) ?_
  show own_R p.tables e below _ (T146.setTop (mkF m 6 #[.val (.ref a1), .val (.int p2), .val (.int p3), .val (.int p4), .val (.int p5), .val (.ref bw), .unset] [(.int (0 : Int32))]))
  refine own_by (fun _ kZ => XS.istore X146.here hx rfl (hb hby d12_6) rfl (l' := #[.val (.ref a1), .val (.int p2), .val (.int p3), .val (.int p4), .val (.int p5), .val (.ref bw), .val (.int (0 : Int32))]) rfl kZ) ?_
  show own_R p.tables e below _ (T146.setTop (mkF m 8 #[.val (.ref a1), .val (.int p2), .val (.int p3), .val (.int p4), .val (.int p5), .val (.ref bw), .val (.int (0 : Int32))] []))
  show own_R p.tables e below _ (T146.setTop (mkF m 8 #[.val (.ref a1), .val (.int p2), .val (.int p3), .val (.int p4), .val (.int p5), .val (.ref bw), .val (.int (Int32.ofNat 0))] []))
  refine mt0 hx hZ hw hby hml hown a1 bw p2 p3 p4 p5 n gg ne_a1_bw ge_bw sz_bw 0 (Nat.zero_le _) (fun _ => (0 : Int32)) X146 e146 N0 Z148 K148 f147_a1 V146 ?_
  intro T149 locs149 h149 X149 e149 N149 Z149 K149 Va149 Vw149
  show own_R p.tables e below _ (T149.setTop (mkF m 21 #[.val (.ref a1), .val (.int p2), .val (.int p3), .val (.int p4), .val (.int p5), .val (.ref bw), .val (.int (Int32.ofNat (own_wk p2 0)))] []))
  refine mt1 hx hZ hw hby hml hown a1 bw p2 p3 p4 p5 n gg ne_a1_bw ge_bw sz_bw (own_wk p2 0) (by have := own_wkle p2 0; skip; omega) (own_ww p2 0 (fun _ => (0 : Int32)) (0 : Int32)) X149 e149 N149 Z149 K149 Va149 Vw149 ?_
  intro T150 locs150 h150 X150 e150 N150 Z150 K150 Va150 Vw150
  show own_R p.tables e below _ (T150.setTop (mkF m 34 #[.val (.ref a1), .val (.int p2), .val (.int p3), .val (.int p4), .val (.int p5), .val (.ref bw), .val (.int (Int32.ofNat (own_wk p3 (own_wk p2 0))))] []))
  refine mt2 hx hZ hw hby hml hown a1 bw p2 p3 p4 p5 n gg ne_a1_bw ge_bw sz_bw (own_wk p3 (own_wk p2 0)) (by have := own_wkle p2 0; have := own_wkle p3 (own_wk p2 0); omega) (own_ww p3 (own_wk p2 0) (own_ww p2 0 (fun _ => (0 : Int32)) (0 : Int32)) (1 : Int32)) X150 e150 N150 Z150 K150 Va150 Vw150 ?_
  intro T151 locs151 h151 X151 e151 N151 Z151 K151 Va151 Vw151
  show own_R p.tables e below _ (T151.setTop (mkF m 47 #[.val (.ref a1), .val (.int p2), .val (.int p3), .val (.int p4), .val (.int p5), .val (.ref bw), .val (.int (Int32.ofNat (own_wk p4 (own_wk p3 (own_wk p2 0)))))] []))
  refine mt3 hx hZ hw hby hml hown a1 bw p2 p3 p4 p5 n gg ne_a1_bw ge_bw sz_bw (own_wk p4 (own_wk p3 (own_wk p2 0))) (by have := own_wkle p2 0; have := own_wkle p3 (own_wk p2 0); have := own_wkle p4 (own_wk p3 (own_wk p2 0)); omega) (own_ww p4 (own_wk p3 (own_wk p2 0)) (own_ww p3 (own_wk p2 0) (own_ww p2 0 (fun _ => (0 : Int32)) (0 : Int32)) (1 : Int32)) (2 : Int32)) X151 e151 N151 Z151 K151 Va151 Vw151 ?_
  intro T152 locs152 h152 X152 e152 N152 Z152 K152 Va152 Vw152
  show own_R p.tables e below _ (T152.setTop (mkF m 61 #[.val (.ref a1), .val (.int p2), .val (.int p3), .val (.int p4), .val (.int p5), .val (.ref bw), .val (.int (Int32.ofNat (own_wk p5 (own_wk p4 (own_wk p3 (own_wk p2 0))))))] []))
  have hk' : (own_wk p5 (own_wk p4 (own_wk p3 (own_wk p2 0)))) = n := hk.symm
  rw [hk']
  show own_R p.tables e below _ (T152.setTop (mkF m 61 #[.val (.ref a1), .val (.int p2), .val (.int p3), .val (.int p4), .val (.int p5), .val (.ref bw), .val (.int (Int32.ofNat n))] []))
  refine own_by (fun _ kZ => XS.aloadN X152.here hx rfl (hb hby d12_61) rfl rfl kZ) ?_
  show own_R p.tables e below _ (T152.setTop (mkF m 62 #[.val (.ref a1), .val (.int p2), .val (.int p3), .val (.int p4), .val (.int p5), .val (.ref bw), .val (.int (Int32.ofNat n))] [(.ref a1)]))
  obtain ⟨cl153, Ar153, hln153⟩ := Va152.ln
  refine own_by (fun _ kZ => X152.arraylength hx (by rw [e152]; exact Ar153.1) (State.isArrayOf_alike hZ.alike Ar153.2.1) (g := (mkF m 62 #[.val (.ref a1), .val (.int p2), .val (.int p3), .val (.int p4), .val (.int p5), .val (.ref bw), .val (.int (Int32.ofNat n))] [(.ref a1)])) rfl rfl (hb hby d12_62) _ kZ) ?_
  rw [hln153]
  show own_R p.tables e below _ (T152.setTop (mkF m 63 #[.val (.ref a1), .val (.int p2), .val (.int p3), .val (.int p4), .val (.int p5), .val (.ref bw), .val (.int (Int32.ofNat n))] [(.int (Int32.ofNat n))]))
  refine own_by (fun _ kZ => XS.iload X152.here hx rfl (hb hby d12_63) rfl kZ) ?_
  show own_R p.tables e below _ (T152.setTop (mkF m 65 #[.val (.ref a1), .val (.int p2), .val (.int p3), .val (.int p4), .val (.int p5), .val (.ref bw), .val (.int (Int32.ofNat n))] [(.int (Int32.ofNat n)), (.int (Int32.ofNat n))]))
  refine own_by (fun _ kZ => XS.icmpYes X152.here hx rfl (pc0 := 65) (pc' := 70) rfl (hb hby d12_65) rfl (teq (rfl : Int32.ofNat n = Int32.ofNat n)).1 (by decide) (by decide) kZ) ?_
  show own_R p.tables e below _ (T152.setTop (mkF m 70 #[.val (.ref a1), .val (.int p2), .val (.int p3), .val (.int p4), .val (.int p5), .val (.ref bw), .val (.int (Int32.ofNat n))] []))
  refine own_by (fun _ kZ => XS.iload X152.here hx rfl (hb hby d12_70) rfl kZ) ?_
  show own_R p.tables e below _ (T152.setTop (mkF m 72 #[.val (.ref a1), .val (.int p2), .val (.int p3), .val (.int p4), .val (.int p5), .val (.ref bw), .val (.int (Int32.ofNat n))] [(.int (Int32.ofNat n))]))
  refine own_by (fun _ kZ => XS.iconst X152.here hx rfl (hb hby d12_72) kZ) ?_
  show own_R p.tables e below _ (T152.setTop (mkF m 73 #[.val (.ref a1), .val (.int p2), .val (.int p3), .val (.int p4), .val (.int p5), .val (.ref bw), .val (.int (Int32.ofNat n))] [(.int (1 : Int32)), (.int (Int32.ofNat n))]))
  refine own_by (S' := T152.setTop (mkF m 86 #[.val (.ref a1), .val (.int p2), .val (.int p3), .val (.int p4), .val (.int p5), .val (.ref bw), .val (.int (Int32.ofNat n))] [])) (fun _ kZ => ?_) ?_
  · skip
    show Steps p.tables e below (T152.setTop (mkF m 73 #[.val (.ref a1), .val (.int p2), .val (.int p3), .val (.int p4), .val (.int p5), .val (.ref bw), .val (.int (Int32.ofNat n))] [(.int (1 : Int32)), (.int (Int32.ofNat n))])) _
    by_cases hd73 : (Int32.ofNat n) < (1 : Int32)
    · skip
      refine XS.icmpYes X152.here hx rfl (pc0 := 73) (pc' := 86) rfl (hb hby d12_73) rfl (tlt hd73).1 (by decide) (by decide) ?_
      show Steps p.tables e below (T152.setTop (mkF m 86 #[.val (.ref a1), .val (.int p2), .val (.int p3), .val (.int p4), .val (.int p5), .val (.ref bw), .val (.int (Int32.ofNat n))] [])) _
      exact kZ
    · skip
      refine XS.icmpNo X152.here hx rfl (hb hby d12_73) rfl (flt hd73).1 ?_
      show Steps p.tables e below (T152.setTop (mkF m 76 #[.val (.ref a1), .val (.int p2), .val (.int p3), .val (.int p4), .val (.int p5), .val (.ref bw), .val (.int (Int32.ofNat n))] [])) _
      refine XS.aloadN X152.here hx rfl (hb hby d12_76) rfl rfl ?_
      show Steps p.tables e below (T152.setTop (mkF m 77 #[.val (.ref a1), .val (.int p2), .val (.int p3), .val (.int p4), .val (.int p5), .val (.ref bw), .val (.int (Int32.ofNat n))] [(.ref a1)])) _
      refine XS.iconst X152.here hx rfl (hb hby d12_77) ?_
      show Steps p.tables e below (T152.setTop (mkF m 78 #[.val (.ref a1), .val (.int p2), .val (.int p3), .val (.int p4), .val (.int p5), .val (.ref bw), .val (.int (Int32.ofNat n))] [(.int (0 : Int32)), (.ref a1)])) _
      obtain ⟨cl154, Ar154, hin154, hat154⟩ := Va152.rd (i := (0 : Int32)) (p := 0) rfl (by decide) (by first | decide | exact (own_kge (c := 1) (by omega) (by decide) hd73))
      refine X152.iaload hx (j := (0 : Int32)) (v := (.int (gg 0))) (by rw [e152]; exact Ar154.1) (State.isArrayOf_alike hZ.alike Ar154.2.1) Ar154.2.2 hin154 hat154 (g := (mkF m 78 #[.val (.ref a1), .val (.int p2), .val (.int p3), .val (.int p4), .val (.int p5), .val (.ref bw), .val (.int (Int32.ofNat n))] [(.int (0 : Int32)), (.ref a1)])) rfl rfl (hb hby d12_78) _ ?_
      show Steps p.tables e below (T152.setTop (mkF m 79 #[.val (.ref a1), .val (.int p2), .val (.int p3), .val (.int p4), .val (.int p5), .val (.ref bw), .val (.int (Int32.ofNat n))] [(.int (gg 0))])) _
      refine XS.aload X152.here hx rfl (hb hby d12_79) rfl rfl ?_
      show Steps p.tables e below (T152.setTop (mkF m 81 #[.val (.ref a1), .val (.int p2), .val (.int p3), .val (.int p4), .val (.int p5), .val (.ref bw), .val (.int (Int32.ofNat n))] [(.ref bw), (.int (gg 0))])) _
      refine XS.iconst X152.here hx rfl (hb hby d12_81) ?_
      show Steps p.tables e below (T152.setTop (mkF m 82 #[.val (.ref a1), .val (.int p2), .val (.int p3), .val (.int p4), .val (.int p5), .val (.ref bw), .val (.int (Int32.ofNat n))] [(.int (0 : Int32)), (.ref bw), (.int (gg 0))])) _
      obtain ⟨cl155, Ar155, hin155, hat155⟩ := Vw152.rd (i := (0 : Int32)) (p := 0) rfl (by decide) (by first | decide | exact (own_kge (c := 1) (by omega) (by decide) hd73))
      refine X152.iaload hx (j := (0 : Int32)) (v := (.int ((own_ww p5 (own_wk p4 (own_wk p3 (own_wk p2 0))) (own_ww p4 (own_wk p3 (own_wk p2 0)) (own_ww p3 (own_wk p2 0) (own_ww p2 0 (fun _ => (0 : Int32)) (0 : Int32)) (1 : Int32)) (2 : Int32)) (3 : Int32)) 0))) (by rw [e152]; exact Ar155.1) (State.isArrayOf_alike hZ.alike Ar155.2.1) Ar155.2.2 hin155 hat155 (g := (mkF m 82 #[.val (.ref a1), .val (.int p2), .val (.int p3), .val (.int p4), .val (.int p5), .val (.ref bw), .val (.int (Int32.ofNat n))] [(.int (0 : Int32)), (.ref bw), (.int (gg 0))])) rfl rfl (hb hby d12_82) _ ?_
      show Steps p.tables e below (T152.setTop (mkF m 83 #[.val (.ref a1), .val (.int p2), .val (.int p3), .val (.int p4), .val (.int p5), .val (.ref bw), .val (.int (Int32.ofNat n))] [(.int ((own_ww p5 (own_wk p4 (own_wk p3 (own_wk p2 0))) (own_ww p4 (own_wk p3 (own_wk p2 0)) (own_ww p3 (own_wk p2 0) (own_ww p2 0 (fun _ => (0 : Int32)) (0 : Int32)) (1 : Int32)) (2 : Int32)) (3 : Int32)) 0)), (.int (gg 0))])) _
      refine XS.icmpNo X152.here hx rfl (hb hby d12_83) rfl (teq (hg 0 (own_kge (c := 1) (by omega) (by decide) hd73))).2 ?_
      show Steps p.tables e below (T152.setTop (mkF m 86 #[.val (.ref a1), .val (.int p2), .val (.int p3), .val (.int p4), .val (.int p5), .val (.ref bw), .val (.int (Int32.ofNat n))] [])) _
      exact kZ
  show own_R p.tables e below _ (T152.setTop (mkF m 86 #[.val (.ref a1), .val (.int p2), .val (.int p3), .val (.int p4), .val (.int p5), .val (.ref bw), .val (.int (Int32.ofNat n))] []))
  refine own_by (fun _ kZ => XS.iload X152.here hx rfl (hb hby d12_86) rfl kZ) ?_
  show own_R p.tables e below _ (T152.setTop (mkF m 88 #[.val (.ref a1), .val (.int p2), .val (.int p3), .val (.int p4), .val (.int p5), .val (.ref bw), .val (.int (Int32.ofNat n))] [(.int (Int32.ofNat n))]))
  refine own_by (fun _ kZ => XS.iconst X152.here hx rfl (hb hby d12_88) kZ) ?_
  show own_R p.tables e below _ (T152.setTop (mkF m 89 #[.val (.ref a1), .val (.int p2), .val (.int p3), .val (.int p4), .val (.int p5), .val (.ref bw), .val (.int (Int32.ofNat n))] [(.int (2 : Int32)), (.int (Int32.ofNat n))]))
  refine own_by (S' := T152.setTop (mkF m 102 #[.val (.ref a1), .val (.int p2), .val (.int p3), .val (.int p4), .val (.int p5), .val (.ref bw), .val (.int (Int32.ofNat n))] [])) (fun _ kZ => ?_) ?_
  · skip
    show Steps p.tables e below (T152.setTop (mkF m 89 #[.val (.ref a1), .val (.int p2), .val (.int p3), .val (.int p4), .val (.int p5), .val (.ref bw), .val (.int (Int32.ofNat n))] [(.int (2 : Int32)), (.int (Int32.ofNat n))])) _
    by_cases hd89 : (Int32.ofNat n) < (2 : Int32)
    · skip
      refine XS.icmpYes X152.here hx rfl (pc0 := 89) (pc' := 102) rfl (hb hby d12_89) rfl (tlt hd89).1 (by decide) (by decide) ?_
      show Steps p.tables e below (T152.setTop (mkF m 102 #[.val (.ref a1), .val (.int p2), .val (.int p3), .val (.int p4), .val (.int p5), .val (.ref bw), .val (.int (Int32.ofNat n))] [])) _
      exact kZ
    · skip
      refine XS.icmpNo X152.here hx rfl (hb hby d12_89) rfl (flt hd89).1 ?_
      show Steps p.tables e below (T152.setTop (mkF m 92 #[.val (.ref a1), .val (.int p2), .val (.int p3), .val (.int p4), .val (.int p5), .val (.ref bw), .val (.int (Int32.ofNat n))] [])) _
      refine XS.aloadN X152.here hx rfl (hb hby d12_92) rfl rfl ?_
      show Steps p.tables e below (T152.setTop (mkF m 93 #[.val (.ref a1), .val (.int p2), .val (.int p3), .val (.int p4), .val (.int p5), .val (.ref bw), .val (.int (Int32.ofNat n))] [(.ref a1)])) _
      refine XS.iconst X152.here hx rfl (hb hby d12_93) ?_
      show Steps p.tables e below (T152.setTop (mkF m 94 #[.val (.ref a1), .val (.int p2), .val (.int p3), .val (.int p4), .val (.int p5), .val (.ref bw), .val (.int (Int32.ofNat n))] [(.int (1 : Int32)), (.ref a1)])) _
      obtain ⟨cl156, Ar156, hin156, hat156⟩ := Va152.rd (i := (1 : Int32)) (p := 1) rfl (by decide) (by first | decide | exact (own_kge (c := 2) (by omega) (by decide) hd89))
      refine X152.iaload hx (j := (1 : Int32)) (v := (.int (gg 1))) (by rw [e152]; exact Ar156.1) (State.isArrayOf_alike hZ.alike Ar156.2.1) Ar156.2.2 hin156 hat156 (g := (mkF m 94 #[.val (.ref a1), .val (.int p2), .val (.int p3), .val (.int p4), .val (.int p5), .val (.ref bw), .val (.int (Int32.ofNat n))] [(.int (1 : Int32)), (.ref a1)])) rfl rfl (hb hby d12_94) _ ?_
      show Steps p.tables e below (T152.setTop (mkF m 95 #[.val (.ref a1), .val (.int p2), .val (.int p3), .val (.int p4), .val (.int p5), .val (.ref bw), .val (.int (Int32.ofNat n))] [(.int (gg 1))])) _
      refine XS.aload X152.here hx rfl (hb hby d12_95) rfl rfl ?_
      show Steps p.tables e below (T152.setTop (mkF m 97 #[.val (.ref a1), .val (.int p2), .val (.int p3), .val (.int p4), .val (.int p5), .val (.ref bw), .val (.int (Int32.ofNat n))] [(.ref bw), (.int (gg 1))])) _
      refine XS.iconst X152.here hx rfl (hb hby d12_97) ?_
      show Steps p.tables e below (T152.setTop (mkF m 98 #[.val (.ref a1), .val (.int p2), .val (.int p3), .val (.int p4), .val (.int p5), .val (.ref bw), .val (.int (Int32.ofNat n))] [(.int (1 : Int32)), (.ref bw), (.int (gg 1))])) _
      obtain ⟨cl157, Ar157, hin157, hat157⟩ := Vw152.rd (i := (1 : Int32)) (p := 1) rfl (by decide) (by first | decide | exact (own_kge (c := 2) (by omega) (by decide) hd89))
      refine X152.iaload hx (j := (1 : Int32)) (v := (.int ((own_ww p5 (own_wk p4 (own_wk p3 (own_wk p2 0))) (own_ww p4 (own_wk p3 (own_wk p2 0)) (own_ww p3 (own_wk p2 0) (own_ww p2 0 (fun _ => (0 : Int32)) (0 : Int32)) (1 : Int32)) (2 : Int32)) (3 : Int32)) 1))) (by rw [e152]; exact Ar157.1) (State.isArrayOf_alike hZ.alike Ar157.2.1) Ar157.2.2 hin157 hat157 (g := (mkF m 98 #[.val (.ref a1), .val (.int p2), .val (.int p3), .val (.int p4), .val (.int p5), .val (.ref bw), .val (.int (Int32.ofNat n))] [(.int (1 : Int32)), (.ref bw), (.int (gg 1))])) rfl rfl (hb hby d12_98) _ ?_
      show Steps p.tables e below (T152.setTop (mkF m 99 #[.val (.ref a1), .val (.int p2), .val (.int p3), .val (.int p4), .val (.int p5), .val (.ref bw), .val (.int (Int32.ofNat n))] [(.int ((own_ww p5 (own_wk p4 (own_wk p3 (own_wk p2 0))) (own_ww p4 (own_wk p3 (own_wk p2 0)) (own_ww p3 (own_wk p2 0) (own_ww p2 0 (fun _ => (0 : Int32)) (0 : Int32)) (1 : Int32)) (2 : Int32)) (3 : Int32)) 1)), (.int (gg 1))])) _
      refine XS.icmpNo X152.here hx rfl (hb hby d12_99) rfl (teq (hg 1 (own_kge (c := 2) (by omega) (by decide) hd89))).2 ?_
      show Steps p.tables e below (T152.setTop (mkF m 102 #[.val (.ref a1), .val (.int p2), .val (.int p3), .val (.int p4), .val (.int p5), .val (.ref bw), .val (.int (Int32.ofNat n))] [])) _
      exact kZ
  show own_R p.tables e below _ (T152.setTop (mkF m 102 #[.val (.ref a1), .val (.int p2), .val (.int p3), .val (.int p4), .val (.int p5), .val (.ref bw), .val (.int (Int32.ofNat n))] []))
  refine own_by (fun _ kZ => XS.iload X152.here hx rfl (hb hby d12_102) rfl kZ) ?_
  show own_R p.tables e below _ (T152.setTop (mkF m 104 #[.val (.ref a1), .val (.int p2), .val (.int p3), .val (.int p4), .val (.int p5), .val (.ref bw), .val (.int (Int32.ofNat n))] [(.int (Int32.ofNat n))]))
  refine own_by (fun _ kZ => XS.iconst X152.here hx rfl (hb hby d12_104) kZ) ?_
  show own_R p.tables e below _ (T152.setTop (mkF m 105 #[.val (.ref a1), .val (.int p2), .val (.int p3), .val (.int p4), .val (.int p5), .val (.ref bw), .val (.int (Int32.ofNat n))] [(.int (3 : Int32)), (.int (Int32.ofNat n))]))
  refine own_by (S' := T152.setTop (mkF m 118 #[.val (.ref a1), .val (.int p2), .val (.int p3), .val (.int p4), .val (.int p5), .val (.ref bw), .val (.int (Int32.ofNat n))] [])) (fun _ kZ => ?_) ?_
  · skip
    show Steps p.tables e below (T152.setTop (mkF m 105 #[.val (.ref a1), .val (.int p2), .val (.int p3), .val (.int p4), .val (.int p5), .val (.ref bw), .val (.int (Int32.ofNat n))] [(.int (3 : Int32)), (.int (Int32.ofNat n))])) _
    by_cases hd105 : (Int32.ofNat n) < (3 : Int32)
    · skip
      refine XS.icmpYes X152.here hx rfl (pc0 := 105) (pc' := 118) rfl (hb hby d12_105) rfl (tlt hd105).1 (by decide) (by decide) ?_
      show Steps p.tables e below (T152.setTop (mkF m 118 #[.val (.ref a1), .val (.int p2), .val (.int p3), .val (.int p4), .val (.int p5), .val (.ref bw), .val (.int (Int32.ofNat n))] [])) _
      exact kZ
    · skip
      refine XS.icmpNo X152.here hx rfl (hb hby d12_105) rfl (flt hd105).1 ?_
      show Steps p.tables e below (T152.setTop (mkF m 108 #[.val (.ref a1), .val (.int p2), .val (.int p3), .val (.int p4), .val (.int p5), .val (.ref bw), .val (.int (Int32.ofNat n))] [])) _
      refine XS.aloadN X152.here hx rfl (hb hby d12_108) rfl rfl ?_
      show Steps p.tables e below (T152.setTop (mkF m 109 #[.val (.ref a1), .val (.int p2), .val (.int p3), .val (.int p4), .val (.int p5), .val (.ref bw), .val (.int (Int32.ofNat n))] [(.ref a1)])) _
      refine XS.iconst X152.here hx rfl (hb hby d12_109) ?_
      show Steps p.tables e below (T152.setTop (mkF m 110 #[.val (.ref a1), .val (.int p2), .val (.int p3), .val (.int p4), .val (.int p5), .val (.ref bw), .val (.int (Int32.ofNat n))] [(.int (2 : Int32)), (.ref a1)])) _
      obtain ⟨cl158, Ar158, hin158, hat158⟩ := Va152.rd (i := (2 : Int32)) (p := 2) rfl (by decide) (by first | decide | exact (own_kge (c := 3) (by omega) (by decide) hd105))
      refine X152.iaload hx (j := (2 : Int32)) (v := (.int (gg 2))) (by rw [e152]; exact Ar158.1) (State.isArrayOf_alike hZ.alike Ar158.2.1) Ar158.2.2 hin158 hat158 (g := (mkF m 110 #[.val (.ref a1), .val (.int p2), .val (.int p3), .val (.int p4), .val (.int p5), .val (.ref bw), .val (.int (Int32.ofNat n))] [(.int (2 : Int32)), (.ref a1)])) rfl rfl (hb hby d12_110) _ ?_
      show Steps p.tables e below (T152.setTop (mkF m 111 #[.val (.ref a1), .val (.int p2), .val (.int p3), .val (.int p4), .val (.int p5), .val (.ref bw), .val (.int (Int32.ofNat n))] [(.int (gg 2))])) _
      refine XS.aload X152.here hx rfl (hb hby d12_111) rfl rfl ?_
      show Steps p.tables e below (T152.setTop (mkF m 113 #[.val (.ref a1), .val (.int p2), .val (.int p3), .val (.int p4), .val (.int p5), .val (.ref bw), .val (.int (Int32.ofNat n))] [(.ref bw), (.int (gg 2))])) _
      refine XS.iconst X152.here hx rfl (hb hby d12_113) ?_
      show Steps p.tables e below (T152.setTop (mkF m 114 #[.val (.ref a1), .val (.int p2), .val (.int p3), .val (.int p4), .val (.int p5), .val (.ref bw), .val (.int (Int32.ofNat n))] [(.int (2 : Int32)), (.ref bw), (.int (gg 2))])) _
      obtain ⟨cl159, Ar159, hin159, hat159⟩ := Vw152.rd (i := (2 : Int32)) (p := 2) rfl (by decide) (by first | decide | exact (own_kge (c := 3) (by omega) (by decide) hd105))
      refine X152.iaload hx (j := (2 : Int32)) (v := (.int ((own_ww p5 (own_wk p4 (own_wk p3 (own_wk p2 0))) (own_ww p4 (own_wk p3 (own_wk p2 0)) (own_ww p3 (own_wk p2 0) (own_ww p2 0 (fun _ => (0 : Int32)) (0 : Int32)) (1 : Int32)) (2 : Int32)) (3 : Int32)) 2))) (by rw [e152]; exact Ar159.1) (State.isArrayOf_alike hZ.alike Ar159.2.1) Ar159.2.2 hin159 hat159 (g := (mkF m 114 #[.val (.ref a1), .val (.int p2), .val (.int p3), .val (.int p4), .val (.int p5), .val (.ref bw), .val (.int (Int32.ofNat n))] [(.int (2 : Int32)), (.ref bw), (.int (gg 2))])) rfl rfl (hb hby d12_114) _ ?_
      show Steps p.tables e below (T152.setTop (mkF m 115 #[.val (.ref a1), .val (.int p2), .val (.int p3), .val (.int p4), .val (.int p5), .val (.ref bw), .val (.int (Int32.ofNat n))] [(.int ((own_ww p5 (own_wk p4 (own_wk p3 (own_wk p2 0))) (own_ww p4 (own_wk p3 (own_wk p2 0)) (own_ww p3 (own_wk p2 0) (own_ww p2 0 (fun _ => (0 : Int32)) (0 : Int32)) (1 : Int32)) (2 : Int32)) (3 : Int32)) 2)), (.int (gg 2))])) _
      refine XS.icmpNo X152.here hx rfl (hb hby d12_115) rfl (teq (hg 2 (own_kge (c := 3) (by omega) (by decide) hd105))).2 ?_
      show Steps p.tables e below (T152.setTop (mkF m 118 #[.val (.ref a1), .val (.int p2), .val (.int p3), .val (.int p4), .val (.int p5), .val (.ref bw), .val (.int (Int32.ofNat n))] [])) _
      exact kZ
  show own_R p.tables e below _ (T152.setTop (mkF m 118 #[.val (.ref a1), .val (.int p2), .val (.int p3), .val (.int p4), .val (.int p5), .val (.ref bw), .val (.int (Int32.ofNat n))] []))
  refine own_by (fun _ kZ => XS.iload X152.here hx rfl (hb hby d12_118) rfl kZ) ?_
  show own_R p.tables e below _ (T152.setTop (mkF m 120 #[.val (.ref a1), .val (.int p2), .val (.int p3), .val (.int p4), .val (.int p5), .val (.ref bw), .val (.int (Int32.ofNat n))] [(.int (Int32.ofNat n))]))
  refine own_by (fun _ kZ => XS.iconst X152.here hx rfl (hb hby d12_120) kZ) ?_
  show own_R p.tables e below _ (T152.setTop (mkF m 121 #[.val (.ref a1), .val (.int p2), .val (.int p3), .val (.int p4), .val (.int p5), .val (.ref bw), .val (.int (Int32.ofNat n))] [(.int (4 : Int32)), (.int (Int32.ofNat n))]))
  refine own_by (S' := T152.setTop (mkF m 134 #[.val (.ref a1), .val (.int p2), .val (.int p3), .val (.int p4), .val (.int p5), .val (.ref bw), .val (.int (Int32.ofNat n))] [])) (fun _ kZ => ?_) ?_
  · skip
    show Steps p.tables e below (T152.setTop (mkF m 121 #[.val (.ref a1), .val (.int p2), .val (.int p3), .val (.int p4), .val (.int p5), .val (.ref bw), .val (.int (Int32.ofNat n))] [(.int (4 : Int32)), (.int (Int32.ofNat n))])) _
    by_cases hd121 : (Int32.ofNat n) < (4 : Int32)
    · skip
      refine XS.icmpYes X152.here hx rfl (pc0 := 121) (pc' := 134) rfl (hb hby d12_121) rfl (tlt hd121).1 (by decide) (by decide) ?_
      show Steps p.tables e below (T152.setTop (mkF m 134 #[.val (.ref a1), .val (.int p2), .val (.int p3), .val (.int p4), .val (.int p5), .val (.ref bw), .val (.int (Int32.ofNat n))] [])) _
      exact kZ
    · skip
      refine XS.icmpNo X152.here hx rfl (hb hby d12_121) rfl (flt hd121).1 ?_
      show Steps p.tables e below (T152.setTop (mkF m 124 #[.val (.ref a1), .val (.int p2), .val (.int p3), .val (.int p4), .val (.int p5), .val (.ref bw), .val (.int (Int32.ofNat n))] [])) _
      refine XS.aloadN X152.here hx rfl (hb hby d12_124) rfl rfl ?_
      show Steps p.tables e below (T152.setTop (mkF m 125 #[.val (.ref a1), .val (.int p2), .val (.int p3), .val (.int p4), .val (.int p5), .val (.ref bw), .val (.int (Int32.ofNat n))] [(.ref a1)])) _
      refine XS.iconst X152.here hx rfl (hb hby d12_125) ?_
      show Steps p.tables e below (T152.setTop (mkF m 126 #[.val (.ref a1), .val (.int p2), .val (.int p3), .val (.int p4), .val (.int p5), .val (.ref bw), .val (.int (Int32.ofNat n))] [(.int (3 : Int32)), (.ref a1)])) _
      obtain ⟨cl160, Ar160, hin160, hat160⟩ := Va152.rd (i := (3 : Int32)) (p := 3) rfl (by decide) (by first | decide | exact (own_kge (c := 4) (by omega) (by decide) hd121))
      refine X152.iaload hx (j := (3 : Int32)) (v := (.int (gg 3))) (by rw [e152]; exact Ar160.1) (State.isArrayOf_alike hZ.alike Ar160.2.1) Ar160.2.2 hin160 hat160 (g := (mkF m 126 #[.val (.ref a1), .val (.int p2), .val (.int p3), .val (.int p4), .val (.int p5), .val (.ref bw), .val (.int (Int32.ofNat n))] [(.int (3 : Int32)), (.ref a1)])) rfl rfl (hb hby d12_126) _ ?_
      show Steps p.tables e below (T152.setTop (mkF m 127 #[.val (.ref a1), .val (.int p2), .val (.int p3), .val (.int p4), .val (.int p5), .val (.ref bw), .val (.int (Int32.ofNat n))] [(.int (gg 3))])) _
      refine XS.aload X152.here hx rfl (hb hby d12_127) rfl rfl ?_
      show Steps p.tables e below (T152.setTop (mkF m 129 #[.val (.ref a1), .val (.int p2), .val (.int p3), .val (.int p4), .val (.int p5), .val (.ref bw), .val (.int (Int32.ofNat n))] [(.ref bw), (.int (gg 3))])) _
      refine XS.iconst X152.here hx rfl (hb hby d12_129) ?_
      show Steps p.tables e below (T152.setTop (mkF m 130 #[.val (.ref a1), .val (.int p2), .val (.int p3), .val (.int p4), .val (.int p5), .val (.ref bw), .val (.int (Int32.ofNat n))] [(.int (3 : Int32)), (.ref bw), (.int (gg 3))])) _
      obtain ⟨cl161, Ar161, hin161, hat161⟩ := Vw152.rd (i := (3 : Int32)) (p := 3) rfl (by decide) (by first | decide | exact (own_kge (c := 4) (by omega) (by decide) hd121))
      refine X152.iaload hx (j := (3 : Int32)) (v := (.int ((own_ww p5 (own_wk p4 (own_wk p3 (own_wk p2 0))) (own_ww p4 (own_wk p3 (own_wk p2 0)) (own_ww p3 (own_wk p2 0) (own_ww p2 0 (fun _ => (0 : Int32)) (0 : Int32)) (1 : Int32)) (2 : Int32)) (3 : Int32)) 3))) (by rw [e152]; exact Ar161.1) (State.isArrayOf_alike hZ.alike Ar161.2.1) Ar161.2.2 hin161 hat161 (g := (mkF m 130 #[.val (.ref a1), .val (.int p2), .val (.int p3), .val (.int p4), .val (.int p5), .val (.ref bw), .val (.int (Int32.ofNat n))] [(.int (3 : Int32)), (.ref bw), (.int (gg 3))])) rfl rfl (hb hby d12_130) _ ?_
      show Steps p.tables e below (T152.setTop (mkF m 131 #[.val (.ref a1), .val (.int p2), .val (.int p3), .val (.int p4), .val (.int p5), .val (.ref bw), .val (.int (Int32.ofNat n))] [(.int ((own_ww p5 (own_wk p4 (own_wk p3 (own_wk p2 0))) (own_ww p4 (own_wk p3 (own_wk p2 0)) (own_ww p3 (own_wk p2 0) (own_ww p2 0 (fun _ => (0 : Int32)) (0 : Int32)) (1 : Int32)) (2 : Int32)) (3 : Int32)) 3)), (.int (gg 3))])) _
      refine XS.icmpNo X152.here hx rfl (hb hby d12_131) rfl (teq (hg 3 (own_kge (c := 4) (by omega) (by decide) hd121))).2 ?_
      show Steps p.tables e below (T152.setTop (mkF m 134 #[.val (.ref a1), .val (.int p2), .val (.int p3), .val (.int p4), .val (.int p5), .val (.ref bw), .val (.int (Int32.ofNat n))] [])) _
      exact kZ
  show own_R p.tables e below _ (T152.setTop (mkF m 134 #[.val (.ref a1), .val (.int p2), .val (.int p3), .val (.int p4), .val (.int p5), .val (.ref bw), .val (.int (Int32.ofNat n))] []))
  refine own_by (fun _ kZ => XS.iconst X152.here hx rfl (hb hby d12_134) kZ) ?_
  show own_R p.tables e below _ (T152.setTop (mkF m 135 #[.val (.ref a1), .val (.int p2), .val (.int p3), .val (.int p4), .val (.int p5), .val (.ref bw), .val (.int (Int32.ofNat n))] [(.int (1 : Int32))]))
  refine own_by (fun _ kZ => XS.goto X152.here hx rfl (pc0 := 135) (pc' := 139) rfl (hb hby d12_135) (by decide) (by decide) kZ) ?_
  show own_R p.tables e below _ (T152.setTop (mkF m 139 #[.val (.ref a1), .val (.int p2), .val (.int p3), .val (.int p4), .val (.int p5), .val (.ref bw), .val (.int (Int32.ofNat n))] [(.int (1 : Int32))]))
  obtain ⟨fs, hr, hrun, hended, hW, hsame⟩ := X152.leave (v := some (.int (1 : Int32))) (fun h => by rw [Bd.returns] at h; cases h)
  refine own_end ⟨_, _, ?_, hrun, hended, _, _, rfl, ?_, ⟨_, rfl⟩, hW, hsame.mono (by decide) (by decide)⟩
  · exact retN X152 hx (t := .boolean) Bd.returns (by simp) (hb hby d12_139) hr
  · show Q12 Z a1 p2 p3 p4 p5 n gg h0 n0 _ T152.heap _
    rw [e152]
    exact ⟨rfl, N152, K152⟩
theorem ef_0 (m : MethodId) (p1 : Int32) (p2 : Int32) (p3 : Int32) : entryFrame m #[(.int p1), (.int p2), (.int p3)] maxLocals = mkF m 0 #[.val (.int p1), .val (.int p2), .val (.int p3), .unset, .unset, .unset, .unset, .unset, .unset, .unset, .unset, .unset, .unset, .unset, .unset, .unset] [] := by first | (simp [entryFrame, mkF, argsToLocals, Value.category, maxLocals]; done) | rfl
def Q0 (Z : State) (p1 : Int32) (p2 : Int32) (p3 : Int32)  (h0 : Heap) (n0 : Nat) (v : Option Value) (h : Heap) (L : List Loc) : Prop := v = some (.int 1) ∧ Fr n0 L
set_option maxRecDepth 65536 in
set_option maxHeartbeats 40000000 in
theorem rm0 (l : Launch) (Z : State) (a0 : Array Value) (hw : ∀ d ∈ tables_1, d.before a0 Z = true) (ws : List Jvm.Cond) (p1 : Int32) (p2 : Int32) (p3 : Int32)  (h0 : Heap) (n0 : Nat) (Z0 : n0 ≤ h0.size)  :
    MetFree l x (head1 (Jvm.Cond.code x code maxLocals ret :: ws) room_1) (fun a U => a = #[(.int p1), (.int p2), (.int p3)] ∧ Z.Warmed39 U.vm ∧ U.heap = h0) (fun _ _ _ _ _ => True) (fun _ U o U' => ∃ v L, o = .returned v ∧ Q0 Z p1 p2 p3 h0 n0 v U'.heap L ∧ FrameEnd U o U' L room_1.cells room_1.slots) := by
  refine MetFree.of_bodySF (plainFor_of_name pn_0) hisR ?_
  intro p e s m args below meth cd s₁ Bd hml0 hP hK
  obtain ⟨rfl, hZ, hh⟩ := hP
  have hx := Bd.exec
  have hby := Bd.bytes
  have hml : cd.maxLocals = 16 := hml0
  have hown : s.vm.findClass "com/example/frugal_scheduler/frugalscheduler/planners/CandidatesAddPinLaw" = some m.cls := findClass_of_methodNamed Bd.named
  have hnm := (name_of_methodNamed Bd.named Bd.method).1
  have X0 : Stand p l e room_1 s m #[(.int p1), (.int p2), (.int p3)] below meth cd s₁ [] 0 0 := Stand.of_body Bd
  have e0 : s₁.heap = h0 := by rw [← hh, Bd.state]; rfl
  have N0 := Fr.nil n0
  show own_R p.tables e below _ (s₁.setTop (entryFrame m #[(.int p1), (.int p2), (.int p3)] maxLocals))
  refine own_by (fun t kZ => castTop (ef_0 m p1 p2 p3) kZ) ?_
  show own_R p.tables e below _ (s₁.setTop (mkF m 0 #[.val (.int p1), .val (.int p2), .val (.int p3), .unset, .unset, .unset, .unset, .unset, .unset, .unset, .unset, .unset, .unset, .unset, .unset, .unset] []))
  obtain ⟨hk1, hk2, hk3⟩ := own_tasks p1 p2
  refine own_by (fun _ kZ => XS.iloadN X0.here hx rfl (hb hby at_0) rfl kZ) ?_
  show own_R p.tables e below _ (s₁.setTop (mkF m 1 #[.val (.int p1), .val (.int p2), .val (.int p3), .unset, .unset, .unset, .unset, .unset, .unset, .unset, .unset, .unset, .unset, .unset, .unset, .unset] [(.int p1)]))
  refine own_by (fun _ kZ => X0.ldcInt hx hown (mvT hZ (hw _ (List.mem_of_getElem? (i := 0) rfl))) (g := (mkF m 1 #[.val (.int p1), .val (.int p2), .val (.int p3), .unset, .unset, .unset, .unset, .unset, .unset, .unset, .unset, .unset, .unset, .unset, .unset, .unset] [(.int p1)])) rfl (hb hby at_1) _ kZ) ?_
  show own_R p.tables e below _ (s₁.setTop (mkF m 3 #[.val (.int p1), .val (.int p2), .val (.int p3), .unset, .unset, .unset, .unset, .unset, .unset, .unset, .unset, .unset, .unset, .unset, .unset, .unset] [(.int (1073741823 : Int32)), (.int p1)]))
  refine own_by (fun _ kZ => XS.iand X0.here hx rfl (hb hby at_3) rfl kZ) ?_
  show own_R p.tables e below _ (s₁.setTop (mkF m 4 #[.val (.int p1), .val (.int p2), .val (.int p3), .unset, .unset, .unset, .unset, .unset, .unset, .unset, .unset, .unset, .unset, .unset, .unset, .unset] [(.int (p1 &&& (1073741823 : Int32)))]))
  refine own_by (fun _ kZ => XS.istoreN X0.here hx rfl (hb hby at_4) rfl (l' := #[.val (.int p1), .val (.int p2), .val (.int p3), .val (.int (p1 &&& (1073741823 : Int32))), .unset, .unset, .unset, .unset, .unset, .unset, .unset, .unset, .unset, .unset, .unset, .unset]) rfl kZ) ?_
  show own_R p.tables e below _ (s₁.setTop (mkF m 5 #[.val (.int p1), .val (.int p2), .val (.int p3), .val (.int (p1 &&& (1073741823 : Int32))), .unset, .unset, .unset, .unset, .unset, .unset, .unset, .unset, .unset, .unset, .unset, .unset] []))
  refine own_by (fun _ kZ => XS.iloadN X0.here hx rfl (hb hby at_5) rfl kZ) ?_
  show own_R p.tables e below _ (s₁.setTop (mkF m 6 #[.val (.int p1), .val (.int p2), .val (.int p3), .val (.int (p1 &&& (1073741823 : Int32))), .unset, .unset, .unset, .unset, .unset, .unset, .unset, .unset, .unset, .unset, .unset, .unset] [(.int (p1 &&& (1073741823 : Int32)))]))
  refine own_by (fun _ kZ => XS.iconst X0.here hx rfl (hb hby at_6) kZ) ?_
  show own_R p.tables e below _ (s₁.setTop (mkF m 7 #[.val (.int p1), .val (.int p2), .val (.int p3), .val (.int (p1 &&& (1073741823 : Int32))), .unset, .unset, .unset, .unset, .unset, .unset, .unset, .unset, .unset, .unset, .unset, .unset] [(.int (1 : Int32)), (.int (p1 &&& (1073741823 : Int32)))]))
  refine own_by (fun _ kZ => XS.iadd X0.here hx rfl (hb hby at_7) rfl kZ) ?_
  show own_R p.tables e below _ (s₁.setTop (mkF m 8 #[.val (.int p1), .val (.int p2), .val (.int p3), .val (.int (p1 &&& (1073741823 : Int32))), .unset, .unset, .unset, .unset, .unset, .unset, .unset, .unset, .unset, .unset, .unset, .unset] [(.int ((p1 &&& (1073741823 : Int32)) + (1 : Int32)))]))
  refine own_by (fun _ kZ => XS.iloadN X0.here hx rfl (hb hby at_8) rfl kZ) ?_
  show own_R p.tables e below _ (s₁.setTop (mkF m 9 #[.val (.int p1), .val (.int p2), .val (.int p3), .val (.int (p1 &&& (1073741823 : Int32))), .unset, .unset, .unset, .unset, .unset, .unset, .unset, .unset, .unset, .unset, .unset, .unset] [(.int p2), (.int ((p1 &&& (1073741823 : Int32)) + (1 : Int32)))]))
  refine own_by (fun _ kZ => X0.ldcInt hx hown (mvT hZ (hw _ (List.mem_of_getElem? (i := 1) rfl))) (g := (mkF m 9 #[.val (.int p1), .val (.int p2), .val (.int p3), .val (.int (p1 &&& (1073741823 : Int32))), .unset, .unset, .unset, .unset, .unset, .unset, .unset, .unset, .unset, .unset, .unset, .unset] [(.int p2), (.int ((p1 &&& (1073741823 : Int32)) + (1 : Int32)))])) rfl (hb hby at_9) _ kZ) ?_
  show own_R p.tables e below _ (s₁.setTop (mkF m 11 #[.val (.int p1), .val (.int p2), .val (.int p3), .val (.int (p1 &&& (1073741823 : Int32))), .unset, .unset, .unset, .unset, .unset, .unset, .unset, .unset, .unset, .unset, .unset, .unset] [(.int (536870911 : Int32)), (.int p2), (.int ((p1 &&& (1073741823 : Int32)) + (1 : Int32)))]))
  refine own_by (fun _ kZ => XS.iand X0.here hx rfl (hb hby at_11) rfl kZ) ?_
  show own_R p.tables e below _ (s₁.setTop (mkF m 12 #[.val (.int p1), .val (.int p2), .val (.int p3), .val (.int (p1 &&& (1073741823 : Int32))), .unset, .unset, .unset, .unset, .unset, .unset, .unset, .unset, .unset, .unset, .unset, .unset] [(.int (p2 &&& (536870911 : Int32))), (.int ((p1 &&& (1073741823 : Int32)) + (1 : Int32)))]))
  refine own_by (fun _ kZ => XS.iadd X0.here hx rfl (hb hby at_12) rfl kZ) ?_
  show own_R p.tables e below _ (s₁.setTop (mkF m 13 #[.val (.int p1), .val (.int p2), .val (.int p3), .val (.int (p1 &&& (1073741823 : Int32))), .unset, .unset, .unset, .unset, .unset, .unset, .unset, .unset, .unset, .unset, .unset, .unset] [(.int (((p1 &&& (1073741823 : Int32)) + (1 : Int32)) + (p2 &&& (536870911 : Int32))))]))
  refine own_by (fun _ kZ => X0.ldcInt hx hown (mvT hZ (hw _ (List.mem_of_getElem? (i := 0) rfl))) (g := (mkF m 13 #[.val (.int p1), .val (.int p2), .val (.int p3), .val (.int (p1 &&& (1073741823 : Int32))), .unset, .unset, .unset, .unset, .unset, .unset, .unset, .unset, .unset, .unset, .unset, .unset] [(.int (((p1 &&& (1073741823 : Int32)) + (1 : Int32)) + (p2 &&& (536870911 : Int32))))])) rfl (hb hby at_13) _ kZ) ?_
  show own_R p.tables e below _ (s₁.setTop (mkF m 15 #[.val (.int p1), .val (.int p2), .val (.int p3), .val (.int (p1 &&& (1073741823 : Int32))), .unset, .unset, .unset, .unset, .unset, .unset, .unset, .unset, .unset, .unset, .unset, .unset] [(.int (1073741823 : Int32)), (.int (((p1 &&& (1073741823 : Int32)) + (1 : Int32)) + (p2 &&& (536870911 : Int32))))]))
  refine own_by (fun _ kZ => XS.iand X0.here hx rfl (hb hby at_15) rfl kZ) ?_
  show own_R p.tables e below _ (s₁.setTop (mkF m 16 #[.val (.int p1), .val (.int p2), .val (.int p3), .val (.int (p1 &&& (1073741823 : Int32))), .unset, .unset, .unset, .unset, .unset, .unset, .unset, .unset, .unset, .unset, .unset, .unset] [(.int ((((p1 &&& (1073741823 : Int32)) + (1 : Int32)) + (p2 &&& (536870911 : Int32))) &&& (1073741823 : Int32)))]))
  refine own_by (fun _ kZ => XS.istore X0.here hx rfl (hb hby at_16) rfl (l' := #[.val (.int p1), .val (.int p2), .val (.int p3), .val (.int (p1 &&& (1073741823 : Int32))), .val (.int ((((p1 &&& (1073741823 : Int32)) + (1 : Int32)) + (p2 &&& (536870911 : Int32))) &&& (1073741823 : Int32))), .unset, .unset, .unset, .unset, .unset, .unset, .unset, .unset, .unset, .unset, .unset]) rfl kZ) ?_
  show own_R p.tables e below _ (s₁.setTop (mkF m 18 #[.val (.int p1), .val (.int p2), .val (.int p3), .val (.int (p1 &&& (1073741823 : Int32))), .val (.int ((((p1 &&& (1073741823 : Int32)) + (1 : Int32)) + (p2 &&& (536870911 : Int32))) &&& (1073741823 : Int32))), .unset, .unset, .unset, .unset, .unset, .unset, .unset, .unset, .unset, .unset, .unset] []))
  refine own_by (fun _ kZ => XS.iloadN X0.here hx rfl (hb hby at_18) rfl kZ) ?_
  show own_R p.tables e below _ (s₁.setTop (mkF m 19 #[.val (.int p1), .val (.int p2), .val (.int p3), .val (.int (p1 &&& (1073741823 : Int32))), .val (.int ((((p1 &&& (1073741823 : Int32)) + (1 : Int32)) + (p2 &&& (536870911 : Int32))) &&& (1073741823 : Int32))), .unset, .unset, .unset, .unset, .unset, .unset, .unset, .unset, .unset, .unset, .unset] [(.int p3)]))
  refine own_by (fun _ kZ => XS.iconst X0.here hx rfl (hb hby at_19) kZ) ?_
  show own_R p.tables e below _ (s₁.setTop (mkF m 20 #[.val (.int p1), .val (.int p2), .val (.int p3), .val (.int (p1 &&& (1073741823 : Int32))), .val (.int ((((p1 &&& (1073741823 : Int32)) + (1 : Int32)) + (p2 &&& (536870911 : Int32))) &&& (1073741823 : Int32))), .unset, .unset, .unset, .unset, .unset, .unset, .unset, .unset, .unset, .unset, .unset] [(.int (3 : Int32)), (.int p3)]))
  refine own_by (fun _ kZ => XS.iand X0.here hx rfl (hb hby at_20) rfl kZ) ?_
  show own_R p.tables e below _ (s₁.setTop (mkF m 21 #[.val (.int p1), .val (.int p2), .val (.int p3), .val (.int (p1 &&& (1073741823 : Int32))), .val (.int ((((p1 &&& (1073741823 : Int32)) + (1 : Int32)) + (p2 &&& (536870911 : Int32))) &&& (1073741823 : Int32))), .unset, .unset, .unset, .unset, .unset, .unset, .unset, .unset, .unset, .unset, .unset] [(.int (p3 &&& (3 : Int32)))]))
  obtain ⟨va, hva, lva⟩ := own_and3 p3
  rw [show (p3 &&& (3 : Int32)) = (Int32.ofNat va) from hva]
  show own_R p.tables e below _ (s₁.setTop (mkF m 21 #[.val (.int p1), .val (.int p2), .val (.int p3), .val (.int (p1 &&& (1073741823 : Int32))), .val (.int ((((p1 &&& (1073741823 : Int32)) + (1 : Int32)) + (p2 &&& (536870911 : Int32))) &&& (1073741823 : Int32))), .unset, .unset, .unset, .unset, .unset, .unset, .unset, .unset, .unset, .unset, .unset] [(.int (Int32.ofNat va))]))
  refine own_by (fun _ kZ => XS.istore X0.here hx rfl (hb hby at_21) rfl (l' := #[.val (.int p1), .val (.int p2), .val (.int p3), .val (.int (p1 &&& (1073741823 : Int32))), .val (.int ((((p1 &&& (1073741823 : Int32)) + (1 : Int32)) + (p2 &&& (536870911 : Int32))) &&& (1073741823 : Int32))), .val (.int (Int32.ofNat va)), .unset, .unset, .unset, .unset, .unset, .unset, .unset, .unset, .unset, .unset]) rfl kZ) ?_
  show own_R p.tables e below _ (s₁.setTop (mkF m 23 #[.val (.int p1), .val (.int p2), .val (.int p3), .val (.int (p1 &&& (1073741823 : Int32))), .val (.int ((((p1 &&& (1073741823 : Int32)) + (1 : Int32)) + (p2 &&& (536870911 : Int32))) &&& (1073741823 : Int32))), .val (.int (Int32.ofNat va)), .unset, .unset, .unset, .unset, .unset, .unset, .unset, .unset, .unset, .unset] []))
  refine own_by (fun _ kZ => XS.iloadN X0.here hx rfl (hb hby at_23) rfl kZ) ?_
  show own_R p.tables e below _ (s₁.setTop (mkF m 24 #[.val (.int p1), .val (.int p2), .val (.int p3), .val (.int (p1 &&& (1073741823 : Int32))), .val (.int ((((p1 &&& (1073741823 : Int32)) + (1 : Int32)) + (p2 &&& (536870911 : Int32))) &&& (1073741823 : Int32))), .val (.int (Int32.ofNat va)), .unset, .unset, .unset, .unset, .unset, .unset, .unset, .unset, .unset, .unset] [(.int p3)]))
  refine own_by (fun _ kZ => XS.iconst X0.here hx rfl (hb hby at_24) kZ) ?_
  show own_R p.tables e below _ (s₁.setTop (mkF m 25 #[.val (.int p1), .val (.int p2), .val (.int p3), .val (.int (p1 &&& (1073741823 : Int32))), .val (.int ((((p1 &&& (1073741823 : Int32)) + (1 : Int32)) + (p2 &&& (536870911 : Int32))) &&& (1073741823 : Int32))), .val (.int (Int32.ofNat va)), .unset, .unset, .unset, .unset, .unset, .unset, .unset, .unset, .unset, .unset] [(.int (2 : Int32)), (.int p3)]))
  refine own_by (fun _ kZ => XS.iushr X0.here hx rfl (hb hby at_25) rfl kZ) ?_
  show own_R p.tables e below _ (s₁.setTop (mkF m 26 #[.val (.int p1), .val (.int p2), .val (.int p3), .val (.int (p1 &&& (1073741823 : Int32))), .val (.int ((((p1 &&& (1073741823 : Int32)) + (1 : Int32)) + (p2 &&& (536870911 : Int32))) &&& (1073741823 : Int32))), .val (.int (Int32.ofNat va)), .unset, .unset, .unset, .unset, .unset, .unset, .unset, .unset, .unset, .unset] [(.int ((p3.toUInt32 >>> ((2 : Int32) &&& 31).toUInt32).toInt32))]))
  refine own_by (fun _ kZ => XS.iconst X0.here hx rfl (hb hby at_26) kZ) ?_
  show own_R p.tables e below _ (s₁.setTop (mkF m 27 #[.val (.int p1), .val (.int p2), .val (.int p3), .val (.int (p1 &&& (1073741823 : Int32))), .val (.int ((((p1 &&& (1073741823 : Int32)) + (1 : Int32)) + (p2 &&& (536870911 : Int32))) &&& (1073741823 : Int32))), .val (.int (Int32.ofNat va)), .unset, .unset, .unset, .unset, .unset, .unset, .unset, .unset, .unset, .unset] [(.int (3 : Int32)), (.int ((p3.toUInt32 >>> ((2 : Int32) &&& 31).toUInt32).toInt32))]))
  refine own_by (fun _ kZ => XS.iand X0.here hx rfl (hb hby at_27) rfl kZ) ?_
  show own_R p.tables e below _ (s₁.setTop (mkF m 28 #[.val (.int p1), .val (.int p2), .val (.int p3), .val (.int (p1 &&& (1073741823 : Int32))), .val (.int ((((p1 &&& (1073741823 : Int32)) + (1 : Int32)) + (p2 &&& (536870911 : Int32))) &&& (1073741823 : Int32))), .val (.int (Int32.ofNat va)), .unset, .unset, .unset, .unset, .unset, .unset, .unset, .unset, .unset, .unset] [(.int (((p3.toUInt32 >>> ((2 : Int32) &&& 31).toUInt32).toInt32) &&& (3 : Int32)))]))
  obtain ⟨vb, hvb, lvb⟩ := own_and3 ((p3.toUInt32 >>> ((2 : Int32) &&& 31).toUInt32).toInt32)
  rw [show (((p3.toUInt32 >>> ((2 : Int32) &&& 31).toUInt32).toInt32) &&& (3 : Int32)) = (Int32.ofNat vb) from hvb]
  show own_R p.tables e below _ (s₁.setTop (mkF m 28 #[.val (.int p1), .val (.int p2), .val (.int p3), .val (.int (p1 &&& (1073741823 : Int32))), .val (.int ((((p1 &&& (1073741823 : Int32)) + (1 : Int32)) + (p2 &&& (536870911 : Int32))) &&& (1073741823 : Int32))), .val (.int (Int32.ofNat va)), .unset, .unset, .unset, .unset, .unset, .unset, .unset, .unset, .unset, .unset] [(.int (Int32.ofNat vb))]))
  refine own_by (fun _ kZ => XS.istore X0.here hx rfl (hb hby at_28) rfl (l' := #[.val (.int p1), .val (.int p2), .val (.int p3), .val (.int (p1 &&& (1073741823 : Int32))), .val (.int ((((p1 &&& (1073741823 : Int32)) + (1 : Int32)) + (p2 &&& (536870911 : Int32))) &&& (1073741823 : Int32))), .val (.int (Int32.ofNat va)), .val (.int (Int32.ofNat vb)), .unset, .unset, .unset, .unset, .unset, .unset, .unset, .unset, .unset]) rfl kZ) ?_
  show own_R p.tables e below _ (s₁.setTop (mkF m 30 #[.val (.int p1), .val (.int p2), .val (.int p3), .val (.int (p1 &&& (1073741823 : Int32))), .val (.int ((((p1 &&& (1073741823 : Int32)) + (1 : Int32)) + (p2 &&& (536870911 : Int32))) &&& (1073741823 : Int32))), .val (.int (Int32.ofNat va)), .val (.int (Int32.ofNat vb)), .unset, .unset, .unset, .unset, .unset, .unset, .unset, .unset, .unset] []))
  refine own_by (fun _ kZ => XS.iloadN X0.here hx rfl (hb hby at_30) rfl kZ) ?_
  show own_R p.tables e below _ (s₁.setTop (mkF m 31 #[.val (.int p1), .val (.int p2), .val (.int p3), .val (.int (p1 &&& (1073741823 : Int32))), .val (.int ((((p1 &&& (1073741823 : Int32)) + (1 : Int32)) + (p2 &&& (536870911 : Int32))) &&& (1073741823 : Int32))), .val (.int (Int32.ofNat va)), .val (.int (Int32.ofNat vb)), .unset, .unset, .unset, .unset, .unset, .unset, .unset, .unset, .unset] [(.int p3)]))
  refine own_by (fun _ kZ => XS.iconst X0.here hx rfl (hb hby at_31) kZ) ?_
  show own_R p.tables e below _ (s₁.setTop (mkF m 32 #[.val (.int p1), .val (.int p2), .val (.int p3), .val (.int (p1 &&& (1073741823 : Int32))), .val (.int ((((p1 &&& (1073741823 : Int32)) + (1 : Int32)) + (p2 &&& (536870911 : Int32))) &&& (1073741823 : Int32))), .val (.int (Int32.ofNat va)), .val (.int (Int32.ofNat vb)), .unset, .unset, .unset, .unset, .unset, .unset, .unset, .unset, .unset] [(.int (4 : Int32)), (.int p3)]))
  refine own_by (fun _ kZ => XS.iushr X0.here hx rfl (hb hby at_32) rfl kZ) ?_
  show own_R p.tables e below _ (s₁.setTop (mkF m 33 #[.val (.int p1), .val (.int p2), .val (.int p3), .val (.int (p1 &&& (1073741823 : Int32))), .val (.int ((((p1 &&& (1073741823 : Int32)) + (1 : Int32)) + (p2 &&& (536870911 : Int32))) &&& (1073741823 : Int32))), .val (.int (Int32.ofNat va)), .val (.int (Int32.ofNat vb)), .unset, .unset, .unset, .unset, .unset, .unset, .unset, .unset, .unset] [(.int ((p3.toUInt32 >>> ((4 : Int32) &&& 31).toUInt32).toInt32))]))
  refine own_by (fun _ kZ => XS.iconst X0.here hx rfl (hb hby at_33) kZ) ?_
  show own_R p.tables e below _ (s₁.setTop (mkF m 34 #[.val (.int p1), .val (.int p2), .val (.int p3), .val (.int (p1 &&& (1073741823 : Int32))), .val (.int ((((p1 &&& (1073741823 : Int32)) + (1 : Int32)) + (p2 &&& (536870911 : Int32))) &&& (1073741823 : Int32))), .val (.int (Int32.ofNat va)), .val (.int (Int32.ofNat vb)), .unset, .unset, .unset, .unset, .unset, .unset, .unset, .unset, .unset] [(.int (3 : Int32)), (.int ((p3.toUInt32 >>> ((4 : Int32) &&& 31).toUInt32).toInt32))]))
  refine own_by (fun _ kZ => XS.iand X0.here hx rfl (hb hby at_34) rfl kZ) ?_
  show own_R p.tables e below _ (s₁.setTop (mkF m 35 #[.val (.int p1), .val (.int p2), .val (.int p3), .val (.int (p1 &&& (1073741823 : Int32))), .val (.int ((((p1 &&& (1073741823 : Int32)) + (1 : Int32)) + (p2 &&& (536870911 : Int32))) &&& (1073741823 : Int32))), .val (.int (Int32.ofNat va)), .val (.int (Int32.ofNat vb)), .unset, .unset, .unset, .unset, .unset, .unset, .unset, .unset, .unset] [(.int (((p3.toUInt32 >>> ((4 : Int32) &&& 31).toUInt32).toInt32) &&& (3 : Int32)))]))
  obtain ⟨vc, hvc, lvc⟩ := own_and3 ((p3.toUInt32 >>> ((4 : Int32) &&& 31).toUInt32).toInt32)
  rw [show (((p3.toUInt32 >>> ((4 : Int32) &&& 31).toUInt32).toInt32) &&& (3 : Int32)) = (Int32.ofNat vc) from hvc]
  show own_R p.tables e below _ (s₁.setTop (mkF m 35 #[.val (.int p1), .val (.int p2), .val (.int p3), .val (.int (p1 &&& (1073741823 : Int32))), .val (.int ((((p1 &&& (1073741823 : Int32)) + (1 : Int32)) + (p2 &&& (536870911 : Int32))) &&& (1073741823 : Int32))), .val (.int (Int32.ofNat va)), .val (.int (Int32.ofNat vb)), .unset, .unset, .unset, .unset, .unset, .unset, .unset, .unset, .unset] [(.int (Int32.ofNat vc))]))
  refine own_by (fun _ kZ => XS.istore X0.here hx rfl (hb hby at_35) rfl (l' := #[.val (.int p1), .val (.int p2), .val (.int p3), .val (.int (p1 &&& (1073741823 : Int32))), .val (.int ((((p1 &&& (1073741823 : Int32)) + (1 : Int32)) + (p2 &&& (536870911 : Int32))) &&& (1073741823 : Int32))), .val (.int (Int32.ofNat va)), .val (.int (Int32.ofNat vb)), .val (.int (Int32.ofNat vc)), .unset, .unset, .unset, .unset, .unset, .unset, .unset, .unset]) rfl kZ) ?_
  show own_R p.tables e below _ (s₁.setTop (mkF m 37 #[.val (.int p1), .val (.int p2), .val (.int p3), .val (.int (p1 &&& (1073741823 : Int32))), .val (.int ((((p1 &&& (1073741823 : Int32)) + (1 : Int32)) + (p2 &&& (536870911 : Int32))) &&& (1073741823 : Int32))), .val (.int (Int32.ofNat va)), .val (.int (Int32.ofNat vb)), .val (.int (Int32.ofNat vc)), .unset, .unset, .unset, .unset, .unset, .unset, .unset, .unset] []))
  refine own_by (fun _ kZ => XS.iloadN X0.here hx rfl (hb hby at_37) rfl kZ) ?_
  show own_R p.tables e below _ (s₁.setTop (mkF m 38 #[.val (.int p1), .val (.int p2), .val (.int p3), .val (.int (p1 &&& (1073741823 : Int32))), .val (.int ((((p1 &&& (1073741823 : Int32)) + (1 : Int32)) + (p2 &&& (536870911 : Int32))) &&& (1073741823 : Int32))), .val (.int (Int32.ofNat va)), .val (.int (Int32.ofNat vb)), .val (.int (Int32.ofNat vc)), .unset, .unset, .unset, .unset, .unset, .unset, .unset, .unset] [(.int p3)]))
  refine own_by (fun _ kZ => XS.bipush X0.here hx rfl (hb hby at_38) kZ) ?_
  show own_R p.tables e below _ (s₁.setTop (mkF m 40 #[.val (.int p1), .val (.int p2), .val (.int p3), .val (.int (p1 &&& (1073741823 : Int32))), .val (.int ((((p1 &&& (1073741823 : Int32)) + (1 : Int32)) + (p2 &&& (536870911 : Int32))) &&& (1073741823 : Int32))), .val (.int (Int32.ofNat va)), .val (.int (Int32.ofNat vb)), .val (.int (Int32.ofNat vc)), .unset, .unset, .unset, .unset, .unset, .unset, .unset, .unset] [(.int (6 : Int32)), (.int p3)]))
  refine own_by (fun _ kZ => XS.iushr X0.here hx rfl (hb hby at_40) rfl kZ) ?_
  show own_R p.tables e below _ (s₁.setTop (mkF m 41 #[.val (.int p1), .val (.int p2), .val (.int p3), .val (.int (p1 &&& (1073741823 : Int32))), .val (.int ((((p1 &&& (1073741823 : Int32)) + (1 : Int32)) + (p2 &&& (536870911 : Int32))) &&& (1073741823 : Int32))), .val (.int (Int32.ofNat va)), .val (.int (Int32.ofNat vb)), .val (.int (Int32.ofNat vc)), .unset, .unset, .unset, .unset, .unset, .unset, .unset, .unset] [(.int ((p3.toUInt32 >>> ((6 : Int32) &&& 31).toUInt32).toInt32))]))
  refine own_by (fun _ kZ => XS.iconst X0.here hx rfl (hb hby at_41) kZ) ?_
  show own_R p.tables e below _ (s₁.setTop (mkF m 42 #[.val (.int p1), .val (.int p2), .val (.int p3), .val (.int (p1 &&& (1073741823 : Int32))), .val (.int ((((p1 &&& (1073741823 : Int32)) + (1 : Int32)) + (p2 &&& (536870911 : Int32))) &&& (1073741823 : Int32))), .val (.int (Int32.ofNat va)), .val (.int (Int32.ofNat vb)), .val (.int (Int32.ofNat vc)), .unset, .unset, .unset, .unset, .unset, .unset, .unset, .unset] [(.int (3 : Int32)), (.int ((p3.toUInt32 >>> ((6 : Int32) &&& 31).toUInt32).toInt32))]))
  refine own_by (fun _ kZ => XS.iand X0.here hx rfl (hb hby at_42) rfl kZ) ?_
  show own_R p.tables e below _ (s₁.setTop (mkF m 43 #[.val (.int p1), .val (.int p2), .val (.int p3), .val (.int (p1 &&& (1073741823 : Int32))), .val (.int ((((p1 &&& (1073741823 : Int32)) + (1 : Int32)) + (p2 &&& (536870911 : Int32))) &&& (1073741823 : Int32))), .val (.int (Int32.ofNat va)), .val (.int (Int32.ofNat vb)), .val (.int (Int32.ofNat vc)), .unset, .unset, .unset, .unset, .unset, .unset, .unset, .unset] [(.int (((p3.toUInt32 >>> ((6 : Int32) &&& 31).toUInt32).toInt32) &&& (3 : Int32)))]))
  obtain ⟨vd, hvd, lvd⟩ := own_and3 ((p3.toUInt32 >>> ((6 : Int32) &&& 31).toUInt32).toInt32)
  rw [show (((p3.toUInt32 >>> ((6 : Int32) &&& 31).toUInt32).toInt32) &&& (3 : Int32)) = (Int32.ofNat vd) from hvd]
  show own_R p.tables e below _ (s₁.setTop (mkF m 43 #[.val (.int p1), .val (.int p2), .val (.int p3), .val (.int (p1 &&& (1073741823 : Int32))), .val (.int ((((p1 &&& (1073741823 : Int32)) + (1 : Int32)) + (p2 &&& (536870911 : Int32))) &&& (1073741823 : Int32))), .val (.int (Int32.ofNat va)), .val (.int (Int32.ofNat vb)), .val (.int (Int32.ofNat vc)), .unset, .unset, .unset, .unset, .unset, .unset, .unset, .unset] [(.int (Int32.ofNat vd))]))
  refine own_by (fun _ kZ => XS.istore X0.here hx rfl (hb hby at_43) rfl (l' := #[.val (.int p1), .val (.int p2), .val (.int p3), .val (.int (p1 &&& (1073741823 : Int32))), .val (.int ((((p1 &&& (1073741823 : Int32)) + (1 : Int32)) + (p2 &&& (536870911 : Int32))) &&& (1073741823 : Int32))), .val (.int (Int32.ofNat va)), .val (.int (Int32.ofNat vb)), .val (.int (Int32.ofNat vc)), .val (.int (Int32.ofNat vd)), .unset, .unset, .unset, .unset, .unset, .unset, .unset]) rfl kZ) ?_
  show own_R p.tables e below _ (s₁.setTop (mkF m 45 #[.val (.int p1), .val (.int p2), .val (.int p3), .val (.int (p1 &&& (1073741823 : Int32))), .val (.int ((((p1 &&& (1073741823 : Int32)) + (1 : Int32)) + (p2 &&& (536870911 : Int32))) &&& (1073741823 : Int32))), .val (.int (Int32.ofNat va)), .val (.int (Int32.ofNat vb)), .val (.int (Int32.ofNat vc)), .val (.int (Int32.ofNat vd)), .unset, .unset, .unset, .unset, .unset, .unset, .unset] []))
  refine own_by (fun _ kZ => XS.iloadN X0.here hx rfl (hb hby at_45) rfl kZ) ?_
  show own_R p.tables e below _ (s₁.setTop (mkF m 46 #[.val (.int p1), .val (.int p2), .val (.int p3), .val (.int (p1 &&& (1073741823 : Int32))), .val (.int ((((p1 &&& (1073741823 : Int32)) + (1 : Int32)) + (p2 &&& (536870911 : Int32))) &&& (1073741823 : Int32))), .val (.int (Int32.ofNat va)), .val (.int (Int32.ofNat vb)), .val (.int (Int32.ofNat vc)), .val (.int (Int32.ofNat vd)), .unset, .unset, .unset, .unset, .unset, .unset, .unset] [(.int p3)]))
  refine own_by (fun _ kZ => XS.bipush X0.here hx rfl (hb hby at_46) kZ) ?_
  show own_R p.tables e below _ (s₁.setTop (mkF m 48 #[.val (.int p1), .val (.int p2), .val (.int p3), .val (.int (p1 &&& (1073741823 : Int32))), .val (.int ((((p1 &&& (1073741823 : Int32)) + (1 : Int32)) + (p2 &&& (536870911 : Int32))) &&& (1073741823 : Int32))), .val (.int (Int32.ofNat va)), .val (.int (Int32.ofNat vb)), .val (.int (Int32.ofNat vc)), .val (.int (Int32.ofNat vd)), .unset, .unset, .unset, .unset, .unset, .unset, .unset] [(.int (8 : Int32)), (.int p3)]))
  refine own_by (fun _ kZ => XS.iushr X0.here hx rfl (hb hby at_48) rfl kZ) ?_
  show own_R p.tables e below _ (s₁.setTop (mkF m 49 #[.val (.int p1), .val (.int p2), .val (.int p3), .val (.int (p1 &&& (1073741823 : Int32))), .val (.int ((((p1 &&& (1073741823 : Int32)) + (1 : Int32)) + (p2 &&& (536870911 : Int32))) &&& (1073741823 : Int32))), .val (.int (Int32.ofNat va)), .val (.int (Int32.ofNat vb)), .val (.int (Int32.ofNat vc)), .val (.int (Int32.ofNat vd)), .unset, .unset, .unset, .unset, .unset, .unset, .unset] [(.int ((p3.toUInt32 >>> ((8 : Int32) &&& 31).toUInt32).toInt32))]))
  refine own_by (fun _ kZ => XS.iconst X0.here hx rfl (hb hby at_49) kZ) ?_
  show own_R p.tables e below _ (s₁.setTop (mkF m 50 #[.val (.int p1), .val (.int p2), .val (.int p3), .val (.int (p1 &&& (1073741823 : Int32))), .val (.int ((((p1 &&& (1073741823 : Int32)) + (1 : Int32)) + (p2 &&& (536870911 : Int32))) &&& (1073741823 : Int32))), .val (.int (Int32.ofNat va)), .val (.int (Int32.ofNat vb)), .val (.int (Int32.ofNat vc)), .val (.int (Int32.ofNat vd)), .unset, .unset, .unset, .unset, .unset, .unset, .unset] [(.int (3 : Int32)), (.int ((p3.toUInt32 >>> ((8 : Int32) &&& 31).toUInt32).toInt32))]))
  refine own_by (fun _ kZ => XS.iand X0.here hx rfl (hb hby at_50) rfl kZ) ?_
  show own_R p.tables e below _ (s₁.setTop (mkF m 51 #[.val (.int p1), .val (.int p2), .val (.int p3), .val (.int (p1 &&& (1073741823 : Int32))), .val (.int ((((p1 &&& (1073741823 : Int32)) + (1 : Int32)) + (p2 &&& (536870911 : Int32))) &&& (1073741823 : Int32))), .val (.int (Int32.ofNat va)), .val (.int (Int32.ofNat vb)), .val (.int (Int32.ofNat vc)), .val (.int (Int32.ofNat vd)), .unset, .unset, .unset, .unset, .unset, .unset, .unset] [(.int (((p3.toUInt32 >>> ((8 : Int32) &&& 31).toUInt32).toInt32) &&& (3 : Int32)))]))
  obtain ⟨ve, hve, lve⟩ := own_and3 ((p3.toUInt32 >>> ((8 : Int32) &&& 31).toUInt32).toInt32)
  rw [show (((p3.toUInt32 >>> ((8 : Int32) &&& 31).toUInt32).toInt32) &&& (3 : Int32)) = (Int32.ofNat ve) from hve]
  show own_R p.tables e below _ (s₁.setTop (mkF m 51 #[.val (.int p1), .val (.int p2), .val (.int p3), .val (.int (p1 &&& (1073741823 : Int32))), .val (.int ((((p1 &&& (1073741823 : Int32)) + (1 : Int32)) + (p2 &&& (536870911 : Int32))) &&& (1073741823 : Int32))), .val (.int (Int32.ofNat va)), .val (.int (Int32.ofNat vb)), .val (.int (Int32.ofNat vc)), .val (.int (Int32.ofNat vd)), .unset, .unset, .unset, .unset, .unset, .unset, .unset] [(.int (Int32.ofNat ve))]))
  refine own_by (fun _ kZ => XS.istore X0.here hx rfl (hb hby at_51) rfl (l' := #[.val (.int p1), .val (.int p2), .val (.int p3), .val (.int (p1 &&& (1073741823 : Int32))), .val (.int ((((p1 &&& (1073741823 : Int32)) + (1 : Int32)) + (p2 &&& (536870911 : Int32))) &&& (1073741823 : Int32))), .val (.int (Int32.ofNat va)), .val (.int (Int32.ofNat vb)), .val (.int (Int32.ofNat vc)), .val (.int (Int32.ofNat vd)), .val (.int (Int32.ofNat ve)), .unset, .unset, .unset, .unset, .unset, .unset]) rfl kZ) ?_
  show own_R p.tables e below _ (s₁.setTop (mkF m 53 #[.val (.int p1), .val (.int p2), .val (.int p3), .val (.int (p1 &&& (1073741823 : Int32))), .val (.int ((((p1 &&& (1073741823 : Int32)) + (1 : Int32)) + (p2 &&& (536870911 : Int32))) &&& (1073741823 : Int32))), .val (.int (Int32.ofNat va)), .val (.int (Int32.ofNat vb)), .val (.int (Int32.ofNat vc)), .val (.int (Int32.ofNat vd)), .val (.int (Int32.ofNat ve)), .unset, .unset, .unset, .unset, .unset, .unset] []))
  refine own_by (fun _ kZ => XS.iloadN X0.here hx rfl (hb hby at_53) rfl kZ) ?_
  show own_R p.tables e below _ (s₁.setTop (mkF m 54 #[.val (.int p1), .val (.int p2), .val (.int p3), .val (.int (p1 &&& (1073741823 : Int32))), .val (.int ((((p1 &&& (1073741823 : Int32)) + (1 : Int32)) + (p2 &&& (536870911 : Int32))) &&& (1073741823 : Int32))), .val (.int (Int32.ofNat va)), .val (.int (Int32.ofNat vb)), .val (.int (Int32.ofNat vc)), .val (.int (Int32.ofNat vd)), .val (.int (Int32.ofNat ve)), .unset, .unset, .unset, .unset, .unset, .unset] [(.int p3)]))
  refine own_by (fun _ kZ => XS.bipush X0.here hx rfl (hb hby at_54) kZ) ?_
  show own_R p.tables e below _ (s₁.setTop (mkF m 56 #[.val (.int p1), .val (.int p2), .val (.int p3), .val (.int (p1 &&& (1073741823 : Int32))), .val (.int ((((p1 &&& (1073741823 : Int32)) + (1 : Int32)) + (p2 &&& (536870911 : Int32))) &&& (1073741823 : Int32))), .val (.int (Int32.ofNat va)), .val (.int (Int32.ofNat vb)), .val (.int (Int32.ofNat vc)), .val (.int (Int32.ofNat vd)), .val (.int (Int32.ofNat ve)), .unset, .unset, .unset, .unset, .unset, .unset] [(.int (10 : Int32)), (.int p3)]))
  refine own_by (fun _ kZ => XS.iushr X0.here hx rfl (hb hby at_56) rfl kZ) ?_
  show own_R p.tables e below _ (s₁.setTop (mkF m 57 #[.val (.int p1), .val (.int p2), .val (.int p3), .val (.int (p1 &&& (1073741823 : Int32))), .val (.int ((((p1 &&& (1073741823 : Int32)) + (1 : Int32)) + (p2 &&& (536870911 : Int32))) &&& (1073741823 : Int32))), .val (.int (Int32.ofNat va)), .val (.int (Int32.ofNat vb)), .val (.int (Int32.ofNat vc)), .val (.int (Int32.ofNat vd)), .val (.int (Int32.ofNat ve)), .unset, .unset, .unset, .unset, .unset, .unset] [(.int ((p3.toUInt32 >>> ((10 : Int32) &&& 31).toUInt32).toInt32))]))
  refine own_by (fun _ kZ => XS.iconst X0.here hx rfl (hb hby at_57) kZ) ?_
  show own_R p.tables e below _ (s₁.setTop (mkF m 58 #[.val (.int p1), .val (.int p2), .val (.int p3), .val (.int (p1 &&& (1073741823 : Int32))), .val (.int ((((p1 &&& (1073741823 : Int32)) + (1 : Int32)) + (p2 &&& (536870911 : Int32))) &&& (1073741823 : Int32))), .val (.int (Int32.ofNat va)), .val (.int (Int32.ofNat vb)), .val (.int (Int32.ofNat vc)), .val (.int (Int32.ofNat vd)), .val (.int (Int32.ofNat ve)), .unset, .unset, .unset, .unset, .unset, .unset] [(.int (3 : Int32)), (.int ((p3.toUInt32 >>> ((10 : Int32) &&& 31).toUInt32).toInt32))]))
  refine own_by (fun _ kZ => XS.iand X0.here hx rfl (hb hby at_58) rfl kZ) ?_
  show own_R p.tables e below _ (s₁.setTop (mkF m 59 #[.val (.int p1), .val (.int p2), .val (.int p3), .val (.int (p1 &&& (1073741823 : Int32))), .val (.int ((((p1 &&& (1073741823 : Int32)) + (1 : Int32)) + (p2 &&& (536870911 : Int32))) &&& (1073741823 : Int32))), .val (.int (Int32.ofNat va)), .val (.int (Int32.ofNat vb)), .val (.int (Int32.ofNat vc)), .val (.int (Int32.ofNat vd)), .val (.int (Int32.ofNat ve)), .unset, .unset, .unset, .unset, .unset, .unset] [(.int (((p3.toUInt32 >>> ((10 : Int32) &&& 31).toUInt32).toInt32) &&& (3 : Int32)))]))
  obtain ⟨vf, hvf, lvf⟩ := own_and3 ((p3.toUInt32 >>> ((10 : Int32) &&& 31).toUInt32).toInt32)
  rw [show (((p3.toUInt32 >>> ((10 : Int32) &&& 31).toUInt32).toInt32) &&& (3 : Int32)) = (Int32.ofNat vf) from hvf]
  show own_R p.tables e below _ (s₁.setTop (mkF m 59 #[.val (.int p1), .val (.int p2), .val (.int p3), .val (.int (p1 &&& (1073741823 : Int32))), .val (.int ((((p1 &&& (1073741823 : Int32)) + (1 : Int32)) + (p2 &&& (536870911 : Int32))) &&& (1073741823 : Int32))), .val (.int (Int32.ofNat va)), .val (.int (Int32.ofNat vb)), .val (.int (Int32.ofNat vc)), .val (.int (Int32.ofNat vd)), .val (.int (Int32.ofNat ve)), .unset, .unset, .unset, .unset, .unset, .unset] [(.int (Int32.ofNat vf))]))
  refine own_by (fun _ kZ => XS.istore X0.here hx rfl (hb hby at_59) rfl (l' := #[.val (.int p1), .val (.int p2), .val (.int p3), .val (.int (p1 &&& (1073741823 : Int32))), .val (.int ((((p1 &&& (1073741823 : Int32)) + (1 : Int32)) + (p2 &&& (536870911 : Int32))) &&& (1073741823 : Int32))), .val (.int (Int32.ofNat va)), .val (.int (Int32.ofNat vb)), .val (.int (Int32.ofNat vc)), .val (.int (Int32.ofNat vd)), .val (.int (Int32.ofNat ve)), .val (.int (Int32.ofNat vf)), .unset, .unset, .unset, .unset, .unset]) rfl kZ) ?_
  show own_R p.tables e below _ (s₁.setTop (mkF m 61 #[.val (.int p1), .val (.int p2), .val (.int p3), .val (.int (p1 &&& (1073741823 : Int32))), .val (.int ((((p1 &&& (1073741823 : Int32)) + (1 : Int32)) + (p2 &&& (536870911 : Int32))) &&& (1073741823 : Int32))), .val (.int (Int32.ofNat va)), .val (.int (Int32.ofNat vb)), .val (.int (Int32.ofNat vc)), .val (.int (Int32.ofNat vd)), .val (.int (Int32.ofNat ve)), .val (.int (Int32.ofNat vf)), .unset, .unset, .unset, .unset, .unset] []))
  obtain ⟨T162, h162, X162, e162, E162, A162, D162, -, st162⟩ := newO X0 hx hZ hown (hw _ (List.mem_of_getElem? (i := 2) rfl)) (hw _ (List.mem_of_getElem? (i := 3) rfl)) (hw _ (List.mem_of_getElem? (i := 4) rfl)) e0 (g := (mkF m 61 #[.val (.int p1), .val (.int p2), .val (.int p3), .val (.int (p1 &&& (1073741823 : Int32))), .val (.int ((((p1 &&& (1073741823 : Int32)) + (1 : Int32)) + (p2 &&& (536870911 : Int32))) &&& (1073741823 : Int32))), .val (.int (Int32.ofNat va)), .val (.int (Int32.ofNat vb)), .val (.int (Int32.ofNat vc)), .val (.int (Int32.ofNat vd)), .val (.int (Int32.ofNat ve)), .val (.int (Int32.ofNat vf)), .unset, .unset, .unset, .unset, .unset] [])) rfl (hb hby at_61) (by decide) (by decide)
  obtain ⟨cs, g162⟩ : ∃ z, z = h0.size := ⟨_, rfl⟩
  have ge_cs : n0 ≤ cs := Nat.le_trans Z0 (Nat.le_of_eq g162.symm)
  rw [← g162] at A162 D162 st162
  have Z163 : n0 ≤ h162.size := Nat.le_trans Z0 E162.1
  have F162_vms : Fld Z h162 cs "com/example/frugal_scheduler/frugalscheduler/planners/PoolSchedule$Candidates" "vms" "[I" .null := D162 (Or.inr (hw _ (List.mem_of_getElem? (i := 13) rfl))) (ty := (.array .int)) (by decide)
  have F162_addedFor : Fld Z h162 cs "com/example/frugal_scheduler/frugalscheduler/planners/PoolSchedule$Candidates" "addedFor" "[I" .null := D162 (Or.inr (hw _ (List.mem_of_getElem? (i := 15) rfl))) (ty := (.array .int)) (by decide)
  have F162_task : Fld Z h162 cs "com/example/frugal_scheduler/frugalscheduler/planners/PoolSchedule$Candidates" "task" "I" (.int (0 : Int32)) := D162 (Or.inl (hw _ (List.mem_of_getElem? (i := 22) rfl))) (ty := .int) (by decide)
  have F162_size : Fld Z h162 cs "com/example/frugal_scheduler/frugalscheduler/planners/PoolSchedule$Candidates" "size" "I" (.int (0 : Int32)) := D162 (Or.inl (hw _ (List.mem_of_getElem? (i := 24) rfl))) (ty := .int) (by decide)
  refine own_by st162 ?_
  show own_R p.tables e below _ (T162.setTop (mkF m 64 #[.val (.int p1), .val (.int p2), .val (.int p3), .val (.int (p1 &&& (1073741823 : Int32))), .val (.int ((((p1 &&& (1073741823 : Int32)) + (1 : Int32)) + (p2 &&& (536870911 : Int32))) &&& (1073741823 : Int32))), .val (.int (Int32.ofNat va)), .val (.int (Int32.ofNat vb)), .val (.int (Int32.ofNat vc)), .val (.int (Int32.ofNat vd)), .val (.int (Int32.ofNat ve)), .val (.int (Int32.ofNat vf)), .unset, .unset, .unset, .unset, .unset] [(.ref cs)]))
  refine own_by (fun _ kZ => XS.dup X162.here hx rfl (hb hby at_64) rfl rfl kZ) ?_
  show own_R p.tables e below _ (T162.setTop (mkF m 65 #[.val (.int p1), .val (.int p2), .val (.int p3), .val (.int (p1 &&& (1073741823 : Int32))), .val (.int ((((p1 &&& (1073741823 : Int32)) + (1 : Int32)) + (p2 &&& (536870911 : Int32))) &&& (1073741823 : Int32))), .val (.int (Int32.ofNat va)), .val (.int (Int32.ofNat vb)), .val (.int (Int32.ofNat vc)), .val (.int (Int32.ofNat vd)), .val (.int (Int32.ofNat ve)), .val (.int (Int32.ofNat vf)), .unset, .unset, .unset, .unset, .unset] [(.ref cs), (.ref cs)]))
  refine own_by (fun _ kZ => XS.iconst X162.here hx rfl (hb hby at_65) kZ) ?_
  show own_R p.tables e below _ (T162.setTop (mkF m 66 #[.val (.int p1), .val (.int p2), .val (.int p3), .val (.int (p1 &&& (1073741823 : Int32))), .val (.int ((((p1 &&& (1073741823 : Int32)) + (1 : Int32)) + (p2 &&& (536870911 : Int32))) &&& (1073741823 : Int32))), .val (.int (Int32.ofNat va)), .val (.int (Int32.ofNat vb)), .val (.int (Int32.ofNat vc)), .val (.int (Int32.ofNat vd)), .val (.int (Int32.ofNat ve)), .val (.int (Int32.ofNat vf)), .unset, .unset, .unset, .unset, .unset] [(.int (4 : Int32)), (.ref cs), (.ref cs)]))
  obtain ⟨_, _, ⟨T164, L164, k164, n164⟩, -, X164, ⟨Lc164, hQ164, l164, y164, z164⟩, st164⟩ := X162.specialBack hx (y := (⟨"com/example/frugal_scheduler/frugalscheduler/planners/PoolSchedule$Candidates", "<init>", "(I)V"⟩ : MethodName)) rfl hown (mvT hZ (hw _ (List.mem_of_getElem? (i := 5) rfl))) (mvT hZ (hw _ (List.mem_of_getElem? (i := 6) rfl))) (mvT hZ (hw _ (List.mem_of_getElem? (i := 7) rfl))) (by decide) (backOf (W := 1) (rm1 l Z a0 hw [] cs (4 : Int32) h162 n0 Z163 rfl ge_cs A162 F162_vms F162_addedFor F162_size F162_task) hZ (hw _ (List.mem_of_getElem? (i := 7) rfl)) (hw _ (List.mem_of_getElem? (i := 4) rfl)) (by decide) (by decide)) (g := (mkF m 66 #[.val (.int p1), .val (.int p2), .val (.int p3), .val (.int (p1 &&& (1073741823 : Int32))), .val (.int ((((p1 &&& (1073741823 : Int32)) + (1 : Int32)) + (p2 &&& (536870911 : Int32))) &&& (1073741823 : Int32))), .val (.int (Int32.ofNat va)), .val (.int (Int32.ofNat vb)), .val (.int (Int32.ofNat vc)), .val (.int (Int32.ofNat vd)), .val (.int (Int32.ofNat ve)), .val (.int (Int32.ofNat vf)), .unset, .unset, .unset, .unset, .unset] [(.int (4 : Int32)), (.ref cs), (.ref cs)])) rfl (by rw [hml]; rfl) (Steps.refl _) (a := cs) (argsL := [(.int (4 : Int32))]) (rest := [(.ref cs)]) (lenOf own_pd6 rfl) rfl (by show 2 * 0 + _ ≤ _; exact Nat.le_of_eq rfl) (hb hby at_66) (fun _ _ => ⟨rfl, e162, (by decide : 1 + 2 ≤ _), (by decide : 4 + 8 ≤ _)⟩)
  dsimp only [Pt.U, Pt.locs, Pt.cells, Pt.slots] at X164 l164 y164 z164 st164 hQ164
  subst l164 y164 z164
  obtain ⟨rfl, Nq164, K164, b, c, W164⟩ := hQ164
  have N164 := Fr.app N0 Nq164
  have f165_cs : Exa Z T164.heap cs "com/example/frugal_scheduler/frugalscheduler/planners/PoolSchedule$Candidates" := A162.keep K164
  have Z166 : n0 ≤ T164.heap.size := Nat.le_trans Z163 K164.1
  refine own_by (fun _ kZ => st164.trans kZ) ?_
  show own_R p.tables e below _ (T164.setTop (mkF m 69 #[.val (.int p1), .val (.int p2), .val (.int p3), .val (.int (p1 &&& (1073741823 : Int32))), .val (.int ((((p1 &&& (1073741823 : Int32)) + (1 : Int32)) + (p2 &&& (536870911 : Int32))) &&& (1073741823 : Int32))), .val (.int (Int32.ofNat va)), .val (.int (Int32.ofNat vb)), .val (.int (Int32.ofNat vc)), .val (.int (Int32.ofNat vd)), .val (.int (Int32.ofNat ve)), .val (.int (Int32.ofNat vf)), .unset, .unset, .unset, .unset, .unset] [(.ref cs)]))
  refine own_by (fun _ kZ => XS.astore X164.here hx rfl (hb hby at_69) rfl rfl (l' := #[.val (.int p1), .val (.int p2), .val (.int p3), .val (.int (p1 &&& (1073741823 : Int32))), .val (.int ((((p1 &&& (1073741823 : Int32)) + (1 : Int32)) + (p2 &&& (536870911 : Int32))) &&& (1073741823 : Int32))), .val (.int (Int32.ofNat va)), .val (.int (Int32.ofNat vb)), .val (.int (Int32.ofNat vc)), .val (.int (Int32.ofNat vd)), .val (.int (Int32.ofNat ve)), .val (.int (Int32.ofNat vf)), .val (.ref cs), .unset, .unset, .unset, .unset]) rfl kZ) ?_
  show own_R p.tables e below _ (T164.setTop (mkF m 71 #[.val (.int p1), .val (.int p2), .val (.int p3), .val (.int (p1 &&& (1073741823 : Int32))), .val (.int ((((p1 &&& (1073741823 : Int32)) + (1 : Int32)) + (p2 &&& (536870911 : Int32))) &&& (1073741823 : Int32))), .val (.int (Int32.ofNat va)), .val (.int (Int32.ofNat vb)), .val (.int (Int32.ofNat vc)), .val (.int (Int32.ofNat vd)), .val (.int (Int32.ofNat ve)), .val (.int (Int32.ofNat vf)), .val (.ref cs), .unset, .unset, .unset, .unset] []))
  refine own_by (fun _ kZ => XS.aload X164.here hx rfl (hb hby at_71) rfl rfl kZ) ?_
  show own_R p.tables e below _ (T164.setTop (mkF m 73 #[.val (.int p1), .val (.int p2), .val (.int p3), .val (.int (p1 &&& (1073741823 : Int32))), .val (.int ((((p1 &&& (1073741823 : Int32)) + (1 : Int32)) + (p2 &&& (536870911 : Int32))) &&& (1073741823 : Int32))), .val (.int (Int32.ofNat va)), .val (.int (Int32.ofNat vb)), .val (.int (Int32.ofNat vc)), .val (.int (Int32.ofNat vd)), .val (.int (Int32.ofNat ve)), .val (.int (Int32.ofNat vf)), .val (.ref cs), .unset, .unset, .unset, .unset] [(.ref cs)]))
  refine own_by (fun _ kZ => XS.iloadN X164.here hx rfl (hb hby at_73) rfl kZ) ?_
  show own_R p.tables e below _ (T164.setTop (mkF m 74 #[.val (.int p1), .val (.int p2), .val (.int p3), .val (.int (p1 &&& (1073741823 : Int32))), .val (.int ((((p1 &&& (1073741823 : Int32)) + (1 : Int32)) + (p2 &&& (536870911 : Int32))) &&& (1073741823 : Int32))), .val (.int (Int32.ofNat va)), .val (.int (Int32.ofNat vb)), .val (.int (Int32.ofNat vc)), .val (.int (Int32.ofNat vd)), .val (.int (Int32.ofNat ve)), .val (.int (Int32.ofNat vf)), .val (.ref cs), .unset, .unset, .unset, .unset] [(.int (p1 &&& (1073741823 : Int32))), (.ref cs)]))
  obtain ⟨cq167, kq167, q167a, q167b, q167c⟩ := isOf hZ rfl f165_cs
  obtain ⟨_, _, ⟨T167, L167, k167, n167⟩, -, X167, ⟨Lc167, hQ167, l167, y167, z167⟩, st167⟩ := X164.virtualBack hx (y := (⟨"com/example/frugal_scheduler/frugalscheduler/planners/PoolSchedule$Candidates", "clear", "(I)V"⟩ : MethodName)) (z := (⟨"com/example/frugal_scheduler/frugalscheduler/planners/PoolSchedule$Candidates", "clear", "(I)V"⟩ : MethodName)) hown (mvT hZ (hw _ (List.mem_of_getElem? (i := 16) rfl))) (mvT hZ (hw _ (List.mem_of_getElem? (i := 17) rfl))) (notFace_of_selects (args := #[]) (mvT hZ (hw _ (List.mem_of_getElem? (i := 19) rfl)))) (mvT hZ (hw _ (List.mem_of_getElem? (i := 19) rfl))) (mvT hZ (hw _ (List.mem_of_getElem? (i := 18) rfl))) (by decide) (backOf (W := 0) (rm3 l Z a0 hw [] cs (p1 &&& (1073741823 : Int32)) b c 0 (0 : Int32) (fun _ => (0 : Int32)) (fun _ => (0 : Int32)) T164.heap n0 Z166 W164) hZ (hw _ (List.mem_of_getElem? (i := 20) rfl)) (hw _ (List.mem_of_getElem? (i := 4) rfl)) (by decide) (by decide)) q167a q167c (g := (mkF m 74 #[.val (.int p1), .val (.int p2), .val (.int p3), .val (.int (p1 &&& (1073741823 : Int32))), .val (.int ((((p1 &&& (1073741823 : Int32)) + (1 : Int32)) + (p2 &&& (536870911 : Int32))) &&& (1073741823 : Int32))), .val (.int (Int32.ofNat va)), .val (.int (Int32.ofNat vb)), .val (.int (Int32.ofNat vc)), .val (.int (Int32.ofNat vd)), .val (.int (Int32.ofNat ve)), .val (.int (Int32.ofNat vf)), .val (.ref cs), .unset, .unset, .unset, .unset] [(.int (p1 &&& (1073741823 : Int32))), (.ref cs)])) rfl (by rw [hml]; rfl) (Steps.refl _) (argsL := [(.int (p1 &&& (1073741823 : Int32)))]) (rest := []) (lenOf own_pd6 rfl) rfl (by show 2 * 0 + _ ≤ _; exact Nat.le_of_eq rfl) (hb hby at_74) (fun _ _ => ⟨rfl, rfl, (by decide : 3 + 0 ≤ _), (by decide : 12 + 0 ≤ _)⟩)
  dsimp only [Pt.U, Pt.locs, Pt.cells, Pt.slots] at X167 l167 y167 z167 st167 hQ167
  subst l167 y167 z167
  obtain ⟨rfl, Nq167, K167, W167⟩ := hQ167
  have N167 := Fr.app N164 Nq167
  have f168_cs : Exa Z T167.heap cs "com/example/frugal_scheduler/frugalscheduler/planners/PoolSchedule$Candidates" := f165_cs.keep K167
  have Z169 : n0 ≤ T167.heap.size := Nat.le_trans Z166 K167.1
  refine own_by (fun _ kZ => st167.trans kZ) ?_
  show own_R p.tables e below _ (T167.setTop (mkF m 77 #[.val (.int p1), .val (.int p2), .val (.int p3), .val (.int (p1 &&& (1073741823 : Int32))), .val (.int ((((p1 &&& (1073741823 : Int32)) + (1 : Int32)) + (p2 &&& (536870911 : Int32))) &&& (1073741823 : Int32))), .val (.int (Int32.ofNat va)), .val (.int (Int32.ofNat vb)), .val (.int (Int32.ofNat vc)), .val (.int (Int32.ofNat vd)), .val (.int (Int32.ofNat ve)), .val (.int (Int32.ofNat vf)), .val (.ref cs), .unset, .unset, .unset, .unset] []))
  have I0 : own_Inv 0 (fun _ => (0 : Int32)) (fun _ => (0 : Int32)) ((p1 &&& (1073741823 : Int32)) + 1) [] := own_start _ _ _ (fun x _ => hk1.symm)
  have q0 : ∀ x, x < 4 → (fun _ : Nat => (0 : Int32)) x = 0 ∨ (fun _ : Nat => (0 : Int32)) x = ((p1 &&& (1073741823 : Int32)) + 1) := fun x _ => Or.inl rfl
  refine own_by (fun _ kZ => XS.aload X167.here hx rfl (hb hby at_77) rfl rfl kZ) ?_
  show own_R p.tables e below _ (T167.setTop (mkF m 79 #[.val (.int p1), .val (.int p2), .val (.int p3), .val (.int (p1 &&& (1073741823 : Int32))), .val (.int ((((p1 &&& (1073741823 : Int32)) + (1 : Int32)) + (p2 &&& (536870911 : Int32))) &&& (1073741823 : Int32))), .val (.int (Int32.ofNat va)), .val (.int (Int32.ofNat vb)), .val (.int (Int32.ofNat vc)), .val (.int (Int32.ofNat vd)), .val (.int (Int32.ofNat ve)), .val (.int (Int32.ofNat vf)), .val (.ref cs), .unset, .unset, .unset, .unset] [(.ref cs)]))
  refine own_by (fun _ kZ => XS.iload X167.here hx rfl (hb hby at_79) rfl kZ) ?_
  show own_R p.tables e below _ (T167.setTop (mkF m 81 #[.val (.int p1), .val (.int p2), .val (.int p3), .val (.int (p1 &&& (1073741823 : Int32))), .val (.int ((((p1 &&& (1073741823 : Int32)) + (1 : Int32)) + (p2 &&& (536870911 : Int32))) &&& (1073741823 : Int32))), .val (.int (Int32.ofNat va)), .val (.int (Int32.ofNat vb)), .val (.int (Int32.ofNat vc)), .val (.int (Int32.ofNat vd)), .val (.int (Int32.ofNat ve)), .val (.int (Int32.ofNat vf)), .val (.ref cs), .unset, .unset, .unset, .unset] [(.int (Int32.ofNat va)), (.ref cs)]))
  obtain ⟨cq170, kq170, q170a, q170b, q170c⟩ := isOf hZ rfl f168_cs
  obtain ⟨_, _, ⟨T170, L170, k170, n170⟩, -, X170, ⟨Lc170, hQ170, l170, y170, z170⟩, st170⟩ := X167.virtualBack hx (y := (⟨"com/example/frugal_scheduler/frugalscheduler/planners/PoolSchedule$Candidates", "add", "(I)V"⟩ : MethodName)) (z := (⟨"com/example/frugal_scheduler/frugalscheduler/planners/PoolSchedule$Candidates", "add", "(I)V"⟩ : MethodName)) hown (mvT hZ (hw _ (List.mem_of_getElem? (i := 25) rfl))) (mvT hZ (hw _ (List.mem_of_getElem? (i := 26) rfl))) (notFace_of_selects (args := #[]) (mvT hZ (hw _ (List.mem_of_getElem? (i := 28) rfl)))) (mvT hZ (hw _ (List.mem_of_getElem? (i := 28) rfl))) (mvT hZ (hw _ (List.mem_of_getElem? (i := 27) rfl))) (by decide) (backOf (W := 0) (rm4 l Z a0 hw [] cs (Int32.ofNat va) b c 0 ((p1 &&& (1073741823 : Int32)) + 1) (fun _ => (0 : Int32)) (fun _ => (0 : Int32)) va T167.heap n0 Z169 W167 rfl lva (by omega)) hZ (hw _ (List.mem_of_getElem? (i := 29) rfl)) (hw _ (List.mem_of_getElem? (i := 4) rfl)) (by decide) (by decide)) q170a q170c (g := (mkF m 81 #[.val (.int p1), .val (.int p2), .val (.int p3), .val (.int (p1 &&& (1073741823 : Int32))), .val (.int ((((p1 &&& (1073741823 : Int32)) + (1 : Int32)) + (p2 &&& (536870911 : Int32))) &&& (1073741823 : Int32))), .val (.int (Int32.ofNat va)), .val (.int (Int32.ofNat vb)), .val (.int (Int32.ofNat vc)), .val (.int (Int32.ofNat vd)), .val (.int (Int32.ofNat ve)), .val (.int (Int32.ofNat vf)), .val (.ref cs), .unset, .unset, .unset, .unset] [(.int (Int32.ofNat va)), (.ref cs)])) rfl (by rw [hml]; rfl) (Steps.refl _) (argsL := [(.int (Int32.ofNat va))]) (rest := []) (lenOf own_pd6 rfl) rfl (by show 2 * 0 + _ ≤ _; exact Nat.le_of_eq rfl) (hb hby at_81) (fun _ _ => ⟨rfl, rfl, (by decide : 3 + 0 ≤ _), (by decide : 12 + 0 ≤ _)⟩)
  dsimp only [Pt.U, Pt.locs, Pt.cells, Pt.slots] at X170 l170 y170 z170 st170 hQ170
  subst l170 y170 z170
  obtain ⟨rfl, Nq170, K170, W170⟩ := hQ170
  have N170 := Fr.app N167 Nq170
  have f171_cs : Exa Z T170.heap cs "com/example/frugal_scheduler/frugalscheduler/planners/PoolSchedule$Candidates" := f168_cs.keep K170
  have Z172 : n0 ≤ T170.heap.size := Nat.le_trans Z169 K170.1
  refine own_by (fun _ kZ => st170.trans kZ) ?_
  show own_R p.tables e below _ (T170.setTop (mkF m 84 #[.val (.int p1), .val (.int p2), .val (.int p3), .val (.int (p1 &&& (1073741823 : Int32))), .val (.int ((((p1 &&& (1073741823 : Int32)) + (1 : Int32)) + (p2 &&& (536870911 : Int32))) &&& (1073741823 : Int32))), .val (.int (Int32.ofNat va)), .val (.int (Int32.ofNat vb)), .val (.int (Int32.ofNat vc)), .val (.int (Int32.ofNat vd)), .val (.int (Int32.ofNat ve)), .val (.int (Int32.ofNat vf)), .val (.ref cs), .unset, .unset, .unset, .unset] []))
  have I1 := own_step I0 va lva
  have l1 := own_an_le 0 ((p1 &&& (1073741823 : Int32)) + 1) (fun _ => (0 : Int32)) va
  have q1 := own_ag01 q0 va
  generalize own_an 0 ((p1 &&& (1073741823 : Int32)) + 1) (fun _ => (0 : Int32)) va = m1 at W170 I1 l1
  generalize own_av (fun _ => (0 : Int32)) 0 ((p1 &&& (1073741823 : Int32)) + 1) (fun _ => (0 : Int32)) va = u1 at W170 I1
  generalize own_ag (fun _ => (0 : Int32)) ((p1 &&& (1073741823 : Int32)) + 1) va = y1 at W170 I1 q1
  refine own_by (fun _ kZ => XS.aload X170.here hx rfl (hb hby at_84) rfl rfl kZ) ?_
  show own_R p.tables e below _ (T170.setTop (mkF m 86 #[.val (.int p1), .val (.int p2), .val (.int p3), .val (.int (p1 &&& (1073741823 : Int32))), .val (.int ((((p1 &&& (1073741823 : Int32)) + (1 : Int32)) + (p2 &&& (536870911 : Int32))) &&& (1073741823 : Int32))), .val (.int (Int32.ofNat va)), .val (.int (Int32.ofNat vb)), .val (.int (Int32.ofNat vc)), .val (.int (Int32.ofNat vd)), .val (.int (Int32.ofNat ve)), .val (.int (Int32.ofNat vf)), .val (.ref cs), .unset, .unset, .unset, .unset] [(.ref cs)]))
  refine own_by (fun _ kZ => XS.iload X170.here hx rfl (hb hby at_86) rfl kZ) ?_
  show own_R p.tables e below _ (T170.setTop (mkF m 88 #[.val (.int p1), .val (.int p2), .val (.int p3), .val (.int (p1 &&& (1073741823 : Int32))), .val (.int ((((p1 &&& (1073741823 : Int32)) + (1 : Int32)) + (p2 &&& (536870911 : Int32))) &&& (1073741823 : Int32))), .val (.int (Int32.ofNat va)), .val (.int (Int32.ofNat vb)), .val (.int (Int32.ofNat vc)), .val (.int (Int32.ofNat vd)), .val (.int (Int32.ofNat ve)), .val (.int (Int32.ofNat vf)), .val (.ref cs), .unset, .unset, .unset, .unset] [(.int (Int32.ofNat vb)), (.ref cs)]))
  obtain ⟨cq173, kq173, q173a, q173b, q173c⟩ := isOf hZ rfl f171_cs
  obtain ⟨_, _, ⟨T173, L173, k173, n173⟩, -, X173, ⟨Lc173, hQ173, l173, y173, z173⟩, st173⟩ := X170.virtualBack hx (y := (⟨"com/example/frugal_scheduler/frugalscheduler/planners/PoolSchedule$Candidates", "add", "(I)V"⟩ : MethodName)) (z := (⟨"com/example/frugal_scheduler/frugalscheduler/planners/PoolSchedule$Candidates", "add", "(I)V"⟩ : MethodName)) hown (mvT hZ (hw _ (List.mem_of_getElem? (i := 25) rfl))) (mvT hZ (hw _ (List.mem_of_getElem? (i := 26) rfl))) (notFace_of_selects (args := #[]) (mvT hZ (hw _ (List.mem_of_getElem? (i := 28) rfl)))) (mvT hZ (hw _ (List.mem_of_getElem? (i := 28) rfl))) (mvT hZ (hw _ (List.mem_of_getElem? (i := 27) rfl))) (by decide) (backOf (W := 0) (rm4 l Z a0 hw [] cs (Int32.ofNat vb) b c m1 ((p1 &&& (1073741823 : Int32)) + 1) u1 y1 vb T170.heap n0 Z172 W170 rfl lvb (by omega)) hZ (hw _ (List.mem_of_getElem? (i := 29) rfl)) (hw _ (List.mem_of_getElem? (i := 4) rfl)) (by decide) (by decide)) q173a q173c (g := (mkF m 88 #[.val (.int p1), .val (.int p2), .val (.int p3), .val (.int (p1 &&& (1073741823 : Int32))), .val (.int ((((p1 &&& (1073741823 : Int32)) + (1 : Int32)) + (p2 &&& (536870911 : Int32))) &&& (1073741823 : Int32))), .val (.int (Int32.ofNat va)), .val (.int (Int32.ofNat vb)), .val (.int (Int32.ofNat vc)), .val (.int (Int32.ofNat vd)), .val (.int (Int32.ofNat ve)), .val (.int (Int32.ofNat vf)), .val (.ref cs), .unset, .unset, .unset, .unset] [(.int (Int32.ofNat vb)), (.ref cs)])) rfl (by rw [hml]; rfl) (Steps.refl _) (argsL := [(.int (Int32.ofNat vb))]) (rest := []) (lenOf own_pd6 rfl) rfl (by show 2 * 0 + _ ≤ _; exact Nat.le_of_eq rfl) (hb hby at_88) (fun _ _ => ⟨rfl, rfl, (by decide : 3 + 0 ≤ _), (by decide : 12 + 0 ≤ _)⟩)
  dsimp only [Pt.U, Pt.locs, Pt.cells, Pt.slots] at X173 l173 y173 z173 st173 hQ173
  subst l173 y173 z173
  obtain ⟨rfl, Nq173, K173, W173⟩ := hQ173
  have N173 := Fr.app N170 Nq173
  have f174_cs : Exa Z T173.heap cs "com/example/frugal_scheduler/frugalscheduler/planners/PoolSchedule$Candidates" := f171_cs.keep K173
  have Z175 : n0 ≤ T173.heap.size := Nat.le_trans Z172 K173.1
  refine own_by (fun _ kZ => st173.trans kZ) ?_
  show own_R p.tables e below _ (T173.setTop (mkF m 91 #[.val (.int p1), .val (.int p2), .val (.int p3), .val (.int (p1 &&& (1073741823 : Int32))), .val (.int ((((p1 &&& (1073741823 : Int32)) + (1 : Int32)) + (p2 &&& (536870911 : Int32))) &&& (1073741823 : Int32))), .val (.int (Int32.ofNat va)), .val (.int (Int32.ofNat vb)), .val (.int (Int32.ofNat vc)), .val (.int (Int32.ofNat vd)), .val (.int (Int32.ofNat ve)), .val (.int (Int32.ofNat vf)), .val (.ref cs), .unset, .unset, .unset, .unset] []))
  have I2 := own_step I1 vb lvb
  have l2 := own_an_le m1 ((p1 &&& (1073741823 : Int32)) + 1) y1 vb
  have q2 := own_ag01 q1 vb
  generalize own_an m1 ((p1 &&& (1073741823 : Int32)) + 1) y1 vb = m2 at W173 I2 l2
  generalize own_av u1 m1 ((p1 &&& (1073741823 : Int32)) + 1) y1 vb = u2 at W173 I2
  generalize own_ag y1 ((p1 &&& (1073741823 : Int32)) + 1) vb = y2 at W173 I2 q2
  refine own_by (fun _ kZ => XS.aload X173.here hx rfl (hb hby at_91) rfl rfl kZ) ?_
  show own_R p.tables e below _ (T173.setTop (mkF m 93 #[.val (.int p1), .val (.int p2), .val (.int p3), .val (.int (p1 &&& (1073741823 : Int32))), .val (.int ((((p1 &&& (1073741823 : Int32)) + (1 : Int32)) + (p2 &&& (536870911 : Int32))) &&& (1073741823 : Int32))), .val (.int (Int32.ofNat va)), .val (.int (Int32.ofNat vb)), .val (.int (Int32.ofNat vc)), .val (.int (Int32.ofNat vd)), .val (.int (Int32.ofNat ve)), .val (.int (Int32.ofNat vf)), .val (.ref cs), .unset, .unset, .unset, .unset] [(.ref cs)]))
  refine own_by (fun _ kZ => XS.iload X173.here hx rfl (hb hby at_93) rfl kZ) ?_
  show own_R p.tables e below _ (T173.setTop (mkF m 95 #[.val (.int p1), .val (.int p2), .val (.int p3), .val (.int (p1 &&& (1073741823 : Int32))), .val (.int ((((p1 &&& (1073741823 : Int32)) + (1 : Int32)) + (p2 &&& (536870911 : Int32))) &&& (1073741823 : Int32))), .val (.int (Int32.ofNat va)), .val (.int (Int32.ofNat vb)), .val (.int (Int32.ofNat vc)), .val (.int (Int32.ofNat vd)), .val (.int (Int32.ofNat ve)), .val (.int (Int32.ofNat vf)), .val (.ref cs), .unset, .unset, .unset, .unset] [(.int (Int32.ofNat vc)), (.ref cs)]))
  obtain ⟨cq176, kq176, q176a, q176b, q176c⟩ := isOf hZ rfl f174_cs
  obtain ⟨_, _, ⟨T176, L176, k176, n176⟩, -, X176, ⟨Lc176, hQ176, l176, y176, z176⟩, st176⟩ := X173.virtualBack hx (y := (⟨"com/example/frugal_scheduler/frugalscheduler/planners/PoolSchedule$Candidates", "add", "(I)V"⟩ : MethodName)) (z := (⟨"com/example/frugal_scheduler/frugalscheduler/planners/PoolSchedule$Candidates", "add", "(I)V"⟩ : MethodName)) hown (mvT hZ (hw _ (List.mem_of_getElem? (i := 25) rfl))) (mvT hZ (hw _ (List.mem_of_getElem? (i := 26) rfl))) (notFace_of_selects (args := #[]) (mvT hZ (hw _ (List.mem_of_getElem? (i := 28) rfl)))) (mvT hZ (hw _ (List.mem_of_getElem? (i := 28) rfl))) (mvT hZ (hw _ (List.mem_of_getElem? (i := 27) rfl))) (by decide) (backOf (W := 0) (rm4 l Z a0 hw [] cs (Int32.ofNat vc) b c m2 ((p1 &&& (1073741823 : Int32)) + 1) u2 y2 vc T173.heap n0 Z175 W173 rfl lvc (by omega)) hZ (hw _ (List.mem_of_getElem? (i := 29) rfl)) (hw _ (List.mem_of_getElem? (i := 4) rfl)) (by decide) (by decide)) q176a q176c (g := (mkF m 95 #[.val (.int p1), .val (.int p2), .val (.int p3), .val (.int (p1 &&& (1073741823 : Int32))), .val (.int ((((p1 &&& (1073741823 : Int32)) + (1 : Int32)) + (p2 &&& (536870911 : Int32))) &&& (1073741823 : Int32))), .val (.int (Int32.ofNat va)), .val (.int (Int32.ofNat vb)), .val (.int (Int32.ofNat vc)), .val (.int (Int32.ofNat vd)), .val (.int (Int32.ofNat ve)), .val (.int (Int32.ofNat vf)), .val (.ref cs), .unset, .unset, .unset, .unset] [(.int (Int32.ofNat vc)), (.ref cs)])) rfl (by rw [hml]; rfl) (Steps.refl _) (argsL := [(.int (Int32.ofNat vc))]) (rest := []) (lenOf own_pd6 rfl) rfl (by show 2 * 0 + _ ≤ _; exact Nat.le_of_eq rfl) (hb hby at_95) (fun _ _ => ⟨rfl, rfl, (by decide : 3 + 0 ≤ _), (by decide : 12 + 0 ≤ _)⟩)
  dsimp only [Pt.U, Pt.locs, Pt.cells, Pt.slots] at X176 l176 y176 z176 st176 hQ176
  subst l176 y176 z176
  obtain ⟨rfl, Nq176, K176, W176⟩ := hQ176
  have N176 := Fr.app N173 Nq176
  have f177_cs : Exa Z T176.heap cs "com/example/frugal_scheduler/frugalscheduler/planners/PoolSchedule$Candidates" := f174_cs.keep K176
  have Z178 : n0 ≤ T176.heap.size := Nat.le_trans Z175 K176.1
  refine own_by (fun _ kZ => st176.trans kZ) ?_
  show own_R p.tables e below _ (T176.setTop (mkF m 98 #[.val (.int p1), .val (.int p2), .val (.int p3), .val (.int (p1 &&& (1073741823 : Int32))), .val (.int ((((p1 &&& (1073741823 : Int32)) + (1 : Int32)) + (p2 &&& (536870911 : Int32))) &&& (1073741823 : Int32))), .val (.int (Int32.ofNat va)), .val (.int (Int32.ofNat vb)), .val (.int (Int32.ofNat vc)), .val (.int (Int32.ofNat vd)), .val (.int (Int32.ofNat ve)), .val (.int (Int32.ofNat vf)), .val (.ref cs), .unset, .unset, .unset, .unset] []))
  have I3 := own_step I2 vc lvc
  have l3 := own_an_le m2 ((p1 &&& (1073741823 : Int32)) + 1) y2 vc
  have q3 := own_ag01 q2 vc
  generalize own_an m2 ((p1 &&& (1073741823 : Int32)) + 1) y2 vc = m3 at W176 I3 l3
  generalize own_av u2 m2 ((p1 &&& (1073741823 : Int32)) + 1) y2 vc = u3 at W176 I3
  generalize own_ag y2 ((p1 &&& (1073741823 : Int32)) + 1) vc = y3 at W176 I3 q3
  refine own_by (fun _ kZ => XS.aload X176.here hx rfl (hb hby at_98) rfl rfl kZ) ?_
  show own_R p.tables e below _ (T176.setTop (mkF m 100 #[.val (.int p1), .val (.int p2), .val (.int p3), .val (.int (p1 &&& (1073741823 : Int32))), .val (.int ((((p1 &&& (1073741823 : Int32)) + (1 : Int32)) + (p2 &&& (536870911 : Int32))) &&& (1073741823 : Int32))), .val (.int (Int32.ofNat va)), .val (.int (Int32.ofNat vb)), .val (.int (Int32.ofNat vc)), .val (.int (Int32.ofNat vd)), .val (.int (Int32.ofNat ve)), .val (.int (Int32.ofNat vf)), .val (.ref cs), .unset, .unset, .unset, .unset] [(.ref cs)]))
  refine own_by (fun _ kZ => XS.iload X176.here hx rfl (hb hby at_100) rfl kZ) ?_
  show own_R p.tables e below _ (T176.setTop (mkF m 102 #[.val (.int p1), .val (.int p2), .val (.int p3), .val (.int (p1 &&& (1073741823 : Int32))), .val (.int ((((p1 &&& (1073741823 : Int32)) + (1 : Int32)) + (p2 &&& (536870911 : Int32))) &&& (1073741823 : Int32))), .val (.int (Int32.ofNat va)), .val (.int (Int32.ofNat vb)), .val (.int (Int32.ofNat vc)), .val (.int (Int32.ofNat vd)), .val (.int (Int32.ofNat ve)), .val (.int (Int32.ofNat vf)), .val (.ref cs), .unset, .unset, .unset, .unset] [(.int (Int32.ofNat vd)), (.ref cs)]))
  obtain ⟨cq179, kq179, q179a, q179b, q179c⟩ := isOf hZ rfl f177_cs
  obtain ⟨_, _, ⟨T179, L179, k179, n179⟩, -, X179, ⟨Lc179, hQ179, l179, y179, z179⟩, st179⟩ := X176.virtualBack hx (y := (⟨"com/example/frugal_scheduler/frugalscheduler/planners/PoolSchedule$Candidates", "add", "(I)V"⟩ : MethodName)) (z := (⟨"com/example/frugal_scheduler/frugalscheduler/planners/PoolSchedule$Candidates", "add", "(I)V"⟩ : MethodName)) hown (mvT hZ (hw _ (List.mem_of_getElem? (i := 25) rfl))) (mvT hZ (hw _ (List.mem_of_getElem? (i := 26) rfl))) (notFace_of_selects (args := #[]) (mvT hZ (hw _ (List.mem_of_getElem? (i := 28) rfl)))) (mvT hZ (hw _ (List.mem_of_getElem? (i := 28) rfl))) (mvT hZ (hw _ (List.mem_of_getElem? (i := 27) rfl))) (by decide) (backOf (W := 0) (rm4 l Z a0 hw [] cs (Int32.ofNat vd) b c m3 ((p1 &&& (1073741823 : Int32)) + 1) u3 y3 vd T176.heap n0 Z178 W176 rfl lvd (by omega)) hZ (hw _ (List.mem_of_getElem? (i := 29) rfl)) (hw _ (List.mem_of_getElem? (i := 4) rfl)) (by decide) (by decide)) q179a q179c (g := (mkF m 102 #[.val (.int p1), .val (.int p2), .val (.int p3), .val (.int (p1 &&& (1073741823 : Int32))), .val (.int ((((p1 &&& (1073741823 : Int32)) + (1 : Int32)) + (p2 &&& (536870911 : Int32))) &&& (1073741823 : Int32))), .val (.int (Int32.ofNat va)), .val (.int (Int32.ofNat vb)), .val (.int (Int32.ofNat vc)), .val (.int (Int32.ofNat vd)), .val (.int (Int32.ofNat ve)), .val (.int (Int32.ofNat vf)), .val (.ref cs), .unset, .unset, .unset, .unset] [(.int (Int32.ofNat vd)), (.ref cs)])) rfl (by rw [hml]; rfl) (Steps.refl _) (argsL := [(.int (Int32.ofNat vd))]) (rest := []) (lenOf own_pd6 rfl) rfl (by show 2 * 0 + _ ≤ _; exact Nat.le_of_eq rfl) (hb hby at_102) (fun _ _ => ⟨rfl, rfl, (by decide : 3 + 0 ≤ _), (by decide : 12 + 0 ≤ _)⟩)
  dsimp only [Pt.U, Pt.locs, Pt.cells, Pt.slots] at X179 l179 y179 z179 st179 hQ179
  subst l179 y179 z179
  obtain ⟨rfl, Nq179, K179, W179⟩ := hQ179
  have N179 := Fr.app N176 Nq179
  have f180_cs : Exa Z T179.heap cs "com/example/frugal_scheduler/frugalscheduler/planners/PoolSchedule$Candidates" := f177_cs.keep K179
  have Z181 : n0 ≤ T179.heap.size := Nat.le_trans Z178 K179.1
  refine own_by (fun _ kZ => st179.trans kZ) ?_
  show own_R p.tables e below _ (T179.setTop (mkF m 105 #[.val (.int p1), .val (.int p2), .val (.int p3), .val (.int (p1 &&& (1073741823 : Int32))), .val (.int ((((p1 &&& (1073741823 : Int32)) + (1 : Int32)) + (p2 &&& (536870911 : Int32))) &&& (1073741823 : Int32))), .val (.int (Int32.ofNat va)), .val (.int (Int32.ofNat vb)), .val (.int (Int32.ofNat vc)), .val (.int (Int32.ofNat vd)), .val (.int (Int32.ofNat ve)), .val (.int (Int32.ofNat vf)), .val (.ref cs), .unset, .unset, .unset, .unset] []))
  have I4 := own_step I3 vd lvd
  have l4 := own_an_le m3 ((p1 &&& (1073741823 : Int32)) + 1) y3 vd
  have q4 := own_ag01 q3 vd
  generalize own_an m3 ((p1 &&& (1073741823 : Int32)) + 1) y3 vd = m4 at W179 I4 l4
  generalize own_av u3 m3 ((p1 &&& (1073741823 : Int32)) + 1) y3 vd = u4 at W179 I4
  generalize own_ag y3 ((p1 &&& (1073741823 : Int32)) + 1) vd = y4 at W179 I4 q4
  refine own_by (fun _ kZ => XS.aload X179.here hx rfl (hb hby at_105) rfl rfl kZ) ?_
  show own_R p.tables e below _ (T179.setTop (mkF m 107 #[.val (.int p1), .val (.int p2), .val (.int p3), .val (.int (p1 &&& (1073741823 : Int32))), .val (.int ((((p1 &&& (1073741823 : Int32)) + (1 : Int32)) + (p2 &&& (536870911 : Int32))) &&& (1073741823 : Int32))), .val (.int (Int32.ofNat va)), .val (.int (Int32.ofNat vb)), .val (.int (Int32.ofNat vc)), .val (.int (Int32.ofNat vd)), .val (.int (Int32.ofNat ve)), .val (.int (Int32.ofNat vf)), .val (.ref cs), .unset, .unset, .unset, .unset] [(.ref cs)]))
  obtain ⟨cq182, kq182, q182a, q182b, q182c⟩ := isOf hZ rfl f180_cs
  obtain ⟨_, _, ⟨T182, L182, k182, n182⟩, -, X182, ⟨Lc182, hQ182, l182, y182, z182⟩, st182⟩ := X179.virtualBack hx (y := (⟨"com/example/frugal_scheduler/frugalscheduler/planners/PoolSchedule$Candidates", "inPoolOrder", "()[I"⟩ : MethodName)) (z := (⟨"com/example/frugal_scheduler/frugalscheduler/planners/PoolSchedule$Candidates", "inPoolOrder", "()[I"⟩ : MethodName)) hown (mvT hZ (hw _ (List.mem_of_getElem? (i := 30) rfl))) (mvT hZ (hw _ (List.mem_of_getElem? (i := 31) rfl))) (notFace_of_selects (args := #[]) (mvT hZ (hw _ (List.mem_of_getElem? (i := 33) rfl)))) (mvT hZ (hw _ (List.mem_of_getElem? (i := 33) rfl))) (mvT hZ (hw _ (List.mem_of_getElem? (i := 32) rfl))) (by decide) (backOf (W := 0) (rm5 l Z a0 hw [] cs b c m4 ((p1 &&& (1073741823 : Int32)) + 1) u4 y4 T179.heap n0 Z181 W179 (by omega)) hZ (hw _ (List.mem_of_getElem? (i := 34) rfl)) (hw _ (List.mem_of_getElem? (i := 4) rfl)) (by decide) (by decide)) q182a q182c (g := (mkF m 107 #[.val (.int p1), .val (.int p2), .val (.int p3), .val (.int (p1 &&& (1073741823 : Int32))), .val (.int ((((p1 &&& (1073741823 : Int32)) + (1 : Int32)) + (p2 &&& (536870911 : Int32))) &&& (1073741823 : Int32))), .val (.int (Int32.ofNat va)), .val (.int (Int32.ofNat vb)), .val (.int (Int32.ofNat vc)), .val (.int (Int32.ofNat vd)), .val (.int (Int32.ofNat ve)), .val (.int (Int32.ofNat vf)), .val (.ref cs), .unset, .unset, .unset, .unset] [(.ref cs)])) rfl (by rw [hml]; rfl) (Steps.refl _) (argsL := []) (rest := []) (lenOf own_pd7 rfl) rfl (by show 2 * 0 + _ ≤ _; exact Nat.le_of_eq rfl) (hb hby at_107) (fun _ _ => ⟨rfl, rfl, (by decide : 3 + 1 ≤ _), (by decide : 12 + 4 ≤ _)⟩)
  dsimp only [Pt.U, Pt.locs, Pt.cells, Pt.slots] at X182 l182 y182 z182 st182 hQ182
  subst l182 y182 z182
  obtain ⟨rfl, Nq182, K182, V182⟩ := hQ182
  have N182 := Fr.app N179 Nq182
  have f183_cs : Exa Z T182.heap cs "com/example/frugal_scheduler/frugalscheduler/planners/PoolSchedule$Candidates" := f180_cs.keep K182
  have Z184 : n0 ≤ T182.heap.size := Nat.le_trans Z181 K182.1
  refine own_by (fun _ kZ => st182.trans kZ) ?_
  show own_R p.tables e below _ (T182.setTop (mkF m 110 #[.val (.int p1), .val (.int p2), .val (.int p3), .val (.int (p1 &&& (1073741823 : Int32))), .val (.int ((((p1 &&& (1073741823 : Int32)) + (1 : Int32)) + (p2 &&& (536870911 : Int32))) &&& (1073741823 : Int32))), .val (.int (Int32.ofNat va)), .val (.int (Int32.ofNat vb)), .val (.int (Int32.ofNat vc)), .val (.int (Int32.ofNat vd)), .val (.int (Int32.ofNat ve)), .val (.int (Int32.ofNat vf)), .val (.ref cs), .unset, .unset, .unset, .unset] [(.ref T179.heap.size)]))
  have W182 : own_CD Z T182.heap n0 cs b c m4 ((p1 &&& (1073741823 : Int32)) + 1) u4 y4 := own_CD_keep W179 K182
  have ne_cs_F1 : cs ≠ T179.heap.size := Nat.ne_of_lt W179.1.lt
  have ne_b_F1 : b ≠ T179.heap.size := Nat.ne_of_lt W179.2.2.2.2.2.1.lt
  have ne_c_F1 : c ≠ T179.heap.size := Nat.ne_of_lt W179.2.2.2.2.2.2.2.1.lt
  refine own_by (fun _ kZ => XS.astore X182.here hx rfl (hb hby at_110) rfl rfl (l' := #[.val (.int p1), .val (.int p2), .val (.int p3), .val (.int (p1 &&& (1073741823 : Int32))), .val (.int ((((p1 &&& (1073741823 : Int32)) + (1 : Int32)) + (p2 &&& (536870911 : Int32))) &&& (1073741823 : Int32))), .val (.int (Int32.ofNat va)), .val (.int (Int32.ofNat vb)), .val (.int (Int32.ofNat vc)), .val (.int (Int32.ofNat vd)), .val (.int (Int32.ofNat ve)), .val (.int (Int32.ofNat vf)), .val (.ref cs), .val (.ref T179.heap.size), .unset, .unset, .unset]) rfl kZ) ?_
  show own_R p.tables e below _ (T182.setTop (mkF m 112 #[.val (.int p1), .val (.int p2), .val (.int p3), .val (.int (p1 &&& (1073741823 : Int32))), .val (.int ((((p1 &&& (1073741823 : Int32)) + (1 : Int32)) + (p2 &&& (536870911 : Int32))) &&& (1073741823 : Int32))), .val (.int (Int32.ofNat va)), .val (.int (Int32.ofNat vb)), .val (.int (Int32.ofNat vc)), .val (.int (Int32.ofNat vd)), .val (.int (Int32.ofNat ve)), .val (.int (Int32.ofNat vf)), .val (.ref cs), .val (.ref T179.heap.size), .unset, .unset, .unset] []))
  refine own_by (fun _ kZ => XS.aload X182.here hx rfl (hb hby at_112) rfl rfl kZ) ?_
  show own_R p.tables e below _ (T182.setTop (mkF m 114 #[.val (.int p1), .val (.int p2), .val (.int p3), .val (.int (p1 &&& (1073741823 : Int32))), .val (.int ((((p1 &&& (1073741823 : Int32)) + (1 : Int32)) + (p2 &&& (536870911 : Int32))) &&& (1073741823 : Int32))), .val (.int (Int32.ofNat va)), .val (.int (Int32.ofNat vb)), .val (.int (Int32.ofNat vc)), .val (.int (Int32.ofNat vd)), .val (.int (Int32.ofNat ve)), .val (.int (Int32.ofNat vf)), .val (.ref cs), .val (.ref T179.heap.size), .unset, .unset, .unset] [(.ref cs)]))
  refine own_by (fun _ kZ => XS.iload X182.here hx rfl (hb hby at_114) rfl kZ) ?_
  show own_R p.tables e below _ (T182.setTop (mkF m 116 #[.val (.int p1), .val (.int p2), .val (.int p3), .val (.int (p1 &&& (1073741823 : Int32))), .val (.int ((((p1 &&& (1073741823 : Int32)) + (1 : Int32)) + (p2 &&& (536870911 : Int32))) &&& (1073741823 : Int32))), .val (.int (Int32.ofNat va)), .val (.int (Int32.ofNat vb)), .val (.int (Int32.ofNat vc)), .val (.int (Int32.ofNat vd)), .val (.int (Int32.ofNat ve)), .val (.int (Int32.ofNat vf)), .val (.ref cs), .val (.ref T179.heap.size), .unset, .unset, .unset] [(.int ((((p1 &&& (1073741823 : Int32)) + (1 : Int32)) + (p2 &&& (536870911 : Int32))) &&& (1073741823 : Int32))), (.ref cs)]))
  obtain ⟨cq185, kq185, q185a, q185b, q185c⟩ := isOf hZ rfl f183_cs
  obtain ⟨_, _, ⟨T185, L185, k185, n185⟩, -, X185, ⟨Lc185, hQ185, l185, y185, z185⟩, st185⟩ := X182.virtualBack hx (y := (⟨"com/example/frugal_scheduler/frugalscheduler/planners/PoolSchedule$Candidates", "clear", "(I)V"⟩ : MethodName)) (z := (⟨"com/example/frugal_scheduler/frugalscheduler/planners/PoolSchedule$Candidates", "clear", "(I)V"⟩ : MethodName)) hown (mvT hZ (hw _ (List.mem_of_getElem? (i := 16) rfl))) (mvT hZ (hw _ (List.mem_of_getElem? (i := 17) rfl))) (notFace_of_selects (args := #[]) (mvT hZ (hw _ (List.mem_of_getElem? (i := 19) rfl)))) (mvT hZ (hw _ (List.mem_of_getElem? (i := 19) rfl))) (mvT hZ (hw _ (List.mem_of_getElem? (i := 18) rfl))) (by decide) (backOf (W := 0) (rm3 l Z a0 hw [] cs ((((p1 &&& (1073741823 : Int32)) + (1 : Int32)) + (p2 &&& (536870911 : Int32))) &&& (1073741823 : Int32)) b c m4 ((p1 &&& (1073741823 : Int32)) + 1) u4 y4 T182.heap n0 Z184 W182) hZ (hw _ (List.mem_of_getElem? (i := 20) rfl)) (hw _ (List.mem_of_getElem? (i := 4) rfl)) (by decide) (by decide)) q185a q185c (g := (mkF m 116 #[.val (.int p1), .val (.int p2), .val (.int p3), .val (.int (p1 &&& (1073741823 : Int32))), .val (.int ((((p1 &&& (1073741823 : Int32)) + (1 : Int32)) + (p2 &&& (536870911 : Int32))) &&& (1073741823 : Int32))), .val (.int (Int32.ofNat va)), .val (.int (Int32.ofNat vb)), .val (.int (Int32.ofNat vc)), .val (.int (Int32.ofNat vd)), .val (.int (Int32.ofNat ve)), .val (.int (Int32.ofNat vf)), .val (.ref cs), .val (.ref T179.heap.size), .unset, .unset, .unset] [(.int ((((p1 &&& (1073741823 : Int32)) + (1 : Int32)) + (p2 &&& (536870911 : Int32))) &&& (1073741823 : Int32))), (.ref cs)])) rfl (by rw [hml]; rfl) (Steps.refl _) (argsL := [(.int ((((p1 &&& (1073741823 : Int32)) + (1 : Int32)) + (p2 &&& (536870911 : Int32))) &&& (1073741823 : Int32)))]) (rest := []) (lenOf own_pd6 rfl) rfl (by show 2 * 0 + _ ≤ _; exact Nat.le_of_eq rfl) (hb hby at_116) (fun _ _ => ⟨rfl, rfl, (by decide : 4 + 0 ≤ _), (by decide : 16 + 0 ≤ _)⟩)
  dsimp only [Pt.U, Pt.locs, Pt.cells, Pt.slots] at X185 l185 y185 z185 st185 hQ185
  subst l185 y185 z185
  obtain ⟨rfl, Nq185, K185, W185⟩ := hQ185
  have N185 := Fr.app N182 Nq185
  have f186_cs : Exa Z T185.heap cs "com/example/frugal_scheduler/frugalscheduler/planners/PoolSchedule$Candidates" := f183_cs.keep K185
  have f187_T179_heap_size : own_K .int Z T185.heap T179.heap.size .int m4 (own_os (m4 - 1) 0 u4) := V182.keep K185 (ninS (Ne.symm ne_cs_F1) nin0)
  have Z188 : n0 ≤ T185.heap.size := Nat.le_trans Z184 K185.1
  refine own_by (fun _ kZ => st185.trans kZ) ?_
  show own_R p.tables e below _ (T185.setTop (mkF m 119 #[.val (.int p1), .val (.int p2), .val (.int p3), .val (.int (p1 &&& (1073741823 : Int32))), .val (.int ((((p1 &&& (1073741823 : Int32)) + (1 : Int32)) + (p2 &&& (536870911 : Int32))) &&& (1073741823 : Int32))), .val (.int (Int32.ofNat va)), .val (.int (Int32.ofNat vb)), .val (.int (Int32.ofNat vc)), .val (.int (Int32.ofNat vd)), .val (.int (Int32.ofNat ve)), .val (.int (Int32.ofNat vf)), .val (.ref cs), .val (.ref T179.heap.size), .unset, .unset, .unset] []))
  have J0 : own_Inv 0 u4 y4 (((((p1 &&& (1073741823 : Int32)) + (1 : Int32)) + (p2 &&& (536870911 : Int32))) &&& (1073741823 : Int32)) + 1) [] := own_start _ _ _ (fun x hx => (q4 x hx).elim (fun h => h ▸ hk2.symm) (fun h => h ▸ hk3))
  refine own_by (fun _ kZ => XS.aload X185.here hx rfl (hb hby at_119) rfl rfl kZ) ?_
  show own_R p.tables e below _ (T185.setTop (mkF m 121 #[.val (.int p1), .val (.int p2), .val (.int p3), .val (.int (p1 &&& (1073741823 : Int32))), .val (.int ((((p1 &&& (1073741823 : Int32)) + (1 : Int32)) + (p2 &&& (536870911 : Int32))) &&& (1073741823 : Int32))), .val (.int (Int32.ofNat va)), .val (.int (Int32.ofNat vb)), .val (.int (Int32.ofNat vc)), .val (.int (Int32.ofNat vd)), .val (.int (Int32.ofNat ve)), .val (.int (Int32.ofNat vf)), .val (.ref cs), .val (.ref T179.heap.size), .unset, .unset, .unset] [(.ref cs)]))
  refine own_by (fun _ kZ => XS.iload X185.here hx rfl (hb hby at_121) rfl kZ) ?_
  show own_R p.tables e below _ (T185.setTop (mkF m 123 #[.val (.int p1), .val (.int p2), .val (.int p3), .val (.int (p1 &&& (1073741823 : Int32))), .val (.int ((((p1 &&& (1073741823 : Int32)) + (1 : Int32)) + (p2 &&& (536870911 : Int32))) &&& (1073741823 : Int32))), .val (.int (Int32.ofNat va)), .val (.int (Int32.ofNat vb)), .val (.int (Int32.ofNat vc)), .val (.int (Int32.ofNat vd)), .val (.int (Int32.ofNat ve)), .val (.int (Int32.ofNat vf)), .val (.ref cs), .val (.ref T179.heap.size), .unset, .unset, .unset] [(.int (Int32.ofNat ve)), (.ref cs)]))
  obtain ⟨cq189, kq189, q189a, q189b, q189c⟩ := isOf hZ rfl f186_cs
  obtain ⟨_, _, ⟨T189, L189, k189, n189⟩, -, X189, ⟨Lc189, hQ189, l189, y189, z189⟩, st189⟩ := X185.virtualBack hx (y := (⟨"com/example/frugal_scheduler/frugalscheduler/planners/PoolSchedule$Candidates", "add", "(I)V"⟩ : MethodName)) (z := (⟨"com/example/frugal_scheduler/frugalscheduler/planners/PoolSchedule$Candidates", "add", "(I)V"⟩ : MethodName)) hown (mvT hZ (hw _ (List.mem_of_getElem? (i := 25) rfl))) (mvT hZ (hw _ (List.mem_of_getElem? (i := 26) rfl))) (notFace_of_selects (args := #[]) (mvT hZ (hw _ (List.mem_of_getElem? (i := 28) rfl)))) (mvT hZ (hw _ (List.mem_of_getElem? (i := 28) rfl))) (mvT hZ (hw _ (List.mem_of_getElem? (i := 27) rfl))) (by decide) (backOf (W := 0) (rm4 l Z a0 hw [] cs (Int32.ofNat ve) b c 0 (((((p1 &&& (1073741823 : Int32)) + (1 : Int32)) + (p2 &&& (536870911 : Int32))) &&& (1073741823 : Int32)) + 1) u4 y4 ve T185.heap n0 Z188 W185 rfl lve (by omega)) hZ (hw _ (List.mem_of_getElem? (i := 29) rfl)) (hw _ (List.mem_of_getElem? (i := 4) rfl)) (by decide) (by decide)) q189a q189c (g := (mkF m 123 #[.val (.int p1), .val (.int p2), .val (.int p3), .val (.int (p1 &&& (1073741823 : Int32))), .val (.int ((((p1 &&& (1073741823 : Int32)) + (1 : Int32)) + (p2 &&& (536870911 : Int32))) &&& (1073741823 : Int32))), .val (.int (Int32.ofNat va)), .val (.int (Int32.ofNat vb)), .val (.int (Int32.ofNat vc)), .val (.int (Int32.ofNat vd)), .val (.int (Int32.ofNat ve)), .val (.int (Int32.ofNat vf)), .val (.ref cs), .val (.ref T179.heap.size), .unset, .unset, .unset] [(.int (Int32.ofNat ve)), (.ref cs)])) rfl (by rw [hml]; rfl) (Steps.refl _) (argsL := [(.int (Int32.ofNat ve))]) (rest := []) (lenOf own_pd6 rfl) rfl (by show 2 * 0 + _ ≤ _; exact Nat.le_of_eq rfl) (hb hby at_123) (fun _ _ => ⟨rfl, rfl, (by decide : 4 + 0 ≤ _), (by decide : 16 + 0 ≤ _)⟩)
  dsimp only [Pt.U, Pt.locs, Pt.cells, Pt.slots] at X189 l189 y189 z189 st189 hQ189
  subst l189 y189 z189
  obtain ⟨rfl, Nq189, K189, W189⟩ := hQ189
  have N189 := Fr.app N185 Nq189
  have f190_cs : Exa Z T189.heap cs "com/example/frugal_scheduler/frugalscheduler/planners/PoolSchedule$Candidates" := f186_cs.keep K189
  have f191_T179_heap_size : own_K .int Z T189.heap T179.heap.size .int m4 (own_os (m4 - 1) 0 u4) := f187_T179_heap_size.keep K189 (ninS (Ne.symm ne_cs_F1) (ninS (Ne.symm ne_b_F1) (ninS (Ne.symm ne_c_F1) nin0)))
  have Z192 : n0 ≤ T189.heap.size := Nat.le_trans Z188 K189.1
  refine own_by (fun _ kZ => st189.trans kZ) ?_
  show own_R p.tables e below _ (T189.setTop (mkF m 126 #[.val (.int p1), .val (.int p2), .val (.int p3), .val (.int (p1 &&& (1073741823 : Int32))), .val (.int ((((p1 &&& (1073741823 : Int32)) + (1 : Int32)) + (p2 &&& (536870911 : Int32))) &&& (1073741823 : Int32))), .val (.int (Int32.ofNat va)), .val (.int (Int32.ofNat vb)), .val (.int (Int32.ofNat vc)), .val (.int (Int32.ofNat vd)), .val (.int (Int32.ofNat ve)), .val (.int (Int32.ofNat vf)), .val (.ref cs), .val (.ref T179.heap.size), .unset, .unset, .unset] []))
  have I5 := own_step J0 ve lve
  have l5 := own_an_le 0 (((((p1 &&& (1073741823 : Int32)) + (1 : Int32)) + (p2 &&& (536870911 : Int32))) &&& (1073741823 : Int32)) + 1) y4 ve
  generalize own_an 0 (((((p1 &&& (1073741823 : Int32)) + (1 : Int32)) + (p2 &&& (536870911 : Int32))) &&& (1073741823 : Int32)) + 1) y4 ve = m5 at W189 I5 l5
  generalize own_av u4 0 (((((p1 &&& (1073741823 : Int32)) + (1 : Int32)) + (p2 &&& (536870911 : Int32))) &&& (1073741823 : Int32)) + 1) y4 ve = u5 at W189 I5
  generalize own_ag y4 (((((p1 &&& (1073741823 : Int32)) + (1 : Int32)) + (p2 &&& (536870911 : Int32))) &&& (1073741823 : Int32)) + 1) ve = y5 at W189 I5
  refine own_by (fun _ kZ => XS.aload X189.here hx rfl (hb hby at_126) rfl rfl kZ) ?_
  show own_R p.tables e below _ (T189.setTop (mkF m 128 #[.val (.int p1), .val (.int p2), .val (.int p3), .val (.int (p1 &&& (1073741823 : Int32))), .val (.int ((((p1 &&& (1073741823 : Int32)) + (1 : Int32)) + (p2 &&& (536870911 : Int32))) &&& (1073741823 : Int32))), .val (.int (Int32.ofNat va)), .val (.int (Int32.ofNat vb)), .val (.int (Int32.ofNat vc)), .val (.int (Int32.ofNat vd)), .val (.int (Int32.ofNat ve)), .val (.int (Int32.ofNat vf)), .val (.ref cs), .val (.ref T179.heap.size), .unset, .unset, .unset] [(.ref cs)]))
  refine own_by (fun _ kZ => XS.iload X189.here hx rfl (hb hby at_128) rfl kZ) ?_
  show own_R p.tables e below _ (T189.setTop (mkF m 130 #[.val (.int p1), .val (.int p2), .val (.int p3), .val (.int (p1 &&& (1073741823 : Int32))), .val (.int ((((p1 &&& (1073741823 : Int32)) + (1 : Int32)) + (p2 &&& (536870911 : Int32))) &&& (1073741823 : Int32))), .val (.int (Int32.ofNat va)), .val (.int (Int32.ofNat vb)), .val (.int (Int32.ofNat vc)), .val (.int (Int32.ofNat vd)), .val (.int (Int32.ofNat ve)), .val (.int (Int32.ofNat vf)), .val (.ref cs), .val (.ref T179.heap.size), .unset, .unset, .unset] [(.int (Int32.ofNat vf)), (.ref cs)]))
  obtain ⟨cq193, kq193, q193a, q193b, q193c⟩ := isOf hZ rfl f190_cs
  obtain ⟨_, _, ⟨T193, L193, k193, n193⟩, -, X193, ⟨Lc193, hQ193, l193, y193, z193⟩, st193⟩ := X189.virtualBack hx (y := (⟨"com/example/frugal_scheduler/frugalscheduler/planners/PoolSchedule$Candidates", "add", "(I)V"⟩ : MethodName)) (z := (⟨"com/example/frugal_scheduler/frugalscheduler/planners/PoolSchedule$Candidates", "add", "(I)V"⟩ : MethodName)) hown (mvT hZ (hw _ (List.mem_of_getElem? (i := 25) rfl))) (mvT hZ (hw _ (List.mem_of_getElem? (i := 26) rfl))) (notFace_of_selects (args := #[]) (mvT hZ (hw _ (List.mem_of_getElem? (i := 28) rfl)))) (mvT hZ (hw _ (List.mem_of_getElem? (i := 28) rfl))) (mvT hZ (hw _ (List.mem_of_getElem? (i := 27) rfl))) (by decide) (backOf (W := 0) (rm4 l Z a0 hw [] cs (Int32.ofNat vf) b c m5 (((((p1 &&& (1073741823 : Int32)) + (1 : Int32)) + (p2 &&& (536870911 : Int32))) &&& (1073741823 : Int32)) + 1) u5 y5 vf T189.heap n0 Z192 W189 rfl lvf (by omega)) hZ (hw _ (List.mem_of_getElem? (i := 29) rfl)) (hw _ (List.mem_of_getElem? (i := 4) rfl)) (by decide) (by decide)) q193a q193c (g := (mkF m 130 #[.val (.int p1), .val (.int p2), .val (.int p3), .val (.int (p1 &&& (1073741823 : Int32))), .val (.int ((((p1 &&& (1073741823 : Int32)) + (1 : Int32)) + (p2 &&& (536870911 : Int32))) &&& (1073741823 : Int32))), .val (.int (Int32.ofNat va)), .val (.int (Int32.ofNat vb)), .val (.int (Int32.ofNat vc)), .val (.int (Int32.ofNat vd)), .val (.int (Int32.ofNat ve)), .val (.int (Int32.ofNat vf)), .val (.ref cs), .val (.ref T179.heap.size), .unset, .unset, .unset] [(.int (Int32.ofNat vf)), (.ref cs)])) rfl (by rw [hml]; rfl) (Steps.refl _) (argsL := [(.int (Int32.ofNat vf))]) (rest := []) (lenOf own_pd6 rfl) rfl (by show 2 * 0 + _ ≤ _; exact Nat.le_of_eq rfl) (hb hby at_130) (fun _ _ => ⟨rfl, rfl, (by decide : 4 + 0 ≤ _), (by decide : 16 + 0 ≤ _)⟩)
  dsimp only [Pt.U, Pt.locs, Pt.cells, Pt.slots] at X193 l193 y193 z193 st193 hQ193
  subst l193 y193 z193
  obtain ⟨rfl, Nq193, K193, W193⟩ := hQ193
  have N193 := Fr.app N189 Nq193
  have f194_cs : Exa Z T193.heap cs "com/example/frugal_scheduler/frugalscheduler/planners/PoolSchedule$Candidates" := f190_cs.keep K193
  have f195_T179_heap_size : own_K .int Z T193.heap T179.heap.size .int m4 (own_os (m4 - 1) 0 u4) := f191_T179_heap_size.keep K193 (ninS (Ne.symm ne_cs_F1) (ninS (Ne.symm ne_b_F1) (ninS (Ne.symm ne_c_F1) nin0)))
  have Z196 : n0 ≤ T193.heap.size := Nat.le_trans Z192 K193.1
  refine own_by (fun _ kZ => st193.trans kZ) ?_
  show own_R p.tables e below _ (T193.setTop (mkF m 133 #[.val (.int p1), .val (.int p2), .val (.int p3), .val (.int (p1 &&& (1073741823 : Int32))), .val (.int ((((p1 &&& (1073741823 : Int32)) + (1 : Int32)) + (p2 &&& (536870911 : Int32))) &&& (1073741823 : Int32))), .val (.int (Int32.ofNat va)), .val (.int (Int32.ofNat vb)), .val (.int (Int32.ofNat vc)), .val (.int (Int32.ofNat vd)), .val (.int (Int32.ofNat ve)), .val (.int (Int32.ofNat vf)), .val (.ref cs), .val (.ref T179.heap.size), .unset, .unset, .unset] []))
  have I6 := own_step I5 vf lvf
  have l6 := own_an_le m5 (((((p1 &&& (1073741823 : Int32)) + (1 : Int32)) + (p2 &&& (536870911 : Int32))) &&& (1073741823 : Int32)) + 1) y5 vf
  generalize own_an m5 (((((p1 &&& (1073741823 : Int32)) + (1 : Int32)) + (p2 &&& (536870911 : Int32))) &&& (1073741823 : Int32)) + 1) y5 vf = m6 at W193 I6 l6
  generalize own_av u5 m5 (((((p1 &&& (1073741823 : Int32)) + (1 : Int32)) + (p2 &&& (536870911 : Int32))) &&& (1073741823 : Int32)) + 1) y5 vf = u6 at W193 I6
  generalize own_ag y5 (((((p1 &&& (1073741823 : Int32)) + (1 : Int32)) + (p2 &&& (536870911 : Int32))) &&& (1073741823 : Int32)) + 1) vf = y6 at W193 I6
  refine own_by (fun _ kZ => XS.aload X193.here hx rfl (hb hby at_133) rfl rfl kZ) ?_
  show own_R p.tables e below _ (T193.setTop (mkF m 135 #[.val (.int p1), .val (.int p2), .val (.int p3), .val (.int (p1 &&& (1073741823 : Int32))), .val (.int ((((p1 &&& (1073741823 : Int32)) + (1 : Int32)) + (p2 &&& (536870911 : Int32))) &&& (1073741823 : Int32))), .val (.int (Int32.ofNat va)), .val (.int (Int32.ofNat vb)), .val (.int (Int32.ofNat vc)), .val (.int (Int32.ofNat vd)), .val (.int (Int32.ofNat ve)), .val (.int (Int32.ofNat vf)), .val (.ref cs), .val (.ref T179.heap.size), .unset, .unset, .unset] [(.ref cs)]))
  obtain ⟨cq197, kq197, q197a, q197b, q197c⟩ := isOf hZ rfl f194_cs
  obtain ⟨_, _, ⟨T197, L197, k197, n197⟩, -, X197, ⟨Lc197, hQ197, l197, y197, z197⟩, st197⟩ := X193.virtualBack hx (y := (⟨"com/example/frugal_scheduler/frugalscheduler/planners/PoolSchedule$Candidates", "inPoolOrder", "()[I"⟩ : MethodName)) (z := (⟨"com/example/frugal_scheduler/frugalscheduler/planners/PoolSchedule$Candidates", "inPoolOrder", "()[I"⟩ : MethodName)) hown (mvT hZ (hw _ (List.mem_of_getElem? (i := 30) rfl))) (mvT hZ (hw _ (List.mem_of_getElem? (i := 31) rfl))) (notFace_of_selects (args := #[]) (mvT hZ (hw _ (List.mem_of_getElem? (i := 33) rfl)))) (mvT hZ (hw _ (List.mem_of_getElem? (i := 33) rfl))) (mvT hZ (hw _ (List.mem_of_getElem? (i := 32) rfl))) (by decide) (backOf (W := 0) (rm5 l Z a0 hw [] cs b c m6 (((((p1 &&& (1073741823 : Int32)) + (1 : Int32)) + (p2 &&& (536870911 : Int32))) &&& (1073741823 : Int32)) + 1) u6 y6 T193.heap n0 Z196 W193 (by omega)) hZ (hw _ (List.mem_of_getElem? (i := 34) rfl)) (hw _ (List.mem_of_getElem? (i := 4) rfl)) (by decide) (by decide)) q197a q197c (g := (mkF m 135 #[.val (.int p1), .val (.int p2), .val (.int p3), .val (.int (p1 &&& (1073741823 : Int32))), .val (.int ((((p1 &&& (1073741823 : Int32)) + (1 : Int32)) + (p2 &&& (536870911 : Int32))) &&& (1073741823 : Int32))), .val (.int (Int32.ofNat va)), .val (.int (Int32.ofNat vb)), .val (.int (Int32.ofNat vc)), .val (.int (Int32.ofNat vd)), .val (.int (Int32.ofNat ve)), .val (.int (Int32.ofNat vf)), .val (.ref cs), .val (.ref T179.heap.size), .unset, .unset, .unset] [(.ref cs)])) rfl (by rw [hml]; rfl) (Steps.refl _) (argsL := []) (rest := []) (lenOf own_pd7 rfl) rfl (by show 2 * 0 + _ ≤ _; exact Nat.le_of_eq rfl) (hb hby at_135) (fun _ _ => ⟨rfl, rfl, (by decide : 4 + 1 ≤ _), (by decide : 16 + 4 ≤ _)⟩)
  dsimp only [Pt.U, Pt.locs, Pt.cells, Pt.slots] at X197 l197 y197 z197 st197 hQ197
  subst l197 y197 z197
  obtain ⟨rfl, Nq197, K197, V197⟩ := hQ197
  have N197 := Fr.app N193 Nq197
  have f198_cs : Exa Z T197.heap cs "com/example/frugal_scheduler/frugalscheduler/planners/PoolSchedule$Candidates" := f194_cs.keep K197
  have f199_T179_heap_size : own_K .int Z T197.heap T179.heap.size .int m4 (own_os (m4 - 1) 0 u4) := f195_T179_heap_size.keep K197 nin0
  have Z200 : n0 ≤ T197.heap.size := Nat.le_trans Z196 K197.1
  refine own_by (fun _ kZ => st197.trans kZ) ?_
  show own_R p.tables e below _ (T197.setTop (mkF m 138 #[.val (.int p1), .val (.int p2), .val (.int p3), .val (.int (p1 &&& (1073741823 : Int32))), .val (.int ((((p1 &&& (1073741823 : Int32)) + (1 : Int32)) + (p2 &&& (536870911 : Int32))) &&& (1073741823 : Int32))), .val (.int (Int32.ofNat va)), .val (.int (Int32.ofNat vb)), .val (.int (Int32.ofNat vc)), .val (.int (Int32.ofNat vd)), .val (.int (Int32.ofNat ve)), .val (.int (Int32.ofNat vf)), .val (.ref cs), .val (.ref T179.heap.size), .unset, .unset, .unset] [(.ref T193.heap.size)]))
  have W197 : own_CD Z T197.heap n0 cs b c m6 (((((p1 &&& (1073741823 : Int32)) + (1 : Int32)) + (p2 &&& (536870911 : Int32))) &&& (1073741823 : Int32)) + 1) u6 y6 := own_CD_keep W193 K197
  have ne_cs_F2 : cs ≠ T193.heap.size := Nat.ne_of_lt W193.1.lt
  have ne_b_F2 : b ≠ T193.heap.size := Nat.ne_of_lt W193.2.2.2.2.2.1.lt
  have ne_c_F2 : c ≠ T193.heap.size := Nat.ne_of_lt W193.2.2.2.2.2.2.2.1.lt
  refine own_by (fun _ kZ => XS.astore X197.here hx rfl (hb hby at_138) rfl rfl (l' := #[.val (.int p1), .val (.int p2), .val (.int p3), .val (.int (p1 &&& (1073741823 : Int32))), .val (.int ((((p1 &&& (1073741823 : Int32)) + (1 : Int32)) + (p2 &&& (536870911 : Int32))) &&& (1073741823 : Int32))), .val (.int (Int32.ofNat va)), .val (.int (Int32.ofNat vb)), .val (.int (Int32.ofNat vc)), .val (.int (Int32.ofNat vd)), .val (.int (Int32.ofNat ve)), .val (.int (Int32.ofNat vf)), .val (.ref cs), .val (.ref T179.heap.size), .val (.ref T193.heap.size), .unset, .unset]) rfl kZ) ?_
  show own_R p.tables e below _ (T197.setTop (mkF m 140 #[.val (.int p1), .val (.int p2), .val (.int p3), .val (.int (p1 &&& (1073741823 : Int32))), .val (.int ((((p1 &&& (1073741823 : Int32)) + (1 : Int32)) + (p2 &&& (536870911 : Int32))) &&& (1073741823 : Int32))), .val (.int (Int32.ofNat va)), .val (.int (Int32.ofNat vb)), .val (.int (Int32.ofNat vc)), .val (.int (Int32.ofNat vd)), .val (.int (Int32.ofNat ve)), .val (.int (Int32.ofNat vf)), .val (.ref cs), .val (.ref T179.heap.size), .val (.ref T193.heap.size), .unset, .unset] []))
  refine own_by (fun _ kZ => XS.aload X197.here hx rfl (hb hby at_140) rfl rfl kZ) ?_
  show own_R p.tables e below _ (T197.setTop (mkF m 142 #[.val (.int p1), .val (.int p2), .val (.int p3), .val (.int (p1 &&& (1073741823 : Int32))), .val (.int ((((p1 &&& (1073741823 : Int32)) + (1 : Int32)) + (p2 &&& (536870911 : Int32))) &&& (1073741823 : Int32))), .val (.int (Int32.ofNat va)), .val (.int (Int32.ofNat vb)), .val (.int (Int32.ofNat vc)), .val (.int (Int32.ofNat vd)), .val (.int (Int32.ofNat ve)), .val (.int (Int32.ofNat vf)), .val (.ref cs), .val (.ref T179.heap.size), .val (.ref T193.heap.size), .unset, .unset] [(.ref T179.heap.size)]))
  refine own_by (fun _ kZ => XS.iload X197.here hx rfl (hb hby at_142) rfl kZ) ?_
  show own_R p.tables e below _ (T197.setTop (mkF m 144 #[.val (.int p1), .val (.int p2), .val (.int p3), .val (.int (p1 &&& (1073741823 : Int32))), .val (.int ((((p1 &&& (1073741823 : Int32)) + (1 : Int32)) + (p2 &&& (536870911 : Int32))) &&& (1073741823 : Int32))), .val (.int (Int32.ofNat va)), .val (.int (Int32.ofNat vb)), .val (.int (Int32.ofNat vc)), .val (.int (Int32.ofNat vd)), .val (.int (Int32.ofNat ve)), .val (.int (Int32.ofNat vf)), .val (.ref cs), .val (.ref T179.heap.size), .val (.ref T193.heap.size), .unset, .unset] [(.int (Int32.ofNat va)), (.ref T179.heap.size)]))
  obtain ⟨x0, h_x0⟩ : ∃ z : Int32, z = (if (Int32.ofNat va) = (0 : Int32) then (1 : Int32) else (if (Int32.ofNat vb) = (0 : Int32) then (1 : Int32) else (if (Int32.ofNat vc) = (0 : Int32) then (1 : Int32) else (if (Int32.ofNat vd) = (0 : Int32) then (1 : Int32) else (0 : Int32))))) := ⟨_, rfl⟩
  refine own_by (S' := T197.setTop (mkF m 167 #[.val (.int p1), .val (.int p2), .val (.int p3), .val (.int (p1 &&& (1073741823 : Int32))), .val (.int ((((p1 &&& (1073741823 : Int32)) + (1 : Int32)) + (p2 &&& (536870911 : Int32))) &&& (1073741823 : Int32))), .val (.int (Int32.ofNat va)), .val (.int (Int32.ofNat vb)), .val (.int (Int32.ofNat vc)), .val (.int (Int32.ofNat vd)), .val (.int (Int32.ofNat ve)), .val (.int (Int32.ofNat vf)), .val (.ref cs), .val (.ref T179.heap.size), .val (.ref T193.heap.size), .unset, .unset] [(.int x0), (.ref T179.heap.size)])) (fun _ kZ => ?_) ?_
  · skip
    show Steps p.tables e below (T197.setTop (mkF m 144 #[.val (.int p1), .val (.int p2), .val (.int p3), .val (.int (p1 &&& (1073741823 : Int32))), .val (.int ((((p1 &&& (1073741823 : Int32)) + (1 : Int32)) + (p2 &&& (536870911 : Int32))) &&& (1073741823 : Int32))), .val (.int (Int32.ofNat va)), .val (.int (Int32.ofNat vb)), .val (.int (Int32.ofNat vc)), .val (.int (Int32.ofNat vd)), .val (.int (Int32.ofNat ve)), .val (.int (Int32.ofNat vf)), .val (.ref cs), .val (.ref T179.heap.size), .val (.ref T193.heap.size), .unset, .unset] [(.int (Int32.ofNat va)), (.ref T179.heap.size)])) _
    by_cases hd144 : (Int32.ofNat va) = (0 : Int32)
    · skip
      refine XS.ifYes X197.here hx rfl (pc0 := 144) (pc' := 162) rfl (hb hby at_144) rfl ((if0 _ _).trans (teq hd144).1) (by decide) (by decide) ?_
      show Steps p.tables e below (T197.setTop (mkF m 162 #[.val (.int p1), .val (.int p2), .val (.int p3), .val (.int (p1 &&& (1073741823 : Int32))), .val (.int ((((p1 &&& (1073741823 : Int32)) + (1 : Int32)) + (p2 &&& (536870911 : Int32))) &&& (1073741823 : Int32))), .val (.int (Int32.ofNat va)), .val (.int (Int32.ofNat vb)), .val (.int (Int32.ofNat vc)), .val (.int (Int32.ofNat vd)), .val (.int (Int32.ofNat ve)), .val (.int (Int32.ofNat vf)), .val (.ref cs), .val (.ref T179.heap.size), .val (.ref T193.heap.size), .unset, .unset] [(.ref T179.heap.size)])) _
      refine XS.iconst X197.here hx rfl (hb hby at_162) ?_
      show Steps p.tables e below (T197.setTop (mkF m 163 #[.val (.int p1), .val (.int p2), .val (.int p3), .val (.int (p1 &&& (1073741823 : Int32))), .val (.int ((((p1 &&& (1073741823 : Int32)) + (1 : Int32)) + (p2 &&& (536870911 : Int32))) &&& (1073741823 : Int32))), .val (.int (Int32.ofNat va)), .val (.int (Int32.ofNat vb)), .val (.int (Int32.ofNat vc)), .val (.int (Int32.ofNat vd)), .val (.int (Int32.ofNat ve)), .val (.int (Int32.ofNat vf)), .val (.ref cs), .val (.ref T179.heap.size), .val (.ref T193.heap.size), .unset, .unset] [(.int (1 : Int32)), (.ref T179.heap.size)])) _
      refine XS.goto X197.here hx rfl (pc0 := 163) (pc' := 167) rfl (hb hby at_163) (by decide) (by decide) ?_
      show Steps p.tables e below (T197.setTop (mkF m 167 #[.val (.int p1), .val (.int p2), .val (.int p3), .val (.int (p1 &&& (1073741823 : Int32))), .val (.int ((((p1 &&& (1073741823 : Int32)) + (1 : Int32)) + (p2 &&& (536870911 : Int32))) &&& (1073741823 : Int32))), .val (.int (Int32.ofNat va)), .val (.int (Int32.ofNat vb)), .val (.int (Int32.ofNat vc)), .val (.int (Int32.ofNat vd)), .val (.int (Int32.ofNat ve)), .val (.int (Int32.ofNat vf)), .val (.ref cs), .val (.ref T179.heap.size), .val (.ref T193.heap.size), .unset, .unset] [(.int (1 : Int32)), (.ref T179.heap.size)])) _
      rw [if_pos hd144] at h_x0
      subst h_x0
      exact kZ
    · skip
      refine XS.ifNo X197.here hx rfl (hb hby at_144) rfl ((if0 _ _).trans (feq hd144).1) ?_
      show Steps p.tables e below (T197.setTop (mkF m 147 #[.val (.int p1), .val (.int p2), .val (.int p3), .val (.int (p1 &&& (1073741823 : Int32))), .val (.int ((((p1 &&& (1073741823 : Int32)) + (1 : Int32)) + (p2 &&& (536870911 : Int32))) &&& (1073741823 : Int32))), .val (.int (Int32.ofNat va)), .val (.int (Int32.ofNat vb)), .val (.int (Int32.ofNat vc)), .val (.int (Int32.ofNat vd)), .val (.int (Int32.ofNat ve)), .val (.int (Int32.ofNat vf)), .val (.ref cs), .val (.ref T179.heap.size), .val (.ref T193.heap.size), .unset, .unset] [(.ref T179.heap.size)])) _
      refine XS.iload X197.here hx rfl (hb hby at_147) rfl ?_
      show Steps p.tables e below (T197.setTop (mkF m 149 #[.val (.int p1), .val (.int p2), .val (.int p3), .val (.int (p1 &&& (1073741823 : Int32))), .val (.int ((((p1 &&& (1073741823 : Int32)) + (1 : Int32)) + (p2 &&& (536870911 : Int32))) &&& (1073741823 : Int32))), .val (.int (Int32.ofNat va)), .val (.int (Int32.ofNat vb)), .val (.int (Int32.ofNat vc)), .val (.int (Int32.ofNat vd)), .val (.int (Int32.ofNat ve)), .val (.int (Int32.ofNat vf)), .val (.ref cs), .val (.ref T179.heap.size), .val (.ref T193.heap.size), .unset, .unset] [(.int (Int32.ofNat vb)), (.ref T179.heap.size)])) _
      by_cases hd149 : (Int32.ofNat vb) = (0 : Int32)
      · skip
        refine XS.ifYes X197.here hx rfl (pc0 := 149) (pc' := 162) rfl (hb hby at_149) rfl ((if0 _ _).trans (teq hd149).1) (by decide) (by decide) ?_
        show Steps p.tables e below (T197.setTop (mkF m 162 #[.val (.int p1), .val (.int p2), .val (.int p3), .val (.int (p1 &&& (1073741823 : Int32))), .val (.int ((((p1 &&& (1073741823 : Int32)) + (1 : Int32)) + (p2 &&& (536870911 : Int32))) &&& (1073741823 : Int32))), .val (.int (Int32.ofNat va)), .val (.int (Int32.ofNat vb)), .val (.int (Int32.ofNat vc)), .val (.int (Int32.ofNat vd)), .val (.int (Int32.ofNat ve)), .val (.int (Int32.ofNat vf)), .val (.ref cs), .val (.ref T179.heap.size), .val (.ref T193.heap.size), .unset, .unset] [(.ref T179.heap.size)])) _
        refine XS.iconst X197.here hx rfl (hb hby at_162) ?_
        show Steps p.tables e below (T197.setTop (mkF m 163 #[.val (.int p1), .val (.int p2), .val (.int p3), .val (.int (p1 &&& (1073741823 : Int32))), .val (.int ((((p1 &&& (1073741823 : Int32)) + (1 : Int32)) + (p2 &&& (536870911 : Int32))) &&& (1073741823 : Int32))), .val (.int (Int32.ofNat va)), .val (.int (Int32.ofNat vb)), .val (.int (Int32.ofNat vc)), .val (.int (Int32.ofNat vd)), .val (.int (Int32.ofNat ve)), .val (.int (Int32.ofNat vf)), .val (.ref cs), .val (.ref T179.heap.size), .val (.ref T193.heap.size), .unset, .unset] [(.int (1 : Int32)), (.ref T179.heap.size)])) _
        refine XS.goto X197.here hx rfl (pc0 := 163) (pc' := 167) rfl (hb hby at_163) (by decide) (by decide) ?_
        show Steps p.tables e below (T197.setTop (mkF m 167 #[.val (.int p1), .val (.int p2), .val (.int p3), .val (.int (p1 &&& (1073741823 : Int32))), .val (.int ((((p1 &&& (1073741823 : Int32)) + (1 : Int32)) + (p2 &&& (536870911 : Int32))) &&& (1073741823 : Int32))), .val (.int (Int32.ofNat va)), .val (.int (Int32.ofNat vb)), .val (.int (Int32.ofNat vc)), .val (.int (Int32.ofNat vd)), .val (.int (Int32.ofNat ve)), .val (.int (Int32.ofNat vf)), .val (.ref cs), .val (.ref T179.heap.size), .val (.ref T193.heap.size), .unset, .unset] [(.int (1 : Int32)), (.ref T179.heap.size)])) _
        rw [if_neg hd144, if_pos hd149] at h_x0
        subst h_x0
        exact kZ
      · skip
        refine XS.ifNo X197.here hx rfl (hb hby at_149) rfl ((if0 _ _).trans (feq hd149).1) ?_
        show Steps p.tables e below (T197.setTop (mkF m 152 #[.val (.int p1), .val (.int p2), .val (.int p3), .val (.int (p1 &&& (1073741823 : Int32))), .val (.int ((((p1 &&& (1073741823 : Int32)) + (1 : Int32)) + (p2 &&& (536870911 : Int32))) &&& (1073741823 : Int32))), .val (.int (Int32.ofNat va)), .val (.int (Int32.ofNat vb)), .val (.int (Int32.ofNat vc)), .val (.int (Int32.ofNat vd)), .val (.int (Int32.ofNat ve)), .val (.int (Int32.ofNat vf)), .val (.ref cs), .val (.ref T179.heap.size), .val (.ref T193.heap.size), .unset, .unset] [(.ref T179.heap.size)])) _
        refine XS.iload X197.here hx rfl (hb hby at_152) rfl ?_
        show Steps p.tables e below (T197.setTop (mkF m 154 #[.val (.int p1), .val (.int p2), .val (.int p3), .val (.int (p1 &&& (1073741823 : Int32))), .val (.int ((((p1 &&& (1073741823 : Int32)) + (1 : Int32)) + (p2 &&& (536870911 : Int32))) &&& (1073741823 : Int32))), .val (.int (Int32.ofNat va)), .val (.int (Int32.ofNat vb)), .val (.int (Int32.ofNat vc)), .val (.int (Int32.ofNat vd)), .val (.int (Int32.ofNat ve)), .val (.int (Int32.ofNat vf)), .val (.ref cs), .val (.ref T179.heap.size), .val (.ref T193.heap.size), .unset, .unset] [(.int (Int32.ofNat vc)), (.ref T179.heap.size)])) _
        by_cases hd154 : (Int32.ofNat vc) = (0 : Int32)
        · skip
          refine XS.ifYes X197.here hx rfl (pc0 := 154) (pc' := 162) rfl (hb hby at_154) rfl ((if0 _ _).trans (teq hd154).1) (by decide) (by decide) ?_
          show Steps p.tables e below (T197.setTop (mkF m 162 #[.val (.int p1), .val (.int p2), .val (.int p3), .val (.int (p1 &&& (1073741823 : Int32))), .val (.int ((((p1 &&& (1073741823 : Int32)) + (1 : Int32)) + (p2 &&& (536870911 : Int32))) &&& (1073741823 : Int32))), .val (.int (Int32.ofNat va)), .val (.int (Int32.ofNat vb)), .val (.int (Int32.ofNat vc)), .val (.int (Int32.ofNat vd)), .val (.int (Int32.ofNat ve)), .val (.int (Int32.ofNat vf)), .val (.ref cs), .val (.ref T179.heap.size), .val (.ref T193.heap.size), .unset, .unset] [(.ref T179.heap.size)])) _
          refine XS.iconst X197.here hx rfl (hb hby at_162) ?_
          show Steps p.tables e below (T197.setTop (mkF m 163 #[.val (.int p1), .val (.int p2), .val (.int p3), .val (.int (p1 &&& (1073741823 : Int32))), .val (.int ((((p1 &&& (1073741823 : Int32)) + (1 : Int32)) + (p2 &&& (536870911 : Int32))) &&& (1073741823 : Int32))), .val (.int (Int32.ofNat va)), .val (.int (Int32.ofNat vb)), .val (.int (Int32.ofNat vc)), .val (.int (Int32.ofNat vd)), .val (.int (Int32.ofNat ve)), .val (.int (Int32.ofNat vf)), .val (.ref cs), .val (.ref T179.heap.size), .val (.ref T193.heap.size), .unset, .unset] [(.int (1 : Int32)), (.ref T179.heap.size)])) _
          refine XS.goto X197.here hx rfl (pc0 := 163) (pc' := 167) rfl (hb hby at_163) (by decide) (by decide) ?_
          show Steps p.tables e below (T197.setTop (mkF m 167 #[.val (.int p1), .val (.int p2), .val (.int p3), .val (.int (p1 &&& (1073741823 : Int32))), .val (.int ((((p1 &&& (1073741823 : Int32)) + (1 : Int32)) + (p2 &&& (536870911 : Int32))) &&& (1073741823 : Int32))), .val (.int (Int32.ofNat va)), .val (.int (Int32.ofNat vb)), .val (.int (Int32.ofNat vc)), .val (.int (Int32.ofNat vd)), .val (.int (Int32.ofNat ve)), .val (.int (Int32.ofNat vf)), .val (.ref cs), .val (.ref T179.heap.size), .val (.ref T193.heap.size), .unset, .unset] [(.int (1 : Int32)), (.ref T179.heap.size)])) _
          rw [if_neg hd144, if_neg hd149, if_pos hd154] at h_x0
          subst h_x0
          exact kZ
        · skip
          refine XS.ifNo X197.here hx rfl (hb hby at_154) rfl ((if0 _ _).trans (feq hd154).1) ?_
          show Steps p.tables e below (T197.setTop (mkF m 157 #[.val (.int p1), .val (.int p2), .val (.int p3), .val (.int (p1 &&& (1073741823 : Int32))), .val (.int ((((p1 &&& (1073741823 : Int32)) + (1 : Int32)) + (p2 &&& (536870911 : Int32))) &&& (1073741823 : Int32))), .val (.int (Int32.ofNat va)), .val (.int (Int32.ofNat vb)), .val (.int (Int32.ofNat vc)), .val (.int (Int32.ofNat vd)), .val (.int (Int32.ofNat ve)), .val (.int (Int32.ofNat vf)), .val (.ref cs), .val (.ref T179.heap.size), .val (.ref T193.heap.size), .unset, .unset] [(.ref T179.heap.size)])) _
          refine XS.iload X197.here hx rfl (hb hby at_157) rfl ?_
          show Steps p.tables e below (T197.setTop (mkF m 159 #[.val (.int p1), .val (.int p2), .val (.int p3), .val (.int (p1 &&& (1073741823 : Int32))), .val (.int ((((p1 &&& (1073741823 : Int32)) + (1 : Int32)) + (p2 &&& (536870911 : Int32))) &&& (1073741823 : Int32))), .val (.int (Int32.ofNat va)), .val (.int (Int32.ofNat vb)), .val (.int (Int32.ofNat vc)), .val (.int (Int32.ofNat vd)), .val (.int (Int32.ofNat ve)), .val (.int (Int32.ofNat vf)), .val (.ref cs), .val (.ref T179.heap.size), .val (.ref T193.heap.size), .unset, .unset] [(.int (Int32.ofNat vd)), (.ref T179.heap.size)])) _
          by_cases hd159 : (Int32.ofNat vd) = (0 : Int32)
          · skip
            refine XS.ifNo X197.here hx rfl (hb hby at_159) rfl ((if0 _ _).trans (teq hd159).2) ?_
            show Steps p.tables e below (T197.setTop (mkF m 162 #[.val (.int p1), .val (.int p2), .val (.int p3), .val (.int (p1 &&& (1073741823 : Int32))), .val (.int ((((p1 &&& (1073741823 : Int32)) + (1 : Int32)) + (p2 &&& (536870911 : Int32))) &&& (1073741823 : Int32))), .val (.int (Int32.ofNat va)), .val (.int (Int32.ofNat vb)), .val (.int (Int32.ofNat vc)), .val (.int (Int32.ofNat vd)), .val (.int (Int32.ofNat ve)), .val (.int (Int32.ofNat vf)), .val (.ref cs), .val (.ref T179.heap.size), .val (.ref T193.heap.size), .unset, .unset] [(.ref T179.heap.size)])) _
            refine XS.iconst X197.here hx rfl (hb hby at_162) ?_
            show Steps p.tables e below (T197.setTop (mkF m 163 #[.val (.int p1), .val (.int p2), .val (.int p3), .val (.int (p1 &&& (1073741823 : Int32))), .val (.int ((((p1 &&& (1073741823 : Int32)) + (1 : Int32)) + (p2 &&& (536870911 : Int32))) &&& (1073741823 : Int32))), .val (.int (Int32.ofNat va)), .val (.int (Int32.ofNat vb)), .val (.int (Int32.ofNat vc)), .val (.int (Int32.ofNat vd)), .val (.int (Int32.ofNat ve)), .val (.int (Int32.ofNat vf)), .val (.ref cs), .val (.ref T179.heap.size), .val (.ref T193.heap.size), .unset, .unset] [(.int (1 : Int32)), (.ref T179.heap.size)])) _
            refine XS.goto X197.here hx rfl (pc0 := 163) (pc' := 167) rfl (hb hby at_163) (by decide) (by decide) ?_
            show Steps p.tables e below (T197.setTop (mkF m 167 #[.val (.int p1), .val (.int p2), .val (.int p3), .val (.int (p1 &&& (1073741823 : Int32))), .val (.int ((((p1 &&& (1073741823 : Int32)) + (1 : Int32)) + (p2 &&& (536870911 : Int32))) &&& (1073741823 : Int32))), .val (.int (Int32.ofNat va)), .val (.int (Int32.ofNat vb)), .val (.int (Int32.ofNat vc)), .val (.int (Int32.ofNat vd)), .val (.int (Int32.ofNat ve)), .val (.int (Int32.ofNat vf)), .val (.ref cs), .val (.ref T179.heap.size), .val (.ref T193.heap.size), .unset, .unset] [(.int (1 : Int32)), (.ref T179.heap.size)])) _
            rw [if_neg hd144, if_neg hd149, if_neg hd154, if_pos hd159] at h_x0
            subst h_x0
            exact kZ
          · skip
            refine XS.ifYes X197.here hx rfl (pc0 := 159) (pc' := 166) rfl (hb hby at_159) rfl ((if0 _ _).trans (feq hd159).2) (by decide) (by decide) ?_
            show Steps p.tables e below (T197.setTop (mkF m 166 #[.val (.int p1), .val (.int p2), .val (.int p3), .val (.int (p1 &&& (1073741823 : Int32))), .val (.int ((((p1 &&& (1073741823 : Int32)) + (1 : Int32)) + (p2 &&& (536870911 : Int32))) &&& (1073741823 : Int32))), .val (.int (Int32.ofNat va)), .val (.int (Int32.ofNat vb)), .val (.int (Int32.ofNat vc)), .val (.int (Int32.ofNat vd)), .val (.int (Int32.ofNat ve)), .val (.int (Int32.ofNat vf)), .val (.ref cs), .val (.ref T179.heap.size), .val (.ref T193.heap.size), .unset, .unset] [(.ref T179.heap.size)])) _
            refine XS.iconst X197.here hx rfl (hb hby at_166) ?_
            show Steps p.tables e below (T197.setTop (mkF m 167 #[.val (.int p1), .val (.int p2), .val (.int p3), .val (.int (p1 &&& (1073741823 : Int32))), .val (.int ((((p1 &&& (1073741823 : Int32)) + (1 : Int32)) + (p2 &&& (536870911 : Int32))) &&& (1073741823 : Int32))), .val (.int (Int32.ofNat va)), .val (.int (Int32.ofNat vb)), .val (.int (Int32.ofNat vc)), .val (.int (Int32.ofNat vd)), .val (.int (Int32.ofNat ve)), .val (.int (Int32.ofNat vf)), .val (.ref cs), .val (.ref T179.heap.size), .val (.ref T193.heap.size), .unset, .unset] [(.int (0 : Int32)), (.ref T179.heap.size)])) _
            rw [if_neg hd144, if_neg hd149, if_neg hd154, if_neg hd159] at h_x0
            subst h_x0
            exact kZ
  show own_R p.tables e below _ (T197.setTop (mkF m 167 #[.val (.int p1), .val (.int p2), .val (.int p3), .val (.int (p1 &&& (1073741823 : Int32))), .val (.int ((((p1 &&& (1073741823 : Int32)) + (1 : Int32)) + (p2 &&& (536870911 : Int32))) &&& (1073741823 : Int32))), .val (.int (Int32.ofNat va)), .val (.int (Int32.ofNat vb)), .val (.int (Int32.ofNat vc)), .val (.int (Int32.ofNat vd)), .val (.int (Int32.ofNat ve)), .val (.int (Int32.ofNat vf)), .val (.ref cs), .val (.ref T179.heap.size), .val (.ref T193.heap.size), .unset, .unset] [(.int x0), (.ref T179.heap.size)]))
  refine own_by (fun _ kZ => XS.iload X197.here hx rfl (hb hby at_167) rfl kZ) ?_
  show own_R p.tables e below _ (T197.setTop (mkF m 169 #[.val (.int p1), .val (.int p2), .val (.int p3), .val (.int (p1 &&& (1073741823 : Int32))), .val (.int ((((p1 &&& (1073741823 : Int32)) + (1 : Int32)) + (p2 &&& (536870911 : Int32))) &&& (1073741823 : Int32))), .val (.int (Int32.ofNat va)), .val (.int (Int32.ofNat vb)), .val (.int (Int32.ofNat vc)), .val (.int (Int32.ofNat vd)), .val (.int (Int32.ofNat ve)), .val (.int (Int32.ofNat vf)), .val (.ref cs), .val (.ref T179.heap.size), .val (.ref T193.heap.size), .unset, .unset] [(.int (Int32.ofNat va)), (.int x0), (.ref T179.heap.size)]))
  refine own_by (fun _ kZ => XS.iconst X197.here hx rfl (hb hby at_169) kZ) ?_
  show own_R p.tables e below _ (T197.setTop (mkF m 170 #[.val (.int p1), .val (.int p2), .val (.int p3), .val (.int (p1 &&& (1073741823 : Int32))), .val (.int ((((p1 &&& (1073741823 : Int32)) + (1 : Int32)) + (p2 &&& (536870911 : Int32))) &&& (1073741823 : Int32))), .val (.int (Int32.ofNat va)), .val (.int (Int32.ofNat vb)), .val (.int (Int32.ofNat vc)), .val (.int (Int32.ofNat vd)), .val (.int (Int32.ofNat ve)), .val (.int (Int32.ofNat vf)), .val (.ref cs), .val (.ref T179.heap.size), .val (.ref T193.heap.size), .unset, .unset] [(.int (1 : Int32)), (.int (Int32.ofNat va)), (.int x0), (.ref T179.heap.size)]))
  obtain ⟨x1, h_x1⟩ : ∃ z : Int32, z = (if (Int32.ofNat va) = (1 : Int32) then (1 : Int32) else (if (Int32.ofNat vb) = (1 : Int32) then (1 : Int32) else (if (Int32.ofNat vc) = (1 : Int32) then (1 : Int32) else (if (Int32.ofNat vd) = (1 : Int32) then (1 : Int32) else (0 : Int32))))) := ⟨_, rfl⟩
  refine own_by (S' := T197.setTop (mkF m 196 #[.val (.int p1), .val (.int p2), .val (.int p3), .val (.int (p1 &&& (1073741823 : Int32))), .val (.int ((((p1 &&& (1073741823 : Int32)) + (1 : Int32)) + (p2 &&& (536870911 : Int32))) &&& (1073741823 : Int32))), .val (.int (Int32.ofNat va)), .val (.int (Int32.ofNat vb)), .val (.int (Int32.ofNat vc)), .val (.int (Int32.ofNat vd)), .val (.int (Int32.ofNat ve)), .val (.int (Int32.ofNat vf)), .val (.ref cs), .val (.ref T179.heap.size), .val (.ref T193.heap.size), .unset, .unset] [(.int x1), (.int x0), (.ref T179.heap.size)])) (fun _ kZ => ?_) ?_
  · skip
    show Steps p.tables e below (T197.setTop (mkF m 170 #[.val (.int p1), .val (.int p2), .val (.int p3), .val (.int (p1 &&& (1073741823 : Int32))), .val (.int ((((p1 &&& (1073741823 : Int32)) + (1 : Int32)) + (p2 &&& (536870911 : Int32))) &&& (1073741823 : Int32))), .val (.int (Int32.ofNat va)), .val (.int (Int32.ofNat vb)), .val (.int (Int32.ofNat vc)), .val (.int (Int32.ofNat vd)), .val (.int (Int32.ofNat ve)), .val (.int (Int32.ofNat vf)), .val (.ref cs), .val (.ref T179.heap.size), .val (.ref T193.heap.size), .unset, .unset] [(.int (1 : Int32)), (.int (Int32.ofNat va)), (.int x0), (.ref T179.heap.size)])) _
    by_cases hd170 : (Int32.ofNat va) = (1 : Int32)
    · skip
      refine XS.icmpYes X197.here hx rfl (pc0 := 170) (pc' := 191) rfl (hb hby at_170) rfl (teq hd170).1 (by decide) (by decide) ?_
      show Steps p.tables e below (T197.setTop (mkF m 191 #[.val (.int p1), .val (.int p2), .val (.int p3), .val (.int (p1 &&& (1073741823 : Int32))), .val (.int ((((p1 &&& (1073741823 : Int32)) + (1 : Int32)) + (p2 &&& (536870911 : Int32))) &&& (1073741823 : Int32))), .val (.int (Int32.ofNat va)), .val (.int (Int32.ofNat vb)), .val (.int (Int32.ofNat vc)), .val (.int (Int32.ofNat vd)), .val (.int (Int32.ofNat ve)), .val (.int (Int32.ofNat vf)), .val (.ref cs), .val (.ref T179.heap.size), .val (.ref T193.heap.size), .unset, .unset] [(.int x0), (.ref T179.heap.size)])) _
      refine XS.iconst X197.here hx rfl (hb hby at_191) ?_
      show Steps p.tables e below (T197.setTop (mkF m 192 #[.val (.int p1), .val (.int p2), .val (.int p3), .val (.int (p1 &&& (1073741823 : Int32))), .val (.int ((((p1 &&& (1073741823 : Int32)) + (1 : Int32)) + (p2 &&& (536870911 : Int32))) &&& (1073741823 : Int32))), .val (.int (Int32.ofNat va)), .val (.int (Int32.ofNat vb)), .val (.int (Int32.ofNat vc)), .val (.int (Int32.ofNat vd)), .val (.int (Int32.ofNat ve)), .val (.int (Int32.ofNat vf)), .val (.ref cs), .val (.ref T179.heap.size), .val (.ref T193.heap.size), .unset, .unset] [(.int (1 : Int32)), (.int x0), (.ref T179.heap.size)])) _
      refine XS.goto X197.here hx rfl (pc0 := 192) (pc' := 196) rfl (hb hby at_192) (by decide) (by decide) ?_
      show Steps p.tables e below (T197.setTop (mkF m 196 #[.val (.int p1), .val (.int p2), .val (.int p3), .val (.int (p1 &&& (1073741823 : Int32))), .val (.int ((((p1 &&& (1073741823 : Int32)) + (1 : Int32)) + (p2 &&& (536870911 : Int32))) &&& (1073741823 : Int32))), .val (.int (Int32.ofNat va)), .val (.int (Int32.ofNat vb)), .val (.int (Int32.ofNat vc)), .val (.int (Int32.ofNat vd)), .val (.int (Int32.ofNat ve)), .val (.int (Int32.ofNat vf)), .val (.ref cs), .val (.ref T179.heap.size), .val (.ref T193.heap.size), .unset, .unset] [(.int (1 : Int32)), (.int x0), (.ref T179.heap.size)])) _
      rw [if_pos hd170] at h_x1
      subst h_x1
      exact kZ
    · skip
      refine XS.icmpNo X197.here hx rfl (hb hby at_170) rfl (feq hd170).1 ?_
      show Steps p.tables e below (T197.setTop (mkF m 173 #[.val (.int p1), .val (.int p2), .val (.int p3), .val (.int (p1 &&& (1073741823 : Int32))), .val (.int ((((p1 &&& (1073741823 : Int32)) + (1 : Int32)) + (p2 &&& (536870911 : Int32))) &&& (1073741823 : Int32))), .val (.int (Int32.ofNat va)), .val (.int (Int32.ofNat vb)), .val (.int (Int32.ofNat vc)), .val (.int (Int32.ofNat vd)), .val (.int (Int32.ofNat ve)), .val (.int (Int32.ofNat vf)), .val (.ref cs), .val (.ref T179.heap.size), .val (.ref T193.heap.size), .unset, .unset] [(.int x0), (.ref T179.heap.size)])) _
      refine XS.iload X197.here hx rfl (hb hby at_173) rfl ?_
      show Steps p.tables e below (T197.setTop (mkF m 175 #[.val (.int p1), .val (.int p2), .val (.int p3), .val (.int (p1 &&& (1073741823 : Int32))), .val (.int ((((p1 &&& (1073741823 : Int32)) + (1 : Int32)) + (p2 &&& (536870911 : Int32))) &&& (1073741823 : Int32))), .val (.int (Int32.ofNat va)), .val (.int (Int32.ofNat vb)), .val (.int (Int32.ofNat vc)), .val (.int (Int32.ofNat vd)), .val (.int (Int32.ofNat ve)), .val (.int (Int32.ofNat vf)), .val (.ref cs), .val (.ref T179.heap.size), .val (.ref T193.heap.size), .unset, .unset] [(.int (Int32.ofNat vb)), (.int x0), (.ref T179.heap.size)])) _
      refine XS.iconst X197.here hx rfl (hb hby at_175) ?_
      show Steps p.tables e below (T197.setTop (mkF m 176 #[.val (.int p1), .val (.int p2), .val (.int p3), .val (.int (p1 &&& (1073741823 : Int32))), .val (.int ((((p1 &&& (1073741823 : Int32)) + (1 : Int32)) + (p2 &&& (536870911 : Int32))) &&& (1073741823 : Int32))), .val (.int (Int32.ofNat va)), .val (.int (Int32.ofNat vb)), .val (.int (Int32.ofNat vc)), .val (.int (Int32.ofNat vd)), .val (.int (Int32.ofNat ve)), .val (.int (Int32.ofNat vf)), .val (.ref cs), .val (.ref T179.heap.size), .val (.ref T193.heap.size), .unset, .unset] [(.int (1 : Int32)), (.int (Int32.ofNat vb)), (.int x0), (.ref T179.heap.size)])) _
      by_cases hd176 : (Int32.ofNat vb) = (1 : Int32)
      · skip
        refine XS.icmpYes X197.here hx rfl (pc0 := 176) (pc' := 191) rfl (hb hby at_176) rfl (teq hd176).1 (by decide) (by decide) ?_
        show Steps p.tables e below (T197.setTop (mkF m 191 #[.val (.int p1), .val (.int p2), .val (.int p3), .val (.int (p1 &&& (1073741823 : Int32))), .val (.int ((((p1 &&& (1073741823 : Int32)) + (1 : Int32)) + (p2 &&& (536870911 : Int32))) &&& (1073741823 : Int32))), .val (.int (Int32.ofNat va)), .val (.int (Int32.ofNat vb)), .val (.int (Int32.ofNat vc)), .val (.int (Int32.ofNat vd)), .val (.int (Int32.ofNat ve)), .val (.int (Int32.ofNat vf)), .val (.ref cs), .val (.ref T179.heap.size), .val (.ref T193.heap.size), .unset, .unset] [(.int x0), (.ref T179.heap.size)])) _
        refine XS.iconst X197.here hx rfl (hb hby at_191) ?_
        show Steps p.tables e below (T197.setTop (mkF m 192 #[.val (.int p1), .val (.int p2), .val (.int p3), .val (.int (p1 &&& (1073741823 : Int32))), .val (.int ((((p1 &&& (1073741823 : Int32)) + (1 : Int32)) + (p2 &&& (536870911 : Int32))) &&& (1073741823 : Int32))), .val (.int (Int32.ofNat va)), .val (.int (Int32.ofNat vb)), .val (.int (Int32.ofNat vc)), .val (.int (Int32.ofNat vd)), .val (.int (Int32.ofNat ve)), .val (.int (Int32.ofNat vf)), .val (.ref cs), .val (.ref T179.heap.size), .val (.ref T193.heap.size), .unset, .unset] [(.int (1 : Int32)), (.int x0), (.ref T179.heap.size)])) _
        refine XS.goto X197.here hx rfl (pc0 := 192) (pc' := 196) rfl (hb hby at_192) (by decide) (by decide) ?_
        show Steps p.tables e below (T197.setTop (mkF m 196 #[.val (.int p1), .val (.int p2), .val (.int p3), .val (.int (p1 &&& (1073741823 : Int32))), .val (.int ((((p1 &&& (1073741823 : Int32)) + (1 : Int32)) + (p2 &&& (536870911 : Int32))) &&& (1073741823 : Int32))), .val (.int (Int32.ofNat va)), .val (.int (Int32.ofNat vb)), .val (.int (Int32.ofNat vc)), .val (.int (Int32.ofNat vd)), .val (.int (Int32.ofNat ve)), .val (.int (Int32.ofNat vf)), .val (.ref cs), .val (.ref T179.heap.size), .val (.ref T193.heap.size), .unset, .unset] [(.int (1 : Int32)), (.int x0), (.ref T179.heap.size)])) _
        rw [if_neg hd170, if_pos hd176] at h_x1
        subst h_x1
        exact kZ
      · skip
        refine XS.icmpNo X197.here hx rfl (hb hby at_176) rfl (feq hd176).1 ?_
        show Steps p.tables e below (T197.setTop (mkF m 179 #[.val (.int p1), .val (.int p2), .val (.int p3), .val (.int (p1 &&& (1073741823 : Int32))), .val (.int ((((p1 &&& (1073741823 : Int32)) + (1 : Int32)) + (p2 &&& (536870911 : Int32))) &&& (1073741823 : Int32))), .val (.int (Int32.ofNat va)), .val (.int (Int32.ofNat vb)), .val (.int (Int32.ofNat vc)), .val (.int (Int32.ofNat vd)), .val (.int (Int32.ofNat ve)), .val (.int (Int32.ofNat vf)), .val (.ref cs), .val (.ref T179.heap.size), .val (.ref T193.heap.size), .unset, .unset] [(.int x0), (.ref T179.heap.size)])) _
        refine XS.iload X197.here hx rfl (hb hby at_179) rfl ?_
        show Steps p.tables e below (T197.setTop (mkF m 181 #[.val (.int p1), .val (.int p2), .val (.int p3), .val (.int (p1 &&& (1073741823 : Int32))), .val (.int ((((p1 &&& (1073741823 : Int32)) + (1 : Int32)) + (p2 &&& (536870911 : Int32))) &&& (1073741823 : Int32))), .val (.int (Int32.ofNat va)), .val (.int (Int32.ofNat vb)), .val (.int (Int32.ofNat vc)), .val (.int (Int32.ofNat vd)), .val (.int (Int32.ofNat ve)), .val (.int (Int32.ofNat vf)), .val (.ref cs), .val (.ref T179.heap.size), .val (.ref T193.heap.size), .unset, .unset] [(.int (Int32.ofNat vc)), (.int x0), (.ref T179.heap.size)])) _
        refine XS.iconst X197.here hx rfl (hb hby at_181) ?_
        show Steps p.tables e below (T197.setTop (mkF m 182 #[.val (.int p1), .val (.int p2), .val (.int p3), .val (.int (p1 &&& (1073741823 : Int32))), .val (.int ((((p1 &&& (1073741823 : Int32)) + (1 : Int32)) + (p2 &&& (536870911 : Int32))) &&& (1073741823 : Int32))), .val (.int (Int32.ofNat va)), .val (.int (Int32.ofNat vb)), .val (.int (Int32.ofNat vc)), .val (.int (Int32.ofNat vd)), .val (.int (Int32.ofNat ve)), .val (.int (Int32.ofNat vf)), .val (.ref cs), .val (.ref T179.heap.size), .val (.ref T193.heap.size), .unset, .unset] [(.int (1 : Int32)), (.int (Int32.ofNat vc)), (.int x0), (.ref T179.heap.size)])) _
        by_cases hd182 : (Int32.ofNat vc) = (1 : Int32)
        · skip
          refine XS.icmpYes X197.here hx rfl (pc0 := 182) (pc' := 191) rfl (hb hby at_182) rfl (teq hd182).1 (by decide) (by decide) ?_
          show Steps p.tables e below (T197.setTop (mkF m 191 #[.val (.int p1), .val (.int p2), .val (.int p3), .val (.int (p1 &&& (1073741823 : Int32))), .val (.int ((((p1 &&& (1073741823 : Int32)) + (1 : Int32)) + (p2 &&& (536870911 : Int32))) &&& (1073741823 : Int32))), .val (.int (Int32.ofNat va)), .val (.int (Int32.ofNat vb)), .val (.int (Int32.ofNat vc)), .val (.int (Int32.ofNat vd)), .val (.int (Int32.ofNat ve)), .val (.int (Int32.ofNat vf)), .val (.ref cs), .val (.ref T179.heap.size), .val (.ref T193.heap.size), .unset, .unset] [(.int x0), (.ref T179.heap.size)])) _
          refine XS.iconst X197.here hx rfl (hb hby at_191) ?_
          show Steps p.tables e below (T197.setTop (mkF m 192 #[.val (.int p1), .val (.int p2), .val (.int p3), .val (.int (p1 &&& (1073741823 : Int32))), .val (.int ((((p1 &&& (1073741823 : Int32)) + (1 : Int32)) + (p2 &&& (536870911 : Int32))) &&& (1073741823 : Int32))), .val (.int (Int32.ofNat va)), .val (.int (Int32.ofNat vb)), .val (.int (Int32.ofNat vc)), .val (.int (Int32.ofNat vd)), .val (.int (Int32.ofNat ve)), .val (.int (Int32.ofNat vf)), .val (.ref cs), .val (.ref T179.heap.size), .val (.ref T193.heap.size), .unset, .unset] [(.int (1 : Int32)), (.int x0), (.ref T179.heap.size)])) _
          refine XS.goto X197.here hx rfl (pc0 := 192) (pc' := 196) rfl (hb hby at_192) (by decide) (by decide) ?_
          show Steps p.tables e below (T197.setTop (mkF m 196 #[.val (.int p1), .val (.int p2), .val (.int p3), .val (.int (p1 &&& (1073741823 : Int32))), .val (.int ((((p1 &&& (1073741823 : Int32)) + (1 : Int32)) + (p2 &&& (536870911 : Int32))) &&& (1073741823 : Int32))), .val (.int (Int32.ofNat va)), .val (.int (Int32.ofNat vb)), .val (.int (Int32.ofNat vc)), .val (.int (Int32.ofNat vd)), .val (.int (Int32.ofNat ve)), .val (.int (Int32.ofNat vf)), .val (.ref cs), .val (.ref T179.heap.size), .val (.ref T193.heap.size), .unset, .unset] [(.int (1 : Int32)), (.int x0), (.ref T179.heap.size)])) _
          rw [if_neg hd170, if_neg hd176, if_pos hd182] at h_x1
          subst h_x1
          exact kZ
        · skip
          refine XS.icmpNo X197.here hx rfl (hb hby at_182) rfl (feq hd182).1 ?_
          show Steps p.tables e below (T197.setTop (mkF m 185 #[.val (.int p1), .val (.int p2), .val (.int p3), .val (.int (p1 &&& (1073741823 : Int32))), .val (.int ((((p1 &&& (1073741823 : Int32)) + (1 : Int32)) + (p2 &&& (536870911 : Int32))) &&& (1073741823 : Int32))), .val (.int (Int32.ofNat va)), .val (.int (Int32.ofNat vb)), .val (.int (Int32.ofNat vc)), .val (.int (Int32.ofNat vd)), .val (.int (Int32.ofNat ve)), .val (.int (Int32.ofNat vf)), .val (.ref cs), .val (.ref T179.heap.size), .val (.ref T193.heap.size), .unset, .unset] [(.int x0), (.ref T179.heap.size)])) _
          refine XS.iload X197.here hx rfl (hb hby at_185) rfl ?_
          show Steps p.tables e below (T197.setTop (mkF m 187 #[.val (.int p1), .val (.int p2), .val (.int p3), .val (.int (p1 &&& (1073741823 : Int32))), .val (.int ((((p1 &&& (1073741823 : Int32)) + (1 : Int32)) + (p2 &&& (536870911 : Int32))) &&& (1073741823 : Int32))), .val (.int (Int32.ofNat va)), .val (.int (Int32.ofNat vb)), .val (.int (Int32.ofNat vc)), .val (.int (Int32.ofNat vd)), .val (.int (Int32.ofNat ve)), .val (.int (Int32.ofNat vf)), .val (.ref cs), .val (.ref T179.heap.size), .val (.ref T193.heap.size), .unset, .unset] [(.int (Int32.ofNat vd)), (.int x0), (.ref T179.heap.size)])) _
          refine XS.iconst X197.here hx rfl (hb hby at_187) ?_
          show Steps p.tables e below (T197.setTop (mkF m 188 #[.val (.int p1), .val (.int p2), .val (.int p3), .val (.int (p1 &&& (1073741823 : Int32))), .val (.int ((((p1 &&& (1073741823 : Int32)) + (1 : Int32)) + (p2 &&& (536870911 : Int32))) &&& (1073741823 : Int32))), .val (.int (Int32.ofNat va)), .val (.int (Int32.ofNat vb)), .val (.int (Int32.ofNat vc)), .val (.int (Int32.ofNat vd)), .val (.int (Int32.ofNat ve)), .val (.int (Int32.ofNat vf)), .val (.ref cs), .val (.ref T179.heap.size), .val (.ref T193.heap.size), .unset, .unset] [(.int (1 : Int32)), (.int (Int32.ofNat vd)), (.int x0), (.ref T179.heap.size)])) _
          by_cases hd188 : (Int32.ofNat vd) = (1 : Int32)
          · skip
            refine XS.icmpNo X197.here hx rfl (hb hby at_188) rfl (teq hd188).2 ?_
            show Steps p.tables e below (T197.setTop (mkF m 191 #[.val (.int p1), .val (.int p2), .val (.int p3), .val (.int (p1 &&& (1073741823 : Int32))), .val (.int ((((p1 &&& (1073741823 : Int32)) + (1 : Int32)) + (p2 &&& (536870911 : Int32))) &&& (1073741823 : Int32))), .val (.int (Int32.ofNat va)), .val (.int (Int32.ofNat vb)), .val (.int (Int32.ofNat vc)), .val (.int (Int32.ofNat vd)), .val (.int (Int32.ofNat ve)), .val (.int (Int32.ofNat vf)), .val (.ref cs), .val (.ref T179.heap.size), .val (.ref T193.heap.size), .unset, .unset] [(.int x0), (.ref T179.heap.size)])) _
            refine XS.iconst X197.here hx rfl (hb hby at_191) ?_
            show Steps p.tables e below (T197.setTop (mkF m 192 #[.val (.int p1), .val (.int p2), .val (.int p3), .val (.int (p1 &&& (1073741823 : Int32))), .val (.int ((((p1 &&& (1073741823 : Int32)) + (1 : Int32)) + (p2 &&& (536870911 : Int32))) &&& (1073741823 : Int32))), .val (.int (Int32.ofNat va)), .val (.int (Int32.ofNat vb)), .val (.int (Int32.ofNat vc)), .val (.int (Int32.ofNat vd)), .val (.int (Int32.ofNat ve)), .val (.int (Int32.ofNat vf)), .val (.ref cs), .val (.ref T179.heap.size), .val (.ref T193.heap.size), .unset, .unset] [(.int (1 : Int32)), (.int x0), (.ref T179.heap.size)])) _
            refine XS.goto X197.here hx rfl (pc0 := 192) (pc' := 196) rfl (hb hby at_192) (by decide) (by decide) ?_
            show Steps p.tables e below (T197.setTop (mkF m 196 #[.val (.int p1), .val (.int p2), .val (.int p3), .val (.int (p1 &&& (1073741823 : Int32))), .val (.int ((((p1 &&& (1073741823 : Int32)) + (1 : Int32)) + (p2 &&& (536870911 : Int32))) &&& (1073741823 : Int32))), .val (.int (Int32.ofNat va)), .val (.int (Int32.ofNat vb)), .val (.int (Int32.ofNat vc)), .val (.int (Int32.ofNat vd)), .val (.int (Int32.ofNat ve)), .val (.int (Int32.ofNat vf)), .val (.ref cs), .val (.ref T179.heap.size), .val (.ref T193.heap.size), .unset, .unset] [(.int (1 : Int32)), (.int x0), (.ref T179.heap.size)])) _
            rw [if_neg hd170, if_neg hd176, if_neg hd182, if_pos hd188] at h_x1
            subst h_x1
            exact kZ
          · skip
            refine XS.icmpYes X197.here hx rfl (pc0 := 188) (pc' := 195) rfl (hb hby at_188) rfl (feq hd188).2 (by decide) (by decide) ?_
            show Steps p.tables e below (T197.setTop (mkF m 195 #[.val (.int p1), .val (.int p2), .val (.int p3), .val (.int (p1 &&& (1073741823 : Int32))), .val (.int ((((p1 &&& (1073741823 : Int32)) + (1 : Int32)) + (p2 &&& (536870911 : Int32))) &&& (1073741823 : Int32))), .val (.int (Int32.ofNat va)), .val (.int (Int32.ofNat vb)), .val (.int (Int32.ofNat vc)), .val (.int (Int32.ofNat vd)), .val (.int (Int32.ofNat ve)), .val (.int (Int32.ofNat vf)), .val (.ref cs), .val (.ref T179.heap.size), .val (.ref T193.heap.size), .unset, .unset] [(.int x0), (.ref T179.heap.size)])) _
            refine XS.iconst X197.here hx rfl (hb hby at_195) ?_
            show Steps p.tables e below (T197.setTop (mkF m 196 #[.val (.int p1), .val (.int p2), .val (.int p3), .val (.int (p1 &&& (1073741823 : Int32))), .val (.int ((((p1 &&& (1073741823 : Int32)) + (1 : Int32)) + (p2 &&& (536870911 : Int32))) &&& (1073741823 : Int32))), .val (.int (Int32.ofNat va)), .val (.int (Int32.ofNat vb)), .val (.int (Int32.ofNat vc)), .val (.int (Int32.ofNat vd)), .val (.int (Int32.ofNat ve)), .val (.int (Int32.ofNat vf)), .val (.ref cs), .val (.ref T179.heap.size), .val (.ref T193.heap.size), .unset, .unset] [(.int (0 : Int32)), (.int x0), (.ref T179.heap.size)])) _
            rw [if_neg hd170, if_neg hd176, if_neg hd182, if_neg hd188] at h_x1
            subst h_x1
            exact kZ
  show own_R p.tables e below _ (T197.setTop (mkF m 196 #[.val (.int p1), .val (.int p2), .val (.int p3), .val (.int (p1 &&& (1073741823 : Int32))), .val (.int ((((p1 &&& (1073741823 : Int32)) + (1 : Int32)) + (p2 &&& (536870911 : Int32))) &&& (1073741823 : Int32))), .val (.int (Int32.ofNat va)), .val (.int (Int32.ofNat vb)), .val (.int (Int32.ofNat vc)), .val (.int (Int32.ofNat vd)), .val (.int (Int32.ofNat ve)), .val (.int (Int32.ofNat vf)), .val (.ref cs), .val (.ref T179.heap.size), .val (.ref T193.heap.size), .unset, .unset] [(.int x1), (.int x0), (.ref T179.heap.size)]))
  refine own_by (fun _ kZ => XS.iload X197.here hx rfl (hb hby at_196) rfl kZ) ?_
  show own_R p.tables e below _ (T197.setTop (mkF m 198 #[.val (.int p1), .val (.int p2), .val (.int p3), .val (.int (p1 &&& (1073741823 : Int32))), .val (.int ((((p1 &&& (1073741823 : Int32)) + (1 : Int32)) + (p2 &&& (536870911 : Int32))) &&& (1073741823 : Int32))), .val (.int (Int32.ofNat va)), .val (.int (Int32.ofNat vb)), .val (.int (Int32.ofNat vc)), .val (.int (Int32.ofNat vd)), .val (.int (Int32.ofNat ve)), .val (.int (Int32.ofNat vf)), .val (.ref cs), .val (.ref T179.heap.size), .val (.ref T193.heap.size), .unset, .unset] [(.int (Int32.ofNat va)), (.int x1), (.int x0), (.ref T179.heap.size)]))
  refine own_by (fun _ kZ => XS.iconst X197.here hx rfl (hb hby at_198) kZ) ?_
  show own_R p.tables e below _ (T197.setTop (mkF m 199 #[.val (.int p1), .val (.int p2), .val (.int p3), .val (.int (p1 &&& (1073741823 : Int32))), .val (.int ((((p1 &&& (1073741823 : Int32)) + (1 : Int32)) + (p2 &&& (536870911 : Int32))) &&& (1073741823 : Int32))), .val (.int (Int32.ofNat va)), .val (.int (Int32.ofNat vb)), .val (.int (Int32.ofNat vc)), .val (.int (Int32.ofNat vd)), .val (.int (Int32.ofNat ve)), .val (.int (Int32.ofNat vf)), .val (.ref cs), .val (.ref T179.heap.size), .val (.ref T193.heap.size), .unset, .unset] [(.int (2 : Int32)), (.int (Int32.ofNat va)), (.int x1), (.int x0), (.ref T179.heap.size)]))
  obtain ⟨x2, h_x2⟩ : ∃ z : Int32, z = (if (Int32.ofNat va) = (2 : Int32) then (1 : Int32) else (if (Int32.ofNat vb) = (2 : Int32) then (1 : Int32) else (if (Int32.ofNat vc) = (2 : Int32) then (1 : Int32) else (if (Int32.ofNat vd) = (2 : Int32) then (1 : Int32) else (0 : Int32))))) := ⟨_, rfl⟩
  refine own_by (S' := T197.setTop (mkF m 225 #[.val (.int p1), .val (.int p2), .val (.int p3), .val (.int (p1 &&& (1073741823 : Int32))), .val (.int ((((p1 &&& (1073741823 : Int32)) + (1 : Int32)) + (p2 &&& (536870911 : Int32))) &&& (1073741823 : Int32))), .val (.int (Int32.ofNat va)), .val (.int (Int32.ofNat vb)), .val (.int (Int32.ofNat vc)), .val (.int (Int32.ofNat vd)), .val (.int (Int32.ofNat ve)), .val (.int (Int32.ofNat vf)), .val (.ref cs), .val (.ref T179.heap.size), .val (.ref T193.heap.size), .unset, .unset] [(.int x2), (.int x1), (.int x0), (.ref T179.heap.size)])) (fun _ kZ => ?_) ?_
  · skip
    show Steps p.tables e below (T197.setTop (mkF m 199 #[.val (.int p1), .val (.int p2), .val (.int p3), .val (.int (p1 &&& (1073741823 : Int32))), .val (.int ((((p1 &&& (1073741823 : Int32)) + (1 : Int32)) + (p2 &&& (536870911 : Int32))) &&& (1073741823 : Int32))), .val (.int (Int32.ofNat va)), .val (.int (Int32.ofNat vb)), .val (.int (Int32.ofNat vc)), .val (.int (Int32.ofNat vd)), .val (.int (Int32.ofNat ve)), .val (.int (Int32.ofNat vf)), .val (.ref cs), .val (.ref T179.heap.size), .val (.ref T193.heap.size), .unset, .unset] [(.int (2 : Int32)), (.int (Int32.ofNat va)), (.int x1), (.int x0), (.ref T179.heap.size)])) _
    by_cases hd199 : (Int32.ofNat va) = (2 : Int32)
    · skip
      refine XS.icmpYes X197.here hx rfl (pc0 := 199) (pc' := 220) rfl (hb hby at_199) rfl (teq hd199).1 (by decide) (by decide) ?_
      show Steps p.tables e below (T197.setTop (mkF m 220 #[.val (.int p1), .val (.int p2), .val (.int p3), .val (.int (p1 &&& (1073741823 : Int32))), .val (.int ((((p1 &&& (1073741823 : Int32)) + (1 : Int32)) + (p2 &&& (536870911 : Int32))) &&& (1073741823 : Int32))), .val (.int (Int32.ofNat va)), .val (.int (Int32.ofNat vb)), .val (.int (Int32.ofNat vc)), .val (.int (Int32.ofNat vd)), .val (.int (Int32.ofNat ve)), .val (.int (Int32.ofNat vf)), .val (.ref cs), .val (.ref T179.heap.size), .val (.ref T193.heap.size), .unset, .unset] [(.int x1), (.int x0), (.ref T179.heap.size)])) _
      refine XS.iconst X197.here hx rfl (hb hby at_220) ?_
      show Steps p.tables e below (T197.setTop (mkF m 221 #[.val (.int p1), .val (.int p2), .val (.int p3), .val (.int (p1 &&& (1073741823 : Int32))), .val (.int ((((p1 &&& (1073741823 : Int32)) + (1 : Int32)) + (p2 &&& (536870911 : Int32))) &&& (1073741823 : Int32))), .val (.int (Int32.ofNat va)), .val (.int (Int32.ofNat vb)), .val (.int (Int32.ofNat vc)), .val (.int (Int32.ofNat vd)), .val (.int (Int32.ofNat ve)), .val (.int (Int32.ofNat vf)), .val (.ref cs), .val (.ref T179.heap.size), .val (.ref T193.heap.size), .unset, .unset] [(.int (1 : Int32)), (.int x1), (.int x0), (.ref T179.heap.size)])) _
      refine XS.goto X197.here hx rfl (pc0 := 221) (pc' := 225) rfl (hb hby at_221) (by decide) (by decide) ?_
      show Steps p.tables e below (T197.setTop (mkF m 225 #[.val (.int p1), .val (.int p2), .val (.int p3), .val (.int (p1 &&& (1073741823 : Int32))), .val (.int ((((p1 &&& (1073741823 : Int32)) + (1 : Int32)) + (p2 &&& (536870911 : Int32))) &&& (1073741823 : Int32))), .val (.int (Int32.ofNat va)), .val (.int (Int32.ofNat vb)), .val (.int (Int32.ofNat vc)), .val (.int (Int32.ofNat vd)), .val (.int (Int32.ofNat ve)), .val (.int (Int32.ofNat vf)), .val (.ref cs), .val (.ref T179.heap.size), .val (.ref T193.heap.size), .unset, .unset] [(.int (1 : Int32)), (.int x1), (.int x0), (.ref T179.heap.size)])) _
      rw [if_pos hd199] at h_x2
      subst h_x2
      exact kZ
    · skip
      refine XS.icmpNo X197.here hx rfl (hb hby at_199) rfl (feq hd199).1 ?_
      show Steps p.tables e below (T197.setTop (mkF m 202 #[.val (.int p1), .val (.int p2), .val (.int p3), .val (.int (p1 &&& (1073741823 : Int32))), .val (.int ((((p1 &&& (1073741823 : Int32)) + (1 : Int32)) + (p2 &&& (536870911 : Int32))) &&& (1073741823 : Int32))), .val (.int (Int32.ofNat va)), .val (.int (Int32.ofNat vb)), .val (.int (Int32.ofNat vc)), .val (.int (Int32.ofNat vd)), .val (.int (Int32.ofNat ve)), .val (.int (Int32.ofNat vf)), .val (.ref cs), .val (.ref T179.heap.size), .val (.ref T193.heap.size), .unset, .unset] [(.int x1), (.int x0), (.ref T179.heap.size)])) _
      refine XS.iload X197.here hx rfl (hb hby at_202) rfl ?_
      show Steps p.tables e below (T197.setTop (mkF m 204 #[.val (.int p1), .val (.int p2), .val (.int p3), .val (.int (p1 &&& (1073741823 : Int32))), .val (.int ((((p1 &&& (1073741823 : Int32)) + (1 : Int32)) + (p2 &&& (536870911 : Int32))) &&& (1073741823 : Int32))), .val (.int (Int32.ofNat va)), .val (.int (Int32.ofNat vb)), .val (.int (Int32.ofNat vc)), .val (.int (Int32.ofNat vd)), .val (.int (Int32.ofNat ve)), .val (.int (Int32.ofNat vf)), .val (.ref cs), .val (.ref T179.heap.size), .val (.ref T193.heap.size), .unset, .unset] [(.int (Int32.ofNat vb)), (.int x1), (.int x0), (.ref T179.heap.size)])) _
      refine XS.iconst X197.here hx rfl (hb hby at_204) ?_
      show Steps p.tables e below (T197.setTop (mkF m 205 #[.val (.int p1), .val (.int p2), .val (.int p3), .val (.int (p1 &&& (1073741823 : Int32))), .val (.int ((((p1 &&& (1073741823 : Int32)) + (1 : Int32)) + (p2 &&& (536870911 : Int32))) &&& (1073741823 : Int32))), .val (.int (Int32.ofNat va)), .val (.int (Int32.ofNat vb)), .val (.int (Int32.ofNat vc)), .val (.int (Int32.ofNat vd)), .val (.int (Int32.ofNat ve)), .val (.int (Int32.ofNat vf)), .val (.ref cs), .val (.ref T179.heap.size), .val (.ref T193.heap.size), .unset, .unset] [(.int (2 : Int32)), (.int (Int32.ofNat vb)), (.int x1), (.int x0), (.ref T179.heap.size)])) _
      by_cases hd205 : (Int32.ofNat vb) = (2 : Int32)
      · skip
        refine XS.icmpYes X197.here hx rfl (pc0 := 205) (pc' := 220) rfl (hb hby at_205) rfl (teq hd205).1 (by decide) (by decide) ?_
        show Steps p.tables e below (T197.setTop (mkF m 220 #[.val (.int p1), .val (.int p2), .val (.int p3), .val (.int (p1 &&& (1073741823 : Int32))), .val (.int ((((p1 &&& (1073741823 : Int32)) + (1 : Int32)) + (p2 &&& (536870911 : Int32))) &&& (1073741823 : Int32))), .val (.int (Int32.ofNat va)), .val (.int (Int32.ofNat vb)), .val (.int (Int32.ofNat vc)), .val (.int (Int32.ofNat vd)), .val (.int (Int32.ofNat ve)), .val (.int (Int32.ofNat vf)), .val (.ref cs), .val (.ref T179.heap.size), .val (.ref T193.heap.size), .unset, .unset] [(.int x1), (.int x0), (.ref T179.heap.size)])) _
        refine XS.iconst X197.here hx rfl (hb hby at_220) ?_
        show Steps p.tables e below (T197.setTop (mkF m 221 #[.val (.int p1), .val (.int p2), .val (.int p3), .val (.int (p1 &&& (1073741823 : Int32))), .val (.int ((((p1 &&& (1073741823 : Int32)) + (1 : Int32)) + (p2 &&& (536870911 : Int32))) &&& (1073741823 : Int32))), .val (.int (Int32.ofNat va)), .val (.int (Int32.ofNat vb)), .val (.int (Int32.ofNat vc)), .val (.int (Int32.ofNat vd)), .val (.int (Int32.ofNat ve)), .val (.int (Int32.ofNat vf)), .val (.ref cs), .val (.ref T179.heap.size), .val (.ref T193.heap.size), .unset, .unset] [(.int (1 : Int32)), (.int x1), (.int x0), (.ref T179.heap.size)])) _
        refine XS.goto X197.here hx rfl (pc0 := 221) (pc' := 225) rfl (hb hby at_221) (by decide) (by decide) ?_
        show Steps p.tables e below (T197.setTop (mkF m 225 #[.val (.int p1), .val (.int p2), .val (.int p3), .val (.int (p1 &&& (1073741823 : Int32))), .val (.int ((((p1 &&& (1073741823 : Int32)) + (1 : Int32)) + (p2 &&& (536870911 : Int32))) &&& (1073741823 : Int32))), .val (.int (Int32.ofNat va)), .val (.int (Int32.ofNat vb)), .val (.int (Int32.ofNat vc)), .val (.int (Int32.ofNat vd)), .val (.int (Int32.ofNat ve)), .val (.int (Int32.ofNat vf)), .val (.ref cs), .val (.ref T179.heap.size), .val (.ref T193.heap.size), .unset, .unset] [(.int (1 : Int32)), (.int x1), (.int x0), (.ref T179.heap.size)])) _
        rw [if_neg hd199, if_pos hd205] at h_x2
        subst h_x2
        exact kZ
      · skip
        refine XS.icmpNo X197.here hx rfl (hb hby at_205) rfl (feq hd205).1 ?_
        show Steps p.tables e below (T197.setTop (mkF m 208 #[.val (.int p1), .val (.int p2), .val (.int p3), .val (.int (p1 &&& (1073741823 : Int32))), .val (.int ((((p1 &&& (1073741823 : Int32)) + (1 : Int32)) + (p2 &&& (536870911 : Int32))) &&& (1073741823 : Int32))), .val (.int (Int32.ofNat va)), .val (.int (Int32.ofNat vb)), .val (.int (Int32.ofNat vc)), .val (.int (Int32.ofNat vd)), .val (.int (Int32.ofNat ve)), .val (.int (Int32.ofNat vf)), .val (.ref cs), .val (.ref T179.heap.size), .val (.ref T193.heap.size), .unset, .unset] [(.int x1), (.int x0), (.ref T179.heap.size)])) _
        refine XS.iload X197.here hx rfl (hb hby at_208) rfl ?_
        show Steps p.tables e below (T197.setTop (mkF m 210 #[.val (.int p1), .val (.int p2), .val (.int p3), .val (.int (p1 &&& (1073741823 : Int32))), .val (.int ((((p1 &&& (1073741823 : Int32)) + (1 : Int32)) + (p2 &&& (536870911 : Int32))) &&& (1073741823 : Int32))), .val (.int (Int32.ofNat va)), .val (.int (Int32.ofNat vb)), .val (.int (Int32.ofNat vc)), .val (.int (Int32.ofNat vd)), .val (.int (Int32.ofNat ve)), .val (.int (Int32.ofNat vf)), .val (.ref cs), .val (.ref T179.heap.size), .val (.ref T193.heap.size), .unset, .unset] [(.int (Int32.ofNat vc)), (.int x1), (.int x0), (.ref T179.heap.size)])) _
        refine XS.iconst X197.here hx rfl (hb hby at_210) ?_
        show Steps p.tables e below (T197.setTop (mkF m 211 #[.val (.int p1), .val (.int p2), .val (.int p3), .val (.int (p1 &&& (1073741823 : Int32))), .val (.int ((((p1 &&& (1073741823 : Int32)) + (1 : Int32)) + (p2 &&& (536870911 : Int32))) &&& (1073741823 : Int32))), .val (.int (Int32.ofNat va)), .val (.int (Int32.ofNat vb)), .val (.int (Int32.ofNat vc)), .val (.int (Int32.ofNat vd)), .val (.int (Int32.ofNat ve)), .val (.int (Int32.ofNat vf)), .val (.ref cs), .val (.ref T179.heap.size), .val (.ref T193.heap.size), .unset, .unset] [(.int (2 : Int32)), (.int (Int32.ofNat vc)), (.int x1), (.int x0), (.ref T179.heap.size)])) _
        by_cases hd211 : (Int32.ofNat vc) = (2 : Int32)
        · skip
          refine XS.icmpYes X197.here hx rfl (pc0 := 211) (pc' := 220) rfl (hb hby at_211) rfl (teq hd211).1 (by decide) (by decide) ?_
          show Steps p.tables e below (T197.setTop (mkF m 220 #[.val (.int p1), .val (.int p2), .val (.int p3), .val (.int (p1 &&& (1073741823 : Int32))), .val (.int ((((p1 &&& (1073741823 : Int32)) + (1 : Int32)) + (p2 &&& (536870911 : Int32))) &&& (1073741823 : Int32))), .val (.int (Int32.ofNat va)), .val (.int (Int32.ofNat vb)), .val (.int (Int32.ofNat vc)), .val (.int (Int32.ofNat vd)), .val (.int (Int32.ofNat ve)), .val (.int (Int32.ofNat vf)), .val (.ref cs), .val (.ref T179.heap.size), .val (.ref T193.heap.size), .unset, .unset] [(.int x1), (.int x0), (.ref T179.heap.size)])) _
          refine XS.iconst X197.here hx rfl (hb hby at_220) ?_
          show Steps p.tables e below (T197.setTop (mkF m 221 #[.val (.int p1), .val (.int p2), .val (.int p3), .val (.int (p1 &&& (1073741823 : Int32))), .val (.int ((((p1 &&& (1073741823 : Int32)) + (1 : Int32)) + (p2 &&& (536870911 : Int32))) &&& (1073741823 : Int32))), .val (.int (Int32.ofNat va)), .val (.int (Int32.ofNat vb)), .val (.int (Int32.ofNat vc)), .val (.int (Int32.ofNat vd)), .val (.int (Int32.ofNat ve)), .val (.int (Int32.ofNat vf)), .val (.ref cs), .val (.ref T179.heap.size), .val (.ref T193.heap.size), .unset, .unset] [(.int (1 : Int32)), (.int x1), (.int x0), (.ref T179.heap.size)])) _
          refine XS.goto X197.here hx rfl (pc0 := 221) (pc' := 225) rfl (hb hby at_221) (by decide) (by decide) ?_
          show Steps p.tables e below (T197.setTop (mkF m 225 #[.val (.int p1), .val (.int p2), .val (.int p3), .val (.int (p1 &&& (1073741823 : Int32))), .val (.int ((((p1 &&& (1073741823 : Int32)) + (1 : Int32)) + (p2 &&& (536870911 : Int32))) &&& (1073741823 : Int32))), .val (.int (Int32.ofNat va)), .val (.int (Int32.ofNat vb)), .val (.int (Int32.ofNat vc)), .val (.int (Int32.ofNat vd)), .val (.int (Int32.ofNat ve)), .val (.int (Int32.ofNat vf)), .val (.ref cs), .val (.ref T179.heap.size), .val (.ref T193.heap.size), .unset, .unset] [(.int (1 : Int32)), (.int x1), (.int x0), (.ref T179.heap.size)])) _
          rw [if_neg hd199, if_neg hd205, if_pos hd211] at h_x2
          subst h_x2
          exact kZ
        · skip
          refine XS.icmpNo X197.here hx rfl (hb hby at_211) rfl (feq hd211).1 ?_
          show Steps p.tables e below (T197.setTop (mkF m 214 #[.val (.int p1), .val (.int p2), .val (.int p3), .val (.int (p1 &&& (1073741823 : Int32))), .val (.int ((((p1 &&& (1073741823 : Int32)) + (1 : Int32)) + (p2 &&& (536870911 : Int32))) &&& (1073741823 : Int32))), .val (.int (Int32.ofNat va)), .val (.int (Int32.ofNat vb)), .val (.int (Int32.ofNat vc)), .val (.int (Int32.ofNat vd)), .val (.int (Int32.ofNat ve)), .val (.int (Int32.ofNat vf)), .val (.ref cs), .val (.ref T179.heap.size), .val (.ref T193.heap.size), .unset, .unset] [(.int x1), (.int x0), (.ref T179.heap.size)])) _
          refine XS.iload X197.here hx rfl (hb hby at_214) rfl ?_
          show Steps p.tables e below (T197.setTop (mkF m 216 #[.val (.int p1), .val (.int p2), .val (.int p3), .val (.int (p1 &&& (1073741823 : Int32))), .val (.int ((((p1 &&& (1073741823 : Int32)) + (1 : Int32)) + (p2 &&& (536870911 : Int32))) &&& (1073741823 : Int32))), .val (.int (Int32.ofNat va)), .val (.int (Int32.ofNat vb)), .val (.int (Int32.ofNat vc)), .val (.int (Int32.ofNat vd)), .val (.int (Int32.ofNat ve)), .val (.int (Int32.ofNat vf)), .val (.ref cs), .val (.ref T179.heap.size), .val (.ref T193.heap.size), .unset, .unset] [(.int (Int32.ofNat vd)), (.int x1), (.int x0), (.ref T179.heap.size)])) _
          refine XS.iconst X197.here hx rfl (hb hby at_216) ?_
          show Steps p.tables e below (T197.setTop (mkF m 217 #[.val (.int p1), .val (.int p2), .val (.int p3), .val (.int (p1 &&& (1073741823 : Int32))), .val (.int ((((p1 &&& (1073741823 : Int32)) + (1 : Int32)) + (p2 &&& (536870911 : Int32))) &&& (1073741823 : Int32))), .val (.int (Int32.ofNat va)), .val (.int (Int32.ofNat vb)), .val (.int (Int32.ofNat vc)), .val (.int (Int32.ofNat vd)), .val (.int (Int32.ofNat ve)), .val (.int (Int32.ofNat vf)), .val (.ref cs), .val (.ref T179.heap.size), .val (.ref T193.heap.size), .unset, .unset] [(.int (2 : Int32)), (.int (Int32.ofNat vd)), (.int x1), (.int x0), (.ref T179.heap.size)])) _
          by_cases hd217 : (Int32.ofNat vd) = (2 : Int32)
          · skip
            refine XS.icmpNo X197.here hx rfl (hb hby at_217) rfl (teq hd217).2 ?_
            show Steps p.tables e below (T197.setTop (mkF m 220 #[.val (.int p1), .val (.int p2), .val (.int p3), .val (.int (p1 &&& (1073741823 : Int32))), .val (.int ((((p1 &&& (1073741823 : Int32)) + (1 : Int32)) + (p2 &&& (536870911 : Int32))) &&& (1073741823 : Int32))), .val (.int (Int32.ofNat va)), .val (.int (Int32.ofNat vb)), .val (.int (Int32.ofNat vc)), .val (.int (Int32.ofNat vd)), .val (.int (Int32.ofNat ve)), .val (.int (Int32.ofNat vf)), .val (.ref cs), .val (.ref T179.heap.size), .val (.ref T193.heap.size), .unset, .unset] [(.int x1), (.int x0), (.ref T179.heap.size)])) _
            refine XS.iconst X197.here hx rfl (hb hby at_220) ?_
            show Steps p.tables e below (T197.setTop (mkF m 221 #[.val (.int p1), .val (.int p2), .val (.int p3), .val (.int (p1 &&& (1073741823 : Int32))), .val (.int ((((p1 &&& (1073741823 : Int32)) + (1 : Int32)) + (p2 &&& (536870911 : Int32))) &&& (1073741823 : Int32))), .val (.int (Int32.ofNat va)), .val (.int (Int32.ofNat vb)), .val (.int (Int32.ofNat vc)), .val (.int (Int32.ofNat vd)), .val (.int (Int32.ofNat ve)), .val (.int (Int32.ofNat vf)), .val (.ref cs), .val (.ref T179.heap.size), .val (.ref T193.heap.size), .unset, .unset] [(.int (1 : Int32)), (.int x1), (.int x0), (.ref T179.heap.size)])) _
            refine XS.goto X197.here hx rfl (pc0 := 221) (pc' := 225) rfl (hb hby at_221) (by decide) (by decide) ?_
            show Steps p.tables e below (T197.setTop (mkF m 225 #[.val (.int p1), .val (.int p2), .val (.int p3), .val (.int (p1 &&& (1073741823 : Int32))), .val (.int ((((p1 &&& (1073741823 : Int32)) + (1 : Int32)) + (p2 &&& (536870911 : Int32))) &&& (1073741823 : Int32))), .val (.int (Int32.ofNat va)), .val (.int (Int32.ofNat vb)), .val (.int (Int32.ofNat vc)), .val (.int (Int32.ofNat vd)), .val (.int (Int32.ofNat ve)), .val (.int (Int32.ofNat vf)), .val (.ref cs), .val (.ref T179.heap.size), .val (.ref T193.heap.size), .unset, .unset] [(.int (1 : Int32)), (.int x1), (.int x0), (.ref T179.heap.size)])) _
            rw [if_neg hd199, if_neg hd205, if_neg hd211, if_pos hd217] at h_x2
            subst h_x2
            exact kZ
          · skip
            refine XS.icmpYes X197.here hx rfl (pc0 := 217) (pc' := 224) rfl (hb hby at_217) rfl (feq hd217).2 (by decide) (by decide) ?_
            show Steps p.tables e below (T197.setTop (mkF m 224 #[.val (.int p1), .val (.int p2), .val (.int p3), .val (.int (p1 &&& (1073741823 : Int32))), .val (.int ((((p1 &&& (1073741823 : Int32)) + (1 : Int32)) + (p2 &&& (536870911 : Int32))) &&& (1073741823 : Int32))), .val (.int (Int32.ofNat va)), .val (.int (Int32.ofNat vb)), .val (.int (Int32.ofNat vc)), .val (.int (Int32.ofNat vd)), .val (.int (Int32.ofNat ve)), .val (.int (Int32.ofNat vf)), .val (.ref cs), .val (.ref T179.heap.size), .val (.ref T193.heap.size), .unset, .unset] [(.int x1), (.int x0), (.ref T179.heap.size)])) _
            refine XS.iconst X197.here hx rfl (hb hby at_224) ?_
            show Steps p.tables e below (T197.setTop (mkF m 225 #[.val (.int p1), .val (.int p2), .val (.int p3), .val (.int (p1 &&& (1073741823 : Int32))), .val (.int ((((p1 &&& (1073741823 : Int32)) + (1 : Int32)) + (p2 &&& (536870911 : Int32))) &&& (1073741823 : Int32))), .val (.int (Int32.ofNat va)), .val (.int (Int32.ofNat vb)), .val (.int (Int32.ofNat vc)), .val (.int (Int32.ofNat vd)), .val (.int (Int32.ofNat ve)), .val (.int (Int32.ofNat vf)), .val (.ref cs), .val (.ref T179.heap.size), .val (.ref T193.heap.size), .unset, .unset] [(.int (0 : Int32)), (.int x1), (.int x0), (.ref T179.heap.size)])) _
            rw [if_neg hd199, if_neg hd205, if_neg hd211, if_neg hd217] at h_x2
            subst h_x2
            exact kZ
  show own_R p.tables e below _ (T197.setTop (mkF m 225 #[.val (.int p1), .val (.int p2), .val (.int p3), .val (.int (p1 &&& (1073741823 : Int32))), .val (.int ((((p1 &&& (1073741823 : Int32)) + (1 : Int32)) + (p2 &&& (536870911 : Int32))) &&& (1073741823 : Int32))), .val (.int (Int32.ofNat va)), .val (.int (Int32.ofNat vb)), .val (.int (Int32.ofNat vc)), .val (.int (Int32.ofNat vd)), .val (.int (Int32.ofNat ve)), .val (.int (Int32.ofNat vf)), .val (.ref cs), .val (.ref T179.heap.size), .val (.ref T193.heap.size), .unset, .unset] [(.int x2), (.int x1), (.int x0), (.ref T179.heap.size)]))
  refine own_by (fun _ kZ => XS.iload X197.here hx rfl (hb hby at_225) rfl kZ) ?_
  show own_R p.tables e below _ (T197.setTop (mkF m 227 #[.val (.int p1), .val (.int p2), .val (.int p3), .val (.int (p1 &&& (1073741823 : Int32))), .val (.int ((((p1 &&& (1073741823 : Int32)) + (1 : Int32)) + (p2 &&& (536870911 : Int32))) &&& (1073741823 : Int32))), .val (.int (Int32.ofNat va)), .val (.int (Int32.ofNat vb)), .val (.int (Int32.ofNat vc)), .val (.int (Int32.ofNat vd)), .val (.int (Int32.ofNat ve)), .val (.int (Int32.ofNat vf)), .val (.ref cs), .val (.ref T179.heap.size), .val (.ref T193.heap.size), .unset, .unset] [(.int (Int32.ofNat va)), (.int x2), (.int x1), (.int x0), (.ref T179.heap.size)]))
  refine own_by (fun _ kZ => XS.iconst X197.here hx rfl (hb hby at_227) kZ) ?_
  show own_R p.tables e below _ (T197.setTop (mkF m 228 #[.val (.int p1), .val (.int p2), .val (.int p3), .val (.int (p1 &&& (1073741823 : Int32))), .val (.int ((((p1 &&& (1073741823 : Int32)) + (1 : Int32)) + (p2 &&& (536870911 : Int32))) &&& (1073741823 : Int32))), .val (.int (Int32.ofNat va)), .val (.int (Int32.ofNat vb)), .val (.int (Int32.ofNat vc)), .val (.int (Int32.ofNat vd)), .val (.int (Int32.ofNat ve)), .val (.int (Int32.ofNat vf)), .val (.ref cs), .val (.ref T179.heap.size), .val (.ref T193.heap.size), .unset, .unset] [(.int (3 : Int32)), (.int (Int32.ofNat va)), (.int x2), (.int x1), (.int x0), (.ref T179.heap.size)]))
  obtain ⟨x3, h_x3⟩ : ∃ z : Int32, z = (if (Int32.ofNat va) = (3 : Int32) then (1 : Int32) else (if (Int32.ofNat vb) = (3 : Int32) then (1 : Int32) else (if (Int32.ofNat vc) = (3 : Int32) then (1 : Int32) else (if (Int32.ofNat vd) = (3 : Int32) then (1 : Int32) else (0 : Int32))))) := ⟨_, rfl⟩
  refine own_by (S' := T197.setTop (mkF m 254 #[.val (.int p1), .val (.int p2), .val (.int p3), .val (.int (p1 &&& (1073741823 : Int32))), .val (.int ((((p1 &&& (1073741823 : Int32)) + (1 : Int32)) + (p2 &&& (536870911 : Int32))) &&& (1073741823 : Int32))), .val (.int (Int32.ofNat va)), .val (.int (Int32.ofNat vb)), .val (.int (Int32.ofNat vc)), .val (.int (Int32.ofNat vd)), .val (.int (Int32.ofNat ve)), .val (.int (Int32.ofNat vf)), .val (.ref cs), .val (.ref T179.heap.size), .val (.ref T193.heap.size), .unset, .unset] [(.int x3), (.int x2), (.int x1), (.int x0), (.ref T179.heap.size)])) (fun _ kZ => ?_) ?_
  · skip
    show Steps p.tables e below (T197.setTop (mkF m 228 #[.val (.int p1), .val (.int p2), .val (.int p3), .val (.int (p1 &&& (1073741823 : Int32))), .val (.int ((((p1 &&& (1073741823 : Int32)) + (1 : Int32)) + (p2 &&& (536870911 : Int32))) &&& (1073741823 : Int32))), .val (.int (Int32.ofNat va)), .val (.int (Int32.ofNat vb)), .val (.int (Int32.ofNat vc)), .val (.int (Int32.ofNat vd)), .val (.int (Int32.ofNat ve)), .val (.int (Int32.ofNat vf)), .val (.ref cs), .val (.ref T179.heap.size), .val (.ref T193.heap.size), .unset, .unset] [(.int (3 : Int32)), (.int (Int32.ofNat va)), (.int x2), (.int x1), (.int x0), (.ref T179.heap.size)])) _
    by_cases hd228 : (Int32.ofNat va) = (3 : Int32)
    · skip
      refine XS.icmpYes X197.here hx rfl (pc0 := 228) (pc' := 249) rfl (hb hby at_228) rfl (teq hd228).1 (by decide) (by decide) ?_
      show Steps p.tables e below (T197.setTop (mkF m 249 #[.val (.int p1), .val (.int p2), .val (.int p3), .val (.int (p1 &&& (1073741823 : Int32))), .val (.int ((((p1 &&& (1073741823 : Int32)) + (1 : Int32)) + (p2 &&& (536870911 : Int32))) &&& (1073741823 : Int32))), .val (.int (Int32.ofNat va)), .val (.int (Int32.ofNat vb)), .val (.int (Int32.ofNat vc)), .val (.int (Int32.ofNat vd)), .val (.int (Int32.ofNat ve)), .val (.int (Int32.ofNat vf)), .val (.ref cs), .val (.ref T179.heap.size), .val (.ref T193.heap.size), .unset, .unset] [(.int x2), (.int x1), (.int x0), (.ref T179.heap.size)])) _
      refine XS.iconst X197.here hx rfl (hb hby at_249) ?_
      show Steps p.tables e below (T197.setTop (mkF m 250 #[.val (.int p1), .val (.int p2), .val (.int p3), .val (.int (p1 &&& (1073741823 : Int32))), .val (.int ((((p1 &&& (1073741823 : Int32)) + (1 : Int32)) + (p2 &&& (536870911 : Int32))) &&& (1073741823 : Int32))), .val (.int (Int32.ofNat va)), .val (.int (Int32.ofNat vb)), .val (.int (Int32.ofNat vc)), .val (.int (Int32.ofNat vd)), .val (.int (Int32.ofNat ve)), .val (.int (Int32.ofNat vf)), .val (.ref cs), .val (.ref T179.heap.size), .val (.ref T193.heap.size), .unset, .unset] [(.int (1 : Int32)), (.int x2), (.int x1), (.int x0), (.ref T179.heap.size)])) _
      refine XS.goto X197.here hx rfl (pc0 := 250) (pc' := 254) rfl (hb hby at_250) (by decide) (by decide) ?_
      show Steps p.tables e below (T197.setTop (mkF m 254 #[.val (.int p1), .val (.int p2), .val (.int p3), .val (.int (p1 &&& (1073741823 : Int32))), .val (.int ((((p1 &&& (1073741823 : Int32)) + (1 : Int32)) + (p2 &&& (536870911 : Int32))) &&& (1073741823 : Int32))), .val (.int (Int32.ofNat va)), .val (.int (Int32.ofNat vb)), .val (.int (Int32.ofNat vc)), .val (.int (Int32.ofNat vd)), .val (.int (Int32.ofNat ve)), .val (.int (Int32.ofNat vf)), .val (.ref cs), .val (.ref T179.heap.size), .val (.ref T193.heap.size), .unset, .unset] [(.int (1 : Int32)), (.int x2), (.int x1), (.int x0), (.ref T179.heap.size)])) _
      rw [if_pos hd228] at h_x3
      subst h_x3
      exact kZ
    · skip
      refine XS.icmpNo X197.here hx rfl (hb hby at_228) rfl (feq hd228).1 ?_
      show Steps p.tables e below (T197.setTop (mkF m 231 #[.val (.int p1), .val (.int p2), .val (.int p3), .val (.int (p1 &&& (1073741823 : Int32))), .val (.int ((((p1 &&& (1073741823 : Int32)) + (1 : Int32)) + (p2 &&& (536870911 : Int32))) &&& (1073741823 : Int32))), .val (.int (Int32.ofNat va)), .val (.int (Int32.ofNat vb)), .val (.int (Int32.ofNat vc)), .val (.int (Int32.ofNat vd)), .val (.int (Int32.ofNat ve)), .val (.int (Int32.ofNat vf)), .val (.ref cs), .val (.ref T179.heap.size), .val (.ref T193.heap.size), .unset, .unset] [(.int x2), (.int x1), (.int x0), (.ref T179.heap.size)])) _
      refine XS.iload X197.here hx rfl (hb hby at_231) rfl ?_
      show Steps p.tables e below (T197.setTop (mkF m 233 #[.val (.int p1), .val (.int p2), .val (.int p3), .val (.int (p1 &&& (1073741823 : Int32))), .val (.int ((((p1 &&& (1073741823 : Int32)) + (1 : Int32)) + (p2 &&& (536870911 : Int32))) &&& (1073741823 : Int32))), .val (.int (Int32.ofNat va)), .val (.int (Int32.ofNat vb)), .val (.int (Int32.ofNat vc)), .val (.int (Int32.ofNat vd)), .val (.int (Int32.ofNat ve)), .val (.int (Int32.ofNat vf)), .val (.ref cs), .val (.ref T179.heap.size), .val (.ref T193.heap.size), .unset, .unset] [(.int (Int32.ofNat vb)), (.int x2), (.int x1), (.int x0), (.ref T179.heap.size)])) _
      refine XS.iconst X197.here hx rfl (hb hby at_233) ?_
      show Steps p.tables e below (T197.setTop (mkF m 234 #[.val (.int p1), .val (.int p2), .val (.int p3), .val (.int (p1 &&& (1073741823 : Int32))), .val (.int ((((p1 &&& (1073741823 : Int32)) + (1 : Int32)) + (p2 &&& (536870911 : Int32))) &&& (1073741823 : Int32))), .val (.int (Int32.ofNat va)), .val (.int (Int32.ofNat vb)), .val (.int (Int32.ofNat vc)), .val (.int (Int32.ofNat vd)), .val (.int (Int32.ofNat ve)), .val (.int (Int32.ofNat vf)), .val (.ref cs), .val (.ref T179.heap.size), .val (.ref T193.heap.size), .unset, .unset] [(.int (3 : Int32)), (.int (Int32.ofNat vb)), (.int x2), (.int x1), (.int x0), (.ref T179.heap.size)])) _
      by_cases hd234 : (Int32.ofNat vb) = (3 : Int32)
      · skip
        refine XS.icmpYes X197.here hx rfl (pc0 := 234) (pc' := 249) rfl (hb hby at_234) rfl (teq hd234).1 (by decide) (by decide) ?_
        show Steps p.tables e below (T197.setTop (mkF m 249 #[.val (.int p1), .val (.int p2), .val (.int p3), .val (.int (p1 &&& (1073741823 : Int32))), .val (.int ((((p1 &&& (1073741823 : Int32)) + (1 : Int32)) + (p2 &&& (536870911 : Int32))) &&& (1073741823 : Int32))), .val (.int (Int32.ofNat va)), .val (.int (Int32.ofNat vb)), .val (.int (Int32.ofNat vc)), .val (.int (Int32.ofNat vd)), .val (.int (Int32.ofNat ve)), .val (.int (Int32.ofNat vf)), .val (.ref cs), .val (.ref T179.heap.size), .val (.ref T193.heap.size), .unset, .unset] [(.int x2), (.int x1), (.int x0), (.ref T179.heap.size)])) _
        refine XS.iconst X197.here hx rfl (hb hby at_249) ?_
        show Steps p.tables e below (T197.setTop (mkF m 250 #[.val (.int p1), .val (.int p2), .val (.int p3), .val (.int (p1 &&& (1073741823 : Int32))), .val (.int ((((p1 &&& (1073741823 : Int32)) + (1 : Int32)) + (p2 &&& (536870911 : Int32))) &&& (1073741823 : Int32))), .val (.int (Int32.ofNat va)), .val (.int (Int32.ofNat vb)), .val (.int (Int32.ofNat vc)), .val (.int (Int32.ofNat vd)), .val (.int (Int32.ofNat ve)), .val (.int (Int32.ofNat vf)), .val (.ref cs), .val (.ref T179.heap.size), .val (.ref T193.heap.size), .unset, .unset] [(.int (1 : Int32)), (.int x2), (.int x1), (.int x0), (.ref T179.heap.size)])) _
        refine XS.goto X197.here hx rfl (pc0 := 250) (pc' := 254) rfl (hb hby at_250) (by decide) (by decide) ?_
        show Steps p.tables e below (T197.setTop (mkF m 254 #[.val (.int p1), .val (.int p2), .val (.int p3), .val (.int (p1 &&& (1073741823 : Int32))), .val (.int ((((p1 &&& (1073741823 : Int32)) + (1 : Int32)) + (p2 &&& (536870911 : Int32))) &&& (1073741823 : Int32))), .val (.int (Int32.ofNat va)), .val (.int (Int32.ofNat vb)), .val (.int (Int32.ofNat vc)), .val (.int (Int32.ofNat vd)), .val (.int (Int32.ofNat ve)), .val (.int (Int32.ofNat vf)), .val (.ref cs), .val (.ref T179.heap.size), .val (.ref T193.heap.size), .unset, .unset] [(.int (1 : Int32)), (.int x2), (.int x1), (.int x0), (.ref T179.heap.size)])) _
        rw [if_neg hd228, if_pos hd234] at h_x3
        subst h_x3
        exact kZ
      · skip
        refine XS.icmpNo X197.here hx rfl (hb hby at_234) rfl (feq hd234).1 ?_
        show Steps p.tables e below (T197.setTop (mkF m 237 #[.val (.int p1), .val (.int p2), .val (.int p3), .val (.int (p1 &&& (1073741823 : Int32))), .val (.int ((((p1 &&& (1073741823 : Int32)) + (1 : Int32)) + (p2 &&& (536870911 : Int32))) &&& (1073741823 : Int32))), .val (.int (Int32.ofNat va)), .val (.int (Int32.ofNat vb)), .val (.int (Int32.ofNat vc)), .val (.int (Int32.ofNat vd)), .val (.int (Int32.ofNat ve)), .val (.int (Int32.ofNat vf)), .val (.ref cs), .val (.ref T179.heap.size), .val (.ref T193.heap.size), .unset, .unset] [(.int x2), (.int x1), (.int x0), (.ref T179.heap.size)])) _
        refine XS.iload X197.here hx rfl (hb hby at_237) rfl ?_
        show Steps p.tables e below (T197.setTop (mkF m 239 #[.val (.int p1), .val (.int p2), .val (.int p3), .val (.int (p1 &&& (1073741823 : Int32))), .val (.int ((((p1 &&& (1073741823 : Int32)) + (1 : Int32)) + (p2 &&& (536870911 : Int32))) &&& (1073741823 : Int32))), .val (.int (Int32.ofNat va)), .val (.int (Int32.ofNat vb)), .val (.int (Int32.ofNat vc)), .val (.int (Int32.ofNat vd)), .val (.int (Int32.ofNat ve)), .val (.int (Int32.ofNat vf)), .val (.ref cs), .val (.ref T179.heap.size), .val (.ref T193.heap.size), .unset, .unset] [(.int (Int32.ofNat vc)), (.int x2), (.int x1), (.int x0), (.ref T179.heap.size)])) _
        refine XS.iconst X197.here hx rfl (hb hby at_239) ?_
        show Steps p.tables e below (T197.setTop (mkF m 240 #[.val (.int p1), .val (.int p2), .val (.int p3), .val (.int (p1 &&& (1073741823 : Int32))), .val (.int ((((p1 &&& (1073741823 : Int32)) + (1 : Int32)) + (p2 &&& (536870911 : Int32))) &&& (1073741823 : Int32))), .val (.int (Int32.ofNat va)), .val (.int (Int32.ofNat vb)), .val (.int (Int32.ofNat vc)), .val (.int (Int32.ofNat vd)), .val (.int (Int32.ofNat ve)), .val (.int (Int32.ofNat vf)), .val (.ref cs), .val (.ref T179.heap.size), .val (.ref T193.heap.size), .unset, .unset] [(.int (3 : Int32)), (.int (Int32.ofNat vc)), (.int x2), (.int x1), (.int x0), (.ref T179.heap.size)])) _
        by_cases hd240 : (Int32.ofNat vc) = (3 : Int32)
        · skip
          refine XS.icmpYes X197.here hx rfl (pc0 := 240) (pc' := 249) rfl (hb hby at_240) rfl (teq hd240).1 (by decide) (by decide) ?_
          show Steps p.tables e below (T197.setTop (mkF m 249 #[.val (.int p1), .val (.int p2), .val (.int p3), .val (.int (p1 &&& (1073741823 : Int32))), .val (.int ((((p1 &&& (1073741823 : Int32)) + (1 : Int32)) + (p2 &&& (536870911 : Int32))) &&& (1073741823 : Int32))), .val (.int (Int32.ofNat va)), .val (.int (Int32.ofNat vb)), .val (.int (Int32.ofNat vc)), .val (.int (Int32.ofNat vd)), .val (.int (Int32.ofNat ve)), .val (.int (Int32.ofNat vf)), .val (.ref cs), .val (.ref T179.heap.size), .val (.ref T193.heap.size), .unset, .unset] [(.int x2), (.int x1), (.int x0), (.ref T179.heap.size)])) _
          refine XS.iconst X197.here hx rfl (hb hby at_249) ?_
          show Steps p.tables e below (T197.setTop (mkF m 250 #[.val (.int p1), .val (.int p2), .val (.int p3), .val (.int (p1 &&& (1073741823 : Int32))), .val (.int ((((p1 &&& (1073741823 : Int32)) + (1 : Int32)) + (p2 &&& (536870911 : Int32))) &&& (1073741823 : Int32))), .val (.int (Int32.ofNat va)), .val (.int (Int32.ofNat vb)), .val (.int (Int32.ofNat vc)), .val (.int (Int32.ofNat vd)), .val (.int (Int32.ofNat ve)), .val (.int (Int32.ofNat vf)), .val (.ref cs), .val (.ref T179.heap.size), .val (.ref T193.heap.size), .unset, .unset] [(.int (1 : Int32)), (.int x2), (.int x1), (.int x0), (.ref T179.heap.size)])) _
          refine XS.goto X197.here hx rfl (pc0 := 250) (pc' := 254) rfl (hb hby at_250) (by decide) (by decide) ?_
          show Steps p.tables e below (T197.setTop (mkF m 254 #[.val (.int p1), .val (.int p2), .val (.int p3), .val (.int (p1 &&& (1073741823 : Int32))), .val (.int ((((p1 &&& (1073741823 : Int32)) + (1 : Int32)) + (p2 &&& (536870911 : Int32))) &&& (1073741823 : Int32))), .val (.int (Int32.ofNat va)), .val (.int (Int32.ofNat vb)), .val (.int (Int32.ofNat vc)), .val (.int (Int32.ofNat vd)), .val (.int (Int32.ofNat ve)), .val (.int (Int32.ofNat vf)), .val (.ref cs), .val (.ref T179.heap.size), .val (.ref T193.heap.size), .unset, .unset] [(.int (1 : Int32)), (.int x2), (.int x1), (.int x0), (.ref T179.heap.size)])) _
          rw [if_neg hd228, if_neg hd234, if_pos hd240] at h_x3
          subst h_x3
          exact kZ
        · skip
          refine XS.icmpNo X197.here hx rfl (hb hby at_240) rfl (feq hd240).1 ?_
          show Steps p.tables e below (T197.setTop (mkF m 243 #[.val (.int p1), .val (.int p2), .val (.int p3), .val (.int (p1 &&& (1073741823 : Int32))), .val (.int ((((p1 &&& (1073741823 : Int32)) + (1 : Int32)) + (p2 &&& (536870911 : Int32))) &&& (1073741823 : Int32))), .val (.int (Int32.ofNat va)), .val (.int (Int32.ofNat vb)), .val (.int (Int32.ofNat vc)), .val (.int (Int32.ofNat vd)), .val (.int (Int32.ofNat ve)), .val (.int (Int32.ofNat vf)), .val (.ref cs), .val (.ref T179.heap.size), .val (.ref T193.heap.size), .unset, .unset] [(.int x2), (.int x1), (.int x0), (.ref T179.heap.size)])) _
          refine XS.iload X197.here hx rfl (hb hby at_243) rfl ?_
          show Steps p.tables e below (T197.setTop (mkF m 245 #[.val (.int p1), .val (.int p2), .val (.int p3), .val (.int (p1 &&& (1073741823 : Int32))), .val (.int ((((p1 &&& (1073741823 : Int32)) + (1 : Int32)) + (p2 &&& (536870911 : Int32))) &&& (1073741823 : Int32))), .val (.int (Int32.ofNat va)), .val (.int (Int32.ofNat vb)), .val (.int (Int32.ofNat vc)), .val (.int (Int32.ofNat vd)), .val (.int (Int32.ofNat ve)), .val (.int (Int32.ofNat vf)), .val (.ref cs), .val (.ref T179.heap.size), .val (.ref T193.heap.size), .unset, .unset] [(.int (Int32.ofNat vd)), (.int x2), (.int x1), (.int x0), (.ref T179.heap.size)])) _
          refine XS.iconst X197.here hx rfl (hb hby at_245) ?_
          show Steps p.tables e below (T197.setTop (mkF m 246 #[.val (.int p1), .val (.int p2), .val (.int p3), .val (.int (p1 &&& (1073741823 : Int32))), .val (.int ((((p1 &&& (1073741823 : Int32)) + (1 : Int32)) + (p2 &&& (536870911 : Int32))) &&& (1073741823 : Int32))), .val (.int (Int32.ofNat va)), .val (.int (Int32.ofNat vb)), .val (.int (Int32.ofNat vc)), .val (.int (Int32.ofNat vd)), .val (.int (Int32.ofNat ve)), .val (.int (Int32.ofNat vf)), .val (.ref cs), .val (.ref T179.heap.size), .val (.ref T193.heap.size), .unset, .unset] [(.int (3 : Int32)), (.int (Int32.ofNat vd)), (.int x2), (.int x1), (.int x0), (.ref T179.heap.size)])) _
          by_cases hd246 : (Int32.ofNat vd) = (3 : Int32)
          · skip
            refine XS.icmpNo X197.here hx rfl (hb hby at_246) rfl (teq hd246).2 ?_
            show Steps p.tables e below (T197.setTop (mkF m 249 #[.val (.int p1), .val (.int p2), .val (.int p3), .val (.int (p1 &&& (1073741823 : Int32))), .val (.int ((((p1 &&& (1073741823 : Int32)) + (1 : Int32)) + (p2 &&& (536870911 : Int32))) &&& (1073741823 : Int32))), .val (.int (Int32.ofNat va)), .val (.int (Int32.ofNat vb)), .val (.int (Int32.ofNat vc)), .val (.int (Int32.ofNat vd)), .val (.int (Int32.ofNat ve)), .val (.int (Int32.ofNat vf)), .val (.ref cs), .val (.ref T179.heap.size), .val (.ref T193.heap.size), .unset, .unset] [(.int x2), (.int x1), (.int x0), (.ref T179.heap.size)])) _
            refine XS.iconst X197.here hx rfl (hb hby at_249) ?_
            show Steps p.tables e below (T197.setTop (mkF m 250 #[.val (.int p1), .val (.int p2), .val (.int p3), .val (.int (p1 &&& (1073741823 : Int32))), .val (.int ((((p1 &&& (1073741823 : Int32)) + (1 : Int32)) + (p2 &&& (536870911 : Int32))) &&& (1073741823 : Int32))), .val (.int (Int32.ofNat va)), .val (.int (Int32.ofNat vb)), .val (.int (Int32.ofNat vc)), .val (.int (Int32.ofNat vd)), .val (.int (Int32.ofNat ve)), .val (.int (Int32.ofNat vf)), .val (.ref cs), .val (.ref T179.heap.size), .val (.ref T193.heap.size), .unset, .unset] [(.int (1 : Int32)), (.int x2), (.int x1), (.int x0), (.ref T179.heap.size)])) _
            refine XS.goto X197.here hx rfl (pc0 := 250) (pc' := 254) rfl (hb hby at_250) (by decide) (by decide) ?_
            show Steps p.tables e below (T197.setTop (mkF m 254 #[.val (.int p1), .val (.int p2), .val (.int p3), .val (.int (p1 &&& (1073741823 : Int32))), .val (.int ((((p1 &&& (1073741823 : Int32)) + (1 : Int32)) + (p2 &&& (536870911 : Int32))) &&& (1073741823 : Int32))), .val (.int (Int32.ofNat va)), .val (.int (Int32.ofNat vb)), .val (.int (Int32.ofNat vc)), .val (.int (Int32.ofNat vd)), .val (.int (Int32.ofNat ve)), .val (.int (Int32.ofNat vf)), .val (.ref cs), .val (.ref T179.heap.size), .val (.ref T193.heap.size), .unset, .unset] [(.int (1 : Int32)), (.int x2), (.int x1), (.int x0), (.ref T179.heap.size)])) _
            rw [if_neg hd228, if_neg hd234, if_neg hd240, if_pos hd246] at h_x3
            subst h_x3
            exact kZ
          · skip
            refine XS.icmpYes X197.here hx rfl (pc0 := 246) (pc' := 253) rfl (hb hby at_246) rfl (feq hd246).2 (by decide) (by decide) ?_
            show Steps p.tables e below (T197.setTop (mkF m 253 #[.val (.int p1), .val (.int p2), .val (.int p3), .val (.int (p1 &&& (1073741823 : Int32))), .val (.int ((((p1 &&& (1073741823 : Int32)) + (1 : Int32)) + (p2 &&& (536870911 : Int32))) &&& (1073741823 : Int32))), .val (.int (Int32.ofNat va)), .val (.int (Int32.ofNat vb)), .val (.int (Int32.ofNat vc)), .val (.int (Int32.ofNat vd)), .val (.int (Int32.ofNat ve)), .val (.int (Int32.ofNat vf)), .val (.ref cs), .val (.ref T179.heap.size), .val (.ref T193.heap.size), .unset, .unset] [(.int x2), (.int x1), (.int x0), (.ref T179.heap.size)])) _
            refine XS.iconst X197.here hx rfl (hb hby at_253) ?_
            show Steps p.tables e below (T197.setTop (mkF m 254 #[.val (.int p1), .val (.int p2), .val (.int p3), .val (.int (p1 &&& (1073741823 : Int32))), .val (.int ((((p1 &&& (1073741823 : Int32)) + (1 : Int32)) + (p2 &&& (536870911 : Int32))) &&& (1073741823 : Int32))), .val (.int (Int32.ofNat va)), .val (.int (Int32.ofNat vb)), .val (.int (Int32.ofNat vc)), .val (.int (Int32.ofNat vd)), .val (.int (Int32.ofNat ve)), .val (.int (Int32.ofNat vf)), .val (.ref cs), .val (.ref T179.heap.size), .val (.ref T193.heap.size), .unset, .unset] [(.int (0 : Int32)), (.int x2), (.int x1), (.int x0), (.ref T179.heap.size)])) _
            rw [if_neg hd228, if_neg hd234, if_neg hd240, if_neg hd246] at h_x3
            subst h_x3
            exact kZ
  show own_R p.tables e below _ (T197.setTop (mkF m 254 #[.val (.int p1), .val (.int p2), .val (.int p3), .val (.int (p1 &&& (1073741823 : Int32))), .val (.int ((((p1 &&& (1073741823 : Int32)) + (1 : Int32)) + (p2 &&& (536870911 : Int32))) &&& (1073741823 : Int32))), .val (.int (Int32.ofNat va)), .val (.int (Int32.ofNat vb)), .val (.int (Int32.ofNat vc)), .val (.int (Int32.ofNat vd)), .val (.int (Int32.ofNat ve)), .val (.int (Int32.ofNat vf)), .val (.ref cs), .val (.ref T179.heap.size), .val (.ref T193.heap.size), .unset, .unset] [(.int x3), (.int x2), (.int x1), (.int x0), (.ref T179.heap.size)]))
  obtain ⟨ra, rb⟩ := own_res I4 (by omega) (own_ok4 ⟨va, lva⟩ ⟨vb, lvb⟩ ⟨vc, lvc⟩ ⟨vd, lvd⟩)
  have z0 : x0 = own_fl4 (Int32.ofNat va) (Int32.ofNat vb) (Int32.ofNat vc) (Int32.ofNat vd) 0 := h_x0
  have z1 : x1 = own_fl4 (Int32.ofNat va) (Int32.ofNat vb) (Int32.ofNat vc) (Int32.ofNat vd) 1 := h_x1
  have z2 : x2 = own_fl4 (Int32.ofNat va) (Int32.ofNat vb) (Int32.ofNat vc) (Int32.ofNat vd) 2 := h_x2
  have z3 : x3 = own_fl4 (Int32.ofNat va) (Int32.ofNat vb) (Int32.ofNat vc) (Int32.ofNat vd) 3 := h_x3
  dsimp only at ra rb
  rw [← z0, ← z1, ← z2, ← z3] at ra
  rw [← z0, ← z1, ← z2, ← z3] at rb
  obtain ⟨_, _, ⟨T201, L201, k201, n201⟩, -, X201, ⟨Lc201, hQ201, l201, y201, z201⟩, st201⟩ := Jvm.LawKit.callS X197 hx (y := (⟨"com/example/frugal_scheduler/frugalscheduler/planners/CandidatesAddPinLaw", "matches", "([IZZZZ)Z"⟩ : MethodName)) hown (mvT hZ (hw _ (List.mem_of_getElem? (i := 60) rfl))) (mvT hZ (hw _ (List.mem_of_getElem? (i := 61) rfl))) (mvT hZ (hw _ (List.mem_of_getElem? (i := 62) rfl))) (mvT hZ (hw _ (List.mem_of_getElem? (i := 63) rfl))) (by decide) (backOf (W := 0) (rm12 l Z a0 hw [] (T179.heap.size) x0 x1 x2 x3 m4 (own_os (m4 - 1) 0 u4) T197.heap n0 Z200 (by omega) f199_T179_heap_size ra rb) hZ (hw _ (List.mem_of_getElem? (i := 63) rfl)) (hw _ (List.mem_of_getElem? (i := 62) rfl)) (by decide) (by decide)) (g := (mkF m 254 #[.val (.int p1), .val (.int p2), .val (.int p3), .val (.int (p1 &&& (1073741823 : Int32))), .val (.int ((((p1 &&& (1073741823 : Int32)) + (1 : Int32)) + (p2 &&& (536870911 : Int32))) &&& (1073741823 : Int32))), .val (.int (Int32.ofNat va)), .val (.int (Int32.ofNat vb)), .val (.int (Int32.ofNat vc)), .val (.int (Int32.ofNat vd)), .val (.int (Int32.ofNat ve)), .val (.int (Int32.ofNat vf)), .val (.ref cs), .val (.ref T179.heap.size), .val (.ref T193.heap.size), .unset, .unset] [(.int x3), (.int x2), (.int x1), (.int x0), (.ref T179.heap.size)])) rfl (by rw [hml]; rfl) (argsL := [(.ref T179.heap.size), (.int x0), (.int x1), (.int x2), (.int x3)]) (rest := []) (lenOf own_pd8 rfl) rfl (by show 2 * 0 + _ ≤ _; exact Nat.le_of_eq rfl) (hb hby at_254) (fun _ _ => ⟨rfl, rfl, (by decide : 5 + 1 ≤ _), (by decide : 20 + 4 ≤ _)⟩)
  dsimp only [Pt.U, Pt.locs, Pt.cells, Pt.slots] at X201 l201 y201 z201 st201 hQ201
  subst l201 y201 z201
  obtain ⟨rfl, Nq201, K201⟩ := hQ201
  have N201 := Fr.app N197 Nq201
  have f202_cs : Exa Z T201.heap cs "com/example/frugal_scheduler/frugalscheduler/planners/PoolSchedule$Candidates" := f198_cs.keep K201
  have f203_T179_heap_size : own_K .int Z T201.heap T179.heap.size .int m4 (own_os (m4 - 1) 0 u4) := f199_T179_heap_size.keep K201 nin0
  have f204_T193_heap_size : own_K .int Z T201.heap T193.heap.size .int m6 (own_os (m6 - 1) 0 u6) := V197.keep K201 nin0
  have Z205 : n0 ≤ T201.heap.size := Nat.le_trans Z200 K201.1
  refine own_by st201 ?_
  show own_R p.tables e below _ (T201.setTop (mkF m 257 #[.val (.int p1), .val (.int p2), .val (.int p3), .val (.int (p1 &&& (1073741823 : Int32))), .val (.int ((((p1 &&& (1073741823 : Int32)) + (1 : Int32)) + (p2 &&& (536870911 : Int32))) &&& (1073741823 : Int32))), .val (.int (Int32.ofNat va)), .val (.int (Int32.ofNat vb)), .val (.int (Int32.ofNat vc)), .val (.int (Int32.ofNat vd)), .val (.int (Int32.ofNat ve)), .val (.int (Int32.ofNat vf)), .val (.ref cs), .val (.ref T179.heap.size), .val (.ref T193.heap.size), .unset, .unset] [(.int (1 : Int32))]))
  refine own_by (fun _ kZ => XS.istore X201.here hx rfl (hb hby at_257) rfl (l' := #[.val (.int p1), .val (.int p2), .val (.int p3), .val (.int (p1 &&& (1073741823 : Int32))), .val (.int ((((p1 &&& (1073741823 : Int32)) + (1 : Int32)) + (p2 &&& (536870911 : Int32))) &&& (1073741823 : Int32))), .val (.int (Int32.ofNat va)), .val (.int (Int32.ofNat vb)), .val (.int (Int32.ofNat vc)), .val (.int (Int32.ofNat vd)), .val (.int (Int32.ofNat ve)), .val (.int (Int32.ofNat vf)), .val (.ref cs), .val (.ref T179.heap.size), .val (.ref T193.heap.size), .val (.int (1 : Int32)), .unset]) rfl kZ) ?_
  show own_R p.tables e below _ (T201.setTop (mkF m 259 #[.val (.int p1), .val (.int p2), .val (.int p3), .val (.int (p1 &&& (1073741823 : Int32))), .val (.int ((((p1 &&& (1073741823 : Int32)) + (1 : Int32)) + (p2 &&& (536870911 : Int32))) &&& (1073741823 : Int32))), .val (.int (Int32.ofNat va)), .val (.int (Int32.ofNat vb)), .val (.int (Int32.ofNat vc)), .val (.int (Int32.ofNat vd)), .val (.int (Int32.ofNat ve)), .val (.int (Int32.ofNat vf)), .val (.ref cs), .val (.ref T179.heap.size), .val (.ref T193.heap.size), .val (.int (1 : Int32)), .unset] []))
  refine own_by (fun _ kZ => XS.aload X201.here hx rfl (hb hby at_259) rfl rfl kZ) ?_
  show own_R p.tables e below _ (T201.setTop (mkF m 261 #[.val (.int p1), .val (.int p2), .val (.int p3), .val (.int (p1 &&& (1073741823 : Int32))), .val (.int ((((p1 &&& (1073741823 : Int32)) + (1 : Int32)) + (p2 &&& (536870911 : Int32))) &&& (1073741823 : Int32))), .val (.int (Int32.ofNat va)), .val (.int (Int32.ofNat vb)), .val (.int (Int32.ofNat vc)), .val (.int (Int32.ofNat vd)), .val (.int (Int32.ofNat ve)), .val (.int (Int32.ofNat vf)), .val (.ref cs), .val (.ref T179.heap.size), .val (.ref T193.heap.size), .val (.int (1 : Int32)), .unset] [(.ref T193.heap.size)]))
  refine own_by (fun _ kZ => XS.iload X201.here hx rfl (hb hby at_261) rfl kZ) ?_
  show own_R p.tables e below _ (T201.setTop (mkF m 263 #[.val (.int p1), .val (.int p2), .val (.int p3), .val (.int (p1 &&& (1073741823 : Int32))), .val (.int ((((p1 &&& (1073741823 : Int32)) + (1 : Int32)) + (p2 &&& (536870911 : Int32))) &&& (1073741823 : Int32))), .val (.int (Int32.ofNat va)), .val (.int (Int32.ofNat vb)), .val (.int (Int32.ofNat vc)), .val (.int (Int32.ofNat vd)), .val (.int (Int32.ofNat ve)), .val (.int (Int32.ofNat vf)), .val (.ref cs), .val (.ref T179.heap.size), .val (.ref T193.heap.size), .val (.int (1 : Int32)), .unset] [(.int (Int32.ofNat ve)), (.ref T193.heap.size)]))
  obtain ⟨w0, h_w0⟩ : ∃ z : Int32, z = (if (Int32.ofNat ve) = (0 : Int32) then (1 : Int32) else (if (Int32.ofNat vf) = (0 : Int32) then (1 : Int32) else (0 : Int32))) := ⟨_, rfl⟩
  refine own_by (S' := T201.setTop (mkF m 276 #[.val (.int p1), .val (.int p2), .val (.int p3), .val (.int (p1 &&& (1073741823 : Int32))), .val (.int ((((p1 &&& (1073741823 : Int32)) + (1 : Int32)) + (p2 &&& (536870911 : Int32))) &&& (1073741823 : Int32))), .val (.int (Int32.ofNat va)), .val (.int (Int32.ofNat vb)), .val (.int (Int32.ofNat vc)), .val (.int (Int32.ofNat vd)), .val (.int (Int32.ofNat ve)), .val (.int (Int32.ofNat vf)), .val (.ref cs), .val (.ref T179.heap.size), .val (.ref T193.heap.size), .val (.int (1 : Int32)), .unset] [(.int w0), (.ref T193.heap.size)])) (fun _ kZ => ?_) ?_
  · skip
    show Steps p.tables e below (T201.setTop (mkF m 263 #[.val (.int p1), .val (.int p2), .val (.int p3), .val (.int (p1 &&& (1073741823 : Int32))), .val (.int ((((p1 &&& (1073741823 : Int32)) + (1 : Int32)) + (p2 &&& (536870911 : Int32))) &&& (1073741823 : Int32))), .val (.int (Int32.ofNat va)), .val (.int (Int32.ofNat vb)), .val (.int (Int32.ofNat vc)), .val (.int (Int32.ofNat vd)), .val (.int (Int32.ofNat ve)), .val (.int (Int32.ofNat vf)), .val (.ref cs), .val (.ref T179.heap.size), .val (.ref T193.heap.size), .val (.int (1 : Int32)), .unset] [(.int (Int32.ofNat ve)), (.ref T193.heap.size)])) _
    by_cases hd263 : (Int32.ofNat ve) = (0 : Int32)
    · skip
      refine XS.ifYes X201.here hx rfl (pc0 := 263) (pc' := 271) rfl (hb hby at_263) rfl ((if0 _ _).trans (teq hd263).1) (by decide) (by decide) ?_
      show Steps p.tables e below (T201.setTop (mkF m 271 #[.val (.int p1), .val (.int p2), .val (.int p3), .val (.int (p1 &&& (1073741823 : Int32))), .val (.int ((((p1 &&& (1073741823 : Int32)) + (1 : Int32)) + (p2 &&& (536870911 : Int32))) &&& (1073741823 : Int32))), .val (.int (Int32.ofNat va)), .val (.int (Int32.ofNat vb)), .val (.int (Int32.ofNat vc)), .val (.int (Int32.ofNat vd)), .val (.int (Int32.ofNat ve)), .val (.int (Int32.ofNat vf)), .val (.ref cs), .val (.ref T179.heap.size), .val (.ref T193.heap.size), .val (.int (1 : Int32)), .unset] [(.ref T193.heap.size)])) _
      refine XS.iconst X201.here hx rfl (hb hby at_271) ?_
      show Steps p.tables e below (T201.setTop (mkF m 272 #[.val (.int p1), .val (.int p2), .val (.int p3), .val (.int (p1 &&& (1073741823 : Int32))), .val (.int ((((p1 &&& (1073741823 : Int32)) + (1 : Int32)) + (p2 &&& (536870911 : Int32))) &&& (1073741823 : Int32))), .val (.int (Int32.ofNat va)), .val (.int (Int32.ofNat vb)), .val (.int (Int32.ofNat vc)), .val (.int (Int32.ofNat vd)), .val (.int (Int32.ofNat ve)), .val (.int (Int32.ofNat vf)), .val (.ref cs), .val (.ref T179.heap.size), .val (.ref T193.heap.size), .val (.int (1 : Int32)), .unset] [(.int (1 : Int32)), (.ref T193.heap.size)])) _
      refine XS.goto X201.here hx rfl (pc0 := 272) (pc' := 276) rfl (hb hby at_272) (by decide) (by decide) ?_
      show Steps p.tables e below (T201.setTop (mkF m 276 #[.val (.int p1), .val (.int p2), .val (.int p3), .val (.int (p1 &&& (1073741823 : Int32))), .val (.int ((((p1 &&& (1073741823 : Int32)) + (1 : Int32)) + (p2 &&& (536870911 : Int32))) &&& (1073741823 : Int32))), .val (.int (Int32.ofNat va)), .val (.int (Int32.ofNat vb)), .val (.int (Int32.ofNat vc)), .val (.int (Int32.ofNat vd)), .val (.int (Int32.ofNat ve)), .val (.int (Int32.ofNat vf)), .val (.ref cs), .val (.ref T179.heap.size), .val (.ref T193.heap.size), .val (.int (1 : Int32)), .unset] [(.int (1 : Int32)), (.ref T193.heap.size)])) _
      rw [if_pos hd263] at h_w0
      subst h_w0
      exact kZ
    · skip
      refine XS.ifNo X201.here hx rfl (hb hby at_263) rfl ((if0 _ _).trans (feq hd263).1) ?_
      show Steps p.tables e below (T201.setTop (mkF m 266 #[.val (.int p1), .val (.int p2), .val (.int p3), .val (.int (p1 &&& (1073741823 : Int32))), .val (.int ((((p1 &&& (1073741823 : Int32)) + (1 : Int32)) + (p2 &&& (536870911 : Int32))) &&& (1073741823 : Int32))), .val (.int (Int32.ofNat va)), .val (.int (Int32.ofNat vb)), .val (.int (Int32.ofNat vc)), .val (.int (Int32.ofNat vd)), .val (.int (Int32.ofNat ve)), .val (.int (Int32.ofNat vf)), .val (.ref cs), .val (.ref T179.heap.size), .val (.ref T193.heap.size), .val (.int (1 : Int32)), .unset] [(.ref T193.heap.size)])) _
      refine XS.iload X201.here hx rfl (hb hby at_266) rfl ?_
      show Steps p.tables e below (T201.setTop (mkF m 268 #[.val (.int p1), .val (.int p2), .val (.int p3), .val (.int (p1 &&& (1073741823 : Int32))), .val (.int ((((p1 &&& (1073741823 : Int32)) + (1 : Int32)) + (p2 &&& (536870911 : Int32))) &&& (1073741823 : Int32))), .val (.int (Int32.ofNat va)), .val (.int (Int32.ofNat vb)), .val (.int (Int32.ofNat vc)), .val (.int (Int32.ofNat vd)), .val (.int (Int32.ofNat ve)), .val (.int (Int32.ofNat vf)), .val (.ref cs), .val (.ref T179.heap.size), .val (.ref T193.heap.size), .val (.int (1 : Int32)), .unset] [(.int (Int32.ofNat vf)), (.ref T193.heap.size)])) _
      by_cases hd268 : (Int32.ofNat vf) = (0 : Int32)
      · skip
        refine XS.ifNo X201.here hx rfl (hb hby at_268) rfl ((if0 _ _).trans (teq hd268).2) ?_
        show Steps p.tables e below (T201.setTop (mkF m 271 #[.val (.int p1), .val (.int p2), .val (.int p3), .val (.int (p1 &&& (1073741823 : Int32))), .val (.int ((((p1 &&& (1073741823 : Int32)) + (1 : Int32)) + (p2 &&& (536870911 : Int32))) &&& (1073741823 : Int32))), .val (.int (Int32.ofNat va)), .val (.int (Int32.ofNat vb)), .val (.int (Int32.ofNat vc)), .val (.int (Int32.ofNat vd)), .val (.int (Int32.ofNat ve)), .val (.int (Int32.ofNat vf)), .val (.ref cs), .val (.ref T179.heap.size), .val (.ref T193.heap.size), .val (.int (1 : Int32)), .unset] [(.ref T193.heap.size)])) _
        refine XS.iconst X201.here hx rfl (hb hby at_271) ?_
        show Steps p.tables e below (T201.setTop (mkF m 272 #[.val (.int p1), .val (.int p2), .val (.int p3), .val (.int (p1 &&& (1073741823 : Int32))), .val (.int ((((p1 &&& (1073741823 : Int32)) + (1 : Int32)) + (p2 &&& (536870911 : Int32))) &&& (1073741823 : Int32))), .val (.int (Int32.ofNat va)), .val (.int (Int32.ofNat vb)), .val (.int (Int32.ofNat vc)), .val (.int (Int32.ofNat vd)), .val (.int (Int32.ofNat ve)), .val (.int (Int32.ofNat vf)), .val (.ref cs), .val (.ref T179.heap.size), .val (.ref T193.heap.size), .val (.int (1 : Int32)), .unset] [(.int (1 : Int32)), (.ref T193.heap.size)])) _
        refine XS.goto X201.here hx rfl (pc0 := 272) (pc' := 276) rfl (hb hby at_272) (by decide) (by decide) ?_
        show Steps p.tables e below (T201.setTop (mkF m 276 #[.val (.int p1), .val (.int p2), .val (.int p3), .val (.int (p1 &&& (1073741823 : Int32))), .val (.int ((((p1 &&& (1073741823 : Int32)) + (1 : Int32)) + (p2 &&& (536870911 : Int32))) &&& (1073741823 : Int32))), .val (.int (Int32.ofNat va)), .val (.int (Int32.ofNat vb)), .val (.int (Int32.ofNat vc)), .val (.int (Int32.ofNat vd)), .val (.int (Int32.ofNat ve)), .val (.int (Int32.ofNat vf)), .val (.ref cs), .val (.ref T179.heap.size), .val (.ref T193.heap.size), .val (.int (1 : Int32)), .unset] [(.int (1 : Int32)), (.ref T193.heap.size)])) _
        rw [if_neg hd263, if_pos hd268] at h_w0
        subst h_w0
        exact kZ
      · skip
        refine XS.ifYes X201.here hx rfl (pc0 := 268) (pc' := 275) rfl (hb hby at_268) rfl ((if0 _ _).trans (feq hd268).2) (by decide) (by decide) ?_
        show Steps p.tables e below (T201.setTop (mkF m 275 #[.val (.int p1), .val (.int p2), .val (.int p3), .val (.int (p1 &&& (1073741823 : Int32))), .val (.int ((((p1 &&& (1073741823 : Int32)) + (1 : Int32)) + (p2 &&& (536870911 : Int32))) &&& (1073741823 : Int32))), .val (.int (Int32.ofNat va)), .val (.int (Int32.ofNat vb)), .val (.int (Int32.ofNat vc)), .val (.int (Int32.ofNat vd)), .val (.int (Int32.ofNat ve)), .val (.int (Int32.ofNat vf)), .val (.ref cs), .val (.ref T179.heap.size), .val (.ref T193.heap.size), .val (.int (1 : Int32)), .unset] [(.ref T193.heap.size)])) _
        refine XS.iconst X201.here hx rfl (hb hby at_275) ?_
        show Steps p.tables e below (T201.setTop (mkF m 276 #[.val (.int p1), .val (.int p2), .val (.int p3), .val (.int (p1 &&& (1073741823 : Int32))), .val (.int ((((p1 &&& (1073741823 : Int32)) + (1 : Int32)) + (p2 &&& (536870911 : Int32))) &&& (1073741823 : Int32))), .val (.int (Int32.ofNat va)), .val (.int (Int32.ofNat vb)), .val (.int (Int32.ofNat vc)), .val (.int (Int32.ofNat vd)), .val (.int (Int32.ofNat ve)), .val (.int (Int32.ofNat vf)), .val (.ref cs), .val (.ref T179.heap.size), .val (.ref T193.heap.size), .val (.int (1 : Int32)), .unset] [(.int (0 : Int32)), (.ref T193.heap.size)])) _
        rw [if_neg hd263, if_neg hd268] at h_w0
        subst h_w0
        exact kZ
  show own_R p.tables e below _ (T201.setTop (mkF m 276 #[.val (.int p1), .val (.int p2), .val (.int p3), .val (.int (p1 &&& (1073741823 : Int32))), .val (.int ((((p1 &&& (1073741823 : Int32)) + (1 : Int32)) + (p2 &&& (536870911 : Int32))) &&& (1073741823 : Int32))), .val (.int (Int32.ofNat va)), .val (.int (Int32.ofNat vb)), .val (.int (Int32.ofNat vc)), .val (.int (Int32.ofNat vd)), .val (.int (Int32.ofNat ve)), .val (.int (Int32.ofNat vf)), .val (.ref cs), .val (.ref T179.heap.size), .val (.ref T193.heap.size), .val (.int (1 : Int32)), .unset] [(.int w0), (.ref T193.heap.size)]))
  refine own_by (fun _ kZ => XS.iload X201.here hx rfl (hb hby at_276) rfl kZ) ?_
  show own_R p.tables e below _ (T201.setTop (mkF m 278 #[.val (.int p1), .val (.int p2), .val (.int p3), .val (.int (p1 &&& (1073741823 : Int32))), .val (.int ((((p1 &&& (1073741823 : Int32)) + (1 : Int32)) + (p2 &&& (536870911 : Int32))) &&& (1073741823 : Int32))), .val (.int (Int32.ofNat va)), .val (.int (Int32.ofNat vb)), .val (.int (Int32.ofNat vc)), .val (.int (Int32.ofNat vd)), .val (.int (Int32.ofNat ve)), .val (.int (Int32.ofNat vf)), .val (.ref cs), .val (.ref T179.heap.size), .val (.ref T193.heap.size), .val (.int (1 : Int32)), .unset] [(.int (Int32.ofNat ve)), (.int w0), (.ref T193.heap.size)]))
  refine own_by (fun _ kZ => XS.iconst X201.here hx rfl (hb hby at_278) kZ) ?_
  show own_R p.tables e below _ (T201.setTop (mkF m 279 #[.val (.int p1), .val (.int p2), .val (.int p3), .val (.int (p1 &&& (1073741823 : Int32))), .val (.int ((((p1 &&& (1073741823 : Int32)) + (1 : Int32)) + (p2 &&& (536870911 : Int32))) &&& (1073741823 : Int32))), .val (.int (Int32.ofNat va)), .val (.int (Int32.ofNat vb)), .val (.int (Int32.ofNat vc)), .val (.int (Int32.ofNat vd)), .val (.int (Int32.ofNat ve)), .val (.int (Int32.ofNat vf)), .val (.ref cs), .val (.ref T179.heap.size), .val (.ref T193.heap.size), .val (.int (1 : Int32)), .unset] [(.int (1 : Int32)), (.int (Int32.ofNat ve)), (.int w0), (.ref T193.heap.size)]))
  obtain ⟨w1, h_w1⟩ : ∃ z : Int32, z = (if (Int32.ofNat ve) = (1 : Int32) then (1 : Int32) else (if (Int32.ofNat vf) = (1 : Int32) then (1 : Int32) else (0 : Int32))) := ⟨_, rfl⟩
  refine own_by (S' := T201.setTop (mkF m 293 #[.val (.int p1), .val (.int p2), .val (.int p3), .val (.int (p1 &&& (1073741823 : Int32))), .val (.int ((((p1 &&& (1073741823 : Int32)) + (1 : Int32)) + (p2 &&& (536870911 : Int32))) &&& (1073741823 : Int32))), .val (.int (Int32.ofNat va)), .val (.int (Int32.ofNat vb)), .val (.int (Int32.ofNat vc)), .val (.int (Int32.ofNat vd)), .val (.int (Int32.ofNat ve)), .val (.int (Int32.ofNat vf)), .val (.ref cs), .val (.ref T179.heap.size), .val (.ref T193.heap.size), .val (.int (1 : Int32)), .unset] [(.int w1), (.int w0), (.ref T193.heap.size)])) (fun _ kZ => ?_) ?_
  · skip
    show Steps p.tables e below (T201.setTop (mkF m 279 #[.val (.int p1), .val (.int p2), .val (.int p3), .val (.int (p1 &&& (1073741823 : Int32))), .val (.int ((((p1 &&& (1073741823 : Int32)) + (1 : Int32)) + (p2 &&& (536870911 : Int32))) &&& (1073741823 : Int32))), .val (.int (Int32.ofNat va)), .val (.int (Int32.ofNat vb)), .val (.int (Int32.ofNat vc)), .val (.int (Int32.ofNat vd)), .val (.int (Int32.ofNat ve)), .val (.int (Int32.ofNat vf)), .val (.ref cs), .val (.ref T179.heap.size), .val (.ref T193.heap.size), .val (.int (1 : Int32)), .unset] [(.int (1 : Int32)), (.int (Int32.ofNat ve)), (.int w0), (.ref T193.heap.size)])) _
    by_cases hd279 : (Int32.ofNat ve) = (1 : Int32)
    · skip
      refine XS.icmpYes X201.here hx rfl (pc0 := 279) (pc' := 288) rfl (hb hby at_279) rfl (teq hd279).1 (by decide) (by decide) ?_
      show Steps p.tables e below (T201.setTop (mkF m 288 #[.val (.int p1), .val (.int p2), .val (.int p3), .val (.int (p1 &&& (1073741823 : Int32))), .val (.int ((((p1 &&& (1073741823 : Int32)) + (1 : Int32)) + (p2 &&& (536870911 : Int32))) &&& (1073741823 : Int32))), .val (.int (Int32.ofNat va)), .val (.int (Int32.ofNat vb)), .val (.int (Int32.ofNat vc)), .val (.int (Int32.ofNat vd)), .val (.int (Int32.ofNat ve)), .val (.int (Int32.ofNat vf)), .val (.ref cs), .val (.ref T179.heap.size), .val (.ref T193.heap.size), .val (.int (1 : Int32)), .unset] [(.int w0), (.ref T193.heap.size)])) _
      refine XS.iconst X201.here hx rfl (hb hby at_288) ?_
      show Steps p.tables e below (T201.setTop (mkF m 289 #[.val (.int p1), .val (.int p2), .val (.int p3), .val (.int (p1 &&& (1073741823 : Int32))), .val (.int ((((p1 &&& (1073741823 : Int32)) + (1 : Int32)) + (p2 &&& (536870911 : Int32))) &&& (1073741823 : Int32))), .val (.int (Int32.ofNat va)), .val (.int (Int32.ofNat vb)), .val (.int (Int32.ofNat vc)), .val (.int (Int32.ofNat vd)), .val (.int (Int32.ofNat ve)), .val (.int (Int32.ofNat vf)), .val (.ref cs), .val (.ref T179.heap.size), .val (.ref T193.heap.size), .val (.int (1 : Int32)), .unset] [(.int (1 : Int32)), (.int w0), (.ref T193.heap.size)])) _
      refine XS.goto X201.here hx rfl (pc0 := 289) (pc' := 293) rfl (hb hby at_289) (by decide) (by decide) ?_
      show Steps p.tables e below (T201.setTop (mkF m 293 #[.val (.int p1), .val (.int p2), .val (.int p3), .val (.int (p1 &&& (1073741823 : Int32))), .val (.int ((((p1 &&& (1073741823 : Int32)) + (1 : Int32)) + (p2 &&& (536870911 : Int32))) &&& (1073741823 : Int32))), .val (.int (Int32.ofNat va)), .val (.int (Int32.ofNat vb)), .val (.int (Int32.ofNat vc)), .val (.int (Int32.ofNat vd)), .val (.int (Int32.ofNat ve)), .val (.int (Int32.ofNat vf)), .val (.ref cs), .val (.ref T179.heap.size), .val (.ref T193.heap.size), .val (.int (1 : Int32)), .unset] [(.int (1 : Int32)), (.int w0), (.ref T193.heap.size)])) _
      rw [if_pos hd279] at h_w1
      subst h_w1
      exact kZ
    · skip
      refine XS.icmpNo X201.here hx rfl (hb hby at_279) rfl (feq hd279).1 ?_
      show Steps p.tables e below (T201.setTop (mkF m 282 #[.val (.int p1), .val (.int p2), .val (.int p3), .val (.int (p1 &&& (1073741823 : Int32))), .val (.int ((((p1 &&& (1073741823 : Int32)) + (1 : Int32)) + (p2 &&& (536870911 : Int32))) &&& (1073741823 : Int32))), .val (.int (Int32.ofNat va)), .val (.int (Int32.ofNat vb)), .val (.int (Int32.ofNat vc)), .val (.int (Int32.ofNat vd)), .val (.int (Int32.ofNat ve)), .val (.int (Int32.ofNat vf)), .val (.ref cs), .val (.ref T179.heap.size), .val (.ref T193.heap.size), .val (.int (1 : Int32)), .unset] [(.int w0), (.ref T193.heap.size)])) _
      refine XS.iload X201.here hx rfl (hb hby at_282) rfl ?_
      show Steps p.tables e below (T201.setTop (mkF m 284 #[.val (.int p1), .val (.int p2), .val (.int p3), .val (.int (p1 &&& (1073741823 : Int32))), .val (.int ((((p1 &&& (1073741823 : Int32)) + (1 : Int32)) + (p2 &&& (536870911 : Int32))) &&& (1073741823 : Int32))), .val (.int (Int32.ofNat va)), .val (.int (Int32.ofNat vb)), .val (.int (Int32.ofNat vc)), .val (.int (Int32.ofNat vd)), .val (.int (Int32.ofNat ve)), .val (.int (Int32.ofNat vf)), .val (.ref cs), .val (.ref T179.heap.size), .val (.ref T193.heap.size), .val (.int (1 : Int32)), .unset] [(.int (Int32.ofNat vf)), (.int w0), (.ref T193.heap.size)])) _
      refine XS.iconst X201.here hx rfl (hb hby at_284) ?_
      show Steps p.tables e below (T201.setTop (mkF m 285 #[.val (.int p1), .val (.int p2), .val (.int p3), .val (.int (p1 &&& (1073741823 : Int32))), .val (.int ((((p1 &&& (1073741823 : Int32)) + (1 : Int32)) + (p2 &&& (536870911 : Int32))) &&& (1073741823 : Int32))), .val (.int (Int32.ofNat va)), .val (.int (Int32.ofNat vb)), .val (.int (Int32.ofNat vc)), .val (.int (Int32.ofNat vd)), .val (.int (Int32.ofNat ve)), .val (.int (Int32.ofNat vf)), .val (.ref cs), .val (.ref T179.heap.size), .val (.ref T193.heap.size), .val (.int (1 : Int32)), .unset] [(.int (1 : Int32)), (.int (Int32.ofNat vf)), (.int w0), (.ref T193.heap.size)])) _
      by_cases hd285 : (Int32.ofNat vf) = (1 : Int32)
      · skip
        refine XS.icmpNo X201.here hx rfl (hb hby at_285) rfl (teq hd285).2 ?_
        show Steps p.tables e below (T201.setTop (mkF m 288 #[.val (.int p1), .val (.int p2), .val (.int p3), .val (.int (p1 &&& (1073741823 : Int32))), .val (.int ((((p1 &&& (1073741823 : Int32)) + (1 : Int32)) + (p2 &&& (536870911 : Int32))) &&& (1073741823 : Int32))), .val (.int (Int32.ofNat va)), .val (.int (Int32.ofNat vb)), .val (.int (Int32.ofNat vc)), .val (.int (Int32.ofNat vd)), .val (.int (Int32.ofNat ve)), .val (.int (Int32.ofNat vf)), .val (.ref cs), .val (.ref T179.heap.size), .val (.ref T193.heap.size), .val (.int (1 : Int32)), .unset] [(.int w0), (.ref T193.heap.size)])) _
        refine XS.iconst X201.here hx rfl (hb hby at_288) ?_
        show Steps p.tables e below (T201.setTop (mkF m 289 #[.val (.int p1), .val (.int p2), .val (.int p3), .val (.int (p1 &&& (1073741823 : Int32))), .val (.int ((((p1 &&& (1073741823 : Int32)) + (1 : Int32)) + (p2 &&& (536870911 : Int32))) &&& (1073741823 : Int32))), .val (.int (Int32.ofNat va)), .val (.int (Int32.ofNat vb)), .val (.int (Int32.ofNat vc)), .val (.int (Int32.ofNat vd)), .val (.int (Int32.ofNat ve)), .val (.int (Int32.ofNat vf)), .val (.ref cs), .val (.ref T179.heap.size), .val (.ref T193.heap.size), .val (.int (1 : Int32)), .unset] [(.int (1 : Int32)), (.int w0), (.ref T193.heap.size)])) _
        refine XS.goto X201.here hx rfl (pc0 := 289) (pc' := 293) rfl (hb hby at_289) (by decide) (by decide) ?_
        show Steps p.tables e below (T201.setTop (mkF m 293 #[.val (.int p1), .val (.int p2), .val (.int p3), .val (.int (p1 &&& (1073741823 : Int32))), .val (.int ((((p1 &&& (1073741823 : Int32)) + (1 : Int32)) + (p2 &&& (536870911 : Int32))) &&& (1073741823 : Int32))), .val (.int (Int32.ofNat va)), .val (.int (Int32.ofNat vb)), .val (.int (Int32.ofNat vc)), .val (.int (Int32.ofNat vd)), .val (.int (Int32.ofNat ve)), .val (.int (Int32.ofNat vf)), .val (.ref cs), .val (.ref T179.heap.size), .val (.ref T193.heap.size), .val (.int (1 : Int32)), .unset] [(.int (1 : Int32)), (.int w0), (.ref T193.heap.size)])) _
        rw [if_neg hd279, if_pos hd285] at h_w1
        subst h_w1
        exact kZ
      · skip
        refine XS.icmpYes X201.here hx rfl (pc0 := 285) (pc' := 292) rfl (hb hby at_285) rfl (feq hd285).2 (by decide) (by decide) ?_
        show Steps p.tables e below (T201.setTop (mkF m 292 #[.val (.int p1), .val (.int p2), .val (.int p3), .val (.int (p1 &&& (1073741823 : Int32))), .val (.int ((((p1 &&& (1073741823 : Int32)) + (1 : Int32)) + (p2 &&& (536870911 : Int32))) &&& (1073741823 : Int32))), .val (.int (Int32.ofNat va)), .val (.int (Int32.ofNat vb)), .val (.int (Int32.ofNat vc)), .val (.int (Int32.ofNat vd)), .val (.int (Int32.ofNat ve)), .val (.int (Int32.ofNat vf)), .val (.ref cs), .val (.ref T179.heap.size), .val (.ref T193.heap.size), .val (.int (1 : Int32)), .unset] [(.int w0), (.ref T193.heap.size)])) _
        refine XS.iconst X201.here hx rfl (hb hby at_292) ?_
        show Steps p.tables e below (T201.setTop (mkF m 293 #[.val (.int p1), .val (.int p2), .val (.int p3), .val (.int (p1 &&& (1073741823 : Int32))), .val (.int ((((p1 &&& (1073741823 : Int32)) + (1 : Int32)) + (p2 &&& (536870911 : Int32))) &&& (1073741823 : Int32))), .val (.int (Int32.ofNat va)), .val (.int (Int32.ofNat vb)), .val (.int (Int32.ofNat vc)), .val (.int (Int32.ofNat vd)), .val (.int (Int32.ofNat ve)), .val (.int (Int32.ofNat vf)), .val (.ref cs), .val (.ref T179.heap.size), .val (.ref T193.heap.size), .val (.int (1 : Int32)), .unset] [(.int (0 : Int32)), (.int w0), (.ref T193.heap.size)])) _
        rw [if_neg hd279, if_neg hd285] at h_w1
        subst h_w1
        exact kZ
  show own_R p.tables e below _ (T201.setTop (mkF m 293 #[.val (.int p1), .val (.int p2), .val (.int p3), .val (.int (p1 &&& (1073741823 : Int32))), .val (.int ((((p1 &&& (1073741823 : Int32)) + (1 : Int32)) + (p2 &&& (536870911 : Int32))) &&& (1073741823 : Int32))), .val (.int (Int32.ofNat va)), .val (.int (Int32.ofNat vb)), .val (.int (Int32.ofNat vc)), .val (.int (Int32.ofNat vd)), .val (.int (Int32.ofNat ve)), .val (.int (Int32.ofNat vf)), .val (.ref cs), .val (.ref T179.heap.size), .val (.ref T193.heap.size), .val (.int (1 : Int32)), .unset] [(.int w1), (.int w0), (.ref T193.heap.size)]))
  refine own_by (fun _ kZ => XS.iload X201.here hx rfl (hb hby at_293) rfl kZ) ?_
  show own_R p.tables e below _ (T201.setTop (mkF m 295 #[.val (.int p1), .val (.int p2), .val (.int p3), .val (.int (p1 &&& (1073741823 : Int32))), .val (.int ((((p1 &&& (1073741823 : Int32)) + (1 : Int32)) + (p2 &&& (536870911 : Int32))) &&& (1073741823 : Int32))), .val (.int (Int32.ofNat va)), .val (.int (Int32.ofNat vb)), .val (.int (Int32.ofNat vc)), .val (.int (Int32.ofNat vd)), .val (.int (Int32.ofNat ve)), .val (.int (Int32.ofNat vf)), .val (.ref cs), .val (.ref T179.heap.size), .val (.ref T193.heap.size), .val (.int (1 : Int32)), .unset] [(.int (Int32.ofNat ve)), (.int w1), (.int w0), (.ref T193.heap.size)]))
  refine own_by (fun _ kZ => XS.iconst X201.here hx rfl (hb hby at_295) kZ) ?_
  show own_R p.tables e below _ (T201.setTop (mkF m 296 #[.val (.int p1), .val (.int p2), .val (.int p3), .val (.int (p1 &&& (1073741823 : Int32))), .val (.int ((((p1 &&& (1073741823 : Int32)) + (1 : Int32)) + (p2 &&& (536870911 : Int32))) &&& (1073741823 : Int32))), .val (.int (Int32.ofNat va)), .val (.int (Int32.ofNat vb)), .val (.int (Int32.ofNat vc)), .val (.int (Int32.ofNat vd)), .val (.int (Int32.ofNat ve)), .val (.int (Int32.ofNat vf)), .val (.ref cs), .val (.ref T179.heap.size), .val (.ref T193.heap.size), .val (.int (1 : Int32)), .unset] [(.int (2 : Int32)), (.int (Int32.ofNat ve)), (.int w1), (.int w0), (.ref T193.heap.size)]))
  obtain ⟨w2, h_w2⟩ : ∃ z : Int32, z = (if (Int32.ofNat ve) = (2 : Int32) then (1 : Int32) else (if (Int32.ofNat vf) = (2 : Int32) then (1 : Int32) else (0 : Int32))) := ⟨_, rfl⟩
  refine own_by (S' := T201.setTop (mkF m 310 #[.val (.int p1), .val (.int p2), .val (.int p3), .val (.int (p1 &&& (1073741823 : Int32))), .val (.int ((((p1 &&& (1073741823 : Int32)) + (1 : Int32)) + (p2 &&& (536870911 : Int32))) &&& (1073741823 : Int32))), .val (.int (Int32.ofNat va)), .val (.int (Int32.ofNat vb)), .val (.int (Int32.ofNat vc)), .val (.int (Int32.ofNat vd)), .val (.int (Int32.ofNat ve)), .val (.int (Int32.ofNat vf)), .val (.ref cs), .val (.ref T179.heap.size), .val (.ref T193.heap.size), .val (.int (1 : Int32)), .unset] [(.int w2), (.int w1), (.int w0), (.ref T193.heap.size)])) (fun _ kZ => ?_) ?_
  · skip
    show Steps p.tables e below (T201.setTop (mkF m 296 #[.val (.int p1), .val (.int p2), .val (.int p3), .val (.int (p1 &&& (1073741823 : Int32))), .val (.int ((((p1 &&& (1073741823 : Int32)) + (1 : Int32)) + (p2 &&& (536870911 : Int32))) &&& (1073741823 : Int32))), .val (.int (Int32.ofNat va)), .val (.int (Int32.ofNat vb)), .val (.int (Int32.ofNat vc)), .val (.int (Int32.ofNat vd)), .val (.int (Int32.ofNat ve)), .val (.int (Int32.ofNat vf)), .val (.ref cs), .val (.ref T179.heap.size), .val (.ref T193.heap.size), .val (.int (1 : Int32)), .unset] [(.int (2 : Int32)), (.int (Int32.ofNat ve)), (.int w1), (.int w0), (.ref T193.heap.size)])) _
    by_cases hd296 : (Int32.ofNat ve) = (2 : Int32)
    · skip
      refine XS.icmpYes X201.here hx rfl (pc0 := 296) (pc' := 305) rfl (hb hby at_296) rfl (teq hd296).1 (by decide) (by decide) ?_
      show Steps p.tables e below (T201.setTop (mkF m 305 #[.val (.int p1), .val (.int p2), .val (.int p3), .val (.int (p1 &&& (1073741823 : Int32))), .val (.int ((((p1 &&& (1073741823 : Int32)) + (1 : Int32)) + (p2 &&& (536870911 : Int32))) &&& (1073741823 : Int32))), .val (.int (Int32.ofNat va)), .val (.int (Int32.ofNat vb)), .val (.int (Int32.ofNat vc)), .val (.int (Int32.ofNat vd)), .val (.int (Int32.ofNat ve)), .val (.int (Int32.ofNat vf)), .val (.ref cs), .val (.ref T179.heap.size), .val (.ref T193.heap.size), .val (.int (1 : Int32)), .unset] [(.int w1), (.int w0), (.ref T193.heap.size)])) _
      refine XS.iconst X201.here hx rfl (hb hby at_305) ?_
      show Steps p.tables e below (T201.setTop (mkF m 306 #[.val (.int p1), .val (.int p2), .val (.int p3), .val (.int (p1 &&& (1073741823 : Int32))), .val (.int ((((p1 &&& (1073741823 : Int32)) + (1 : Int32)) + (p2 &&& (536870911 : Int32))) &&& (1073741823 : Int32))), .val (.int (Int32.ofNat va)), .val (.int (Int32.ofNat vb)), .val (.int (Int32.ofNat vc)), .val (.int (Int32.ofNat vd)), .val (.int (Int32.ofNat ve)), .val (.int (Int32.ofNat vf)), .val (.ref cs), .val (.ref T179.heap.size), .val (.ref T193.heap.size), .val (.int (1 : Int32)), .unset] [(.int (1 : Int32)), (.int w1), (.int w0), (.ref T193.heap.size)])) _
      refine XS.goto X201.here hx rfl (pc0 := 306) (pc' := 310) rfl (hb hby at_306) (by decide) (by decide) ?_
      show Steps p.tables e below (T201.setTop (mkF m 310 #[.val (.int p1), .val (.int p2), .val (.int p3), .val (.int (p1 &&& (1073741823 : Int32))), .val (.int ((((p1 &&& (1073741823 : Int32)) + (1 : Int32)) + (p2 &&& (536870911 : Int32))) &&& (1073741823 : Int32))), .val (.int (Int32.ofNat va)), .val (.int (Int32.ofNat vb)), .val (.int (Int32.ofNat vc)), .val (.int (Int32.ofNat vd)), .val (.int (Int32.ofNat ve)), .val (.int (Int32.ofNat vf)), .val (.ref cs), .val (.ref T179.heap.size), .val (.ref T193.heap.size), .val (.int (1 : Int32)), .unset] [(.int (1 : Int32)), (.int w1), (.int w0), (.ref T193.heap.size)])) _
      rw [if_pos hd296] at h_w2
      subst h_w2
      exact kZ
    · skip
      refine XS.icmpNo X201.here hx rfl (hb hby at_296) rfl (feq hd296).1 ?_
      show Steps p.tables e below (T201.setTop (mkF m 299 #[.val (.int p1), .val (.int p2), .val (.int p3), .val (.int (p1 &&& (1073741823 : Int32))), .val (.int ((((p1 &&& (1073741823 : Int32)) + (1 : Int32)) + (p2 &&& (536870911 : Int32))) &&& (1073741823 : Int32))), .val (.int (Int32.ofNat va)), .val (.int (Int32.ofNat vb)), .val (.int (Int32.ofNat vc)), .val (.int (Int32.ofNat vd)), .val (.int (Int32.ofNat ve)), .val (.int (Int32.ofNat vf)), .val (.ref cs), .val (.ref T179.heap.size), .val (.ref T193.heap.size), .val (.int (1 : Int32)), .unset] [(.int w1), (.int w0), (.ref T193.heap.size)])) _
      refine XS.iload X201.here hx rfl (hb hby at_299) rfl ?_
      show Steps p.tables e below (T201.setTop (mkF m 301 #[.val (.int p1), .val (.int p2), .val (.int p3), .val (.int (p1 &&& (1073741823 : Int32))), .val (.int ((((p1 &&& (1073741823 : Int32)) + (1 : Int32)) + (p2 &&& (536870911 : Int32))) &&& (1073741823 : Int32))), .val (.int (Int32.ofNat va)), .val (.int (Int32.ofNat vb)), .val (.int (Int32.ofNat vc)), .val (.int (Int32.ofNat vd)), .val (.int (Int32.ofNat ve)), .val (.int (Int32.ofNat vf)), .val (.ref cs), .val (.ref T179.heap.size), .val (.ref T193.heap.size), .val (.int (1 : Int32)), .unset] [(.int (Int32.ofNat vf)), (.int w1), (.int w0), (.ref T193.heap.size)])) _
      refine XS.iconst X201.here hx rfl (hb hby at_301) ?_
      show Steps p.tables e below (T201.setTop (mkF m 302 #[.val (.int p1), .val (.int p2), .val (.int p3), .val (.int (p1 &&& (1073741823 : Int32))), .val (.int ((((p1 &&& (1073741823 : Int32)) + (1 : Int32)) + (p2 &&& (536870911 : Int32))) &&& (1073741823 : Int32))), .val (.int (Int32.ofNat va)), .val (.int (Int32.ofNat vb)), .val (.int (Int32.ofNat vc)), .val (.int (Int32.ofNat vd)), .val (.int (Int32.ofNat ve)), .val (.int (Int32.ofNat vf)), .val (.ref cs), .val (.ref T179.heap.size), .val (.ref T193.heap.size), .val (.int (1 : Int32)), .unset] [(.int (2 : Int32)), (.int (Int32.ofNat vf)), (.int w1), (.int w0), (.ref T193.heap.size)])) _
      by_cases hd302 : (Int32.ofNat vf) = (2 : Int32)
      · skip
        refine XS.icmpNo X201.here hx rfl (hb hby at_302) rfl (teq hd302).2 ?_
        show Steps p.tables e below (T201.setTop (mkF m 305 #[.val (.int p1), .val (.int p2), .val (.int p3), .val (.int (p1 &&& (1073741823 : Int32))), .val (.int ((((p1 &&& (1073741823 : Int32)) + (1 : Int32)) + (p2 &&& (536870911 : Int32))) &&& (1073741823 : Int32))), .val (.int (Int32.ofNat va)), .val (.int (Int32.ofNat vb)), .val (.int (Int32.ofNat vc)), .val (.int (Int32.ofNat vd)), .val (.int (Int32.ofNat ve)), .val (.int (Int32.ofNat vf)), .val (.ref cs), .val (.ref T179.heap.size), .val (.ref T193.heap.size), .val (.int (1 : Int32)), .unset] [(.int w1), (.int w0), (.ref T193.heap.size)])) _
        refine XS.iconst X201.here hx rfl (hb hby at_305) ?_
        show Steps p.tables e below (T201.setTop (mkF m 306 #[.val (.int p1), .val (.int p2), .val (.int p3), .val (.int (p1 &&& (1073741823 : Int32))), .val (.int ((((p1 &&& (1073741823 : Int32)) + (1 : Int32)) + (p2 &&& (536870911 : Int32))) &&& (1073741823 : Int32))), .val (.int (Int32.ofNat va)), .val (.int (Int32.ofNat vb)), .val (.int (Int32.ofNat vc)), .val (.int (Int32.ofNat vd)), .val (.int (Int32.ofNat ve)), .val (.int (Int32.ofNat vf)), .val (.ref cs), .val (.ref T179.heap.size), .val (.ref T193.heap.size), .val (.int (1 : Int32)), .unset] [(.int (1 : Int32)), (.int w1), (.int w0), (.ref T193.heap.size)])) _
        refine XS.goto X201.here hx rfl (pc0 := 306) (pc' := 310) rfl (hb hby at_306) (by decide) (by decide) ?_
        show Steps p.tables e below (T201.setTop (mkF m 310 #[.val (.int p1), .val (.int p2), .val (.int p3), .val (.int (p1 &&& (1073741823 : Int32))), .val (.int ((((p1 &&& (1073741823 : Int32)) + (1 : Int32)) + (p2 &&& (536870911 : Int32))) &&& (1073741823 : Int32))), .val (.int (Int32.ofNat va)), .val (.int (Int32.ofNat vb)), .val (.int (Int32.ofNat vc)), .val (.int (Int32.ofNat vd)), .val (.int (Int32.ofNat ve)), .val (.int (Int32.ofNat vf)), .val (.ref cs), .val (.ref T179.heap.size), .val (.ref T193.heap.size), .val (.int (1 : Int32)), .unset] [(.int (1 : Int32)), (.int w1), (.int w0), (.ref T193.heap.size)])) _
        rw [if_neg hd296, if_pos hd302] at h_w2
        subst h_w2
        exact kZ
      · skip
        refine XS.icmpYes X201.here hx rfl (pc0 := 302) (pc' := 309) rfl (hb hby at_302) rfl (feq hd302).2 (by decide) (by decide) ?_
        show Steps p.tables e below (T201.setTop (mkF m 309 #[.val (.int p1), .val (.int p2), .val (.int p3), .val (.int (p1 &&& (1073741823 : Int32))), .val (.int ((((p1 &&& (1073741823 : Int32)) + (1 : Int32)) + (p2 &&& (536870911 : Int32))) &&& (1073741823 : Int32))), .val (.int (Int32.ofNat va)), .val (.int (Int32.ofNat vb)), .val (.int (Int32.ofNat vc)), .val (.int (Int32.ofNat vd)), .val (.int (Int32.ofNat ve)), .val (.int (Int32.ofNat vf)), .val (.ref cs), .val (.ref T179.heap.size), .val (.ref T193.heap.size), .val (.int (1 : Int32)), .unset] [(.int w1), (.int w0), (.ref T193.heap.size)])) _
        refine XS.iconst X201.here hx rfl (hb hby at_309) ?_
        show Steps p.tables e below (T201.setTop (mkF m 310 #[.val (.int p1), .val (.int p2), .val (.int p3), .val (.int (p1 &&& (1073741823 : Int32))), .val (.int ((((p1 &&& (1073741823 : Int32)) + (1 : Int32)) + (p2 &&& (536870911 : Int32))) &&& (1073741823 : Int32))), .val (.int (Int32.ofNat va)), .val (.int (Int32.ofNat vb)), .val (.int (Int32.ofNat vc)), .val (.int (Int32.ofNat vd)), .val (.int (Int32.ofNat ve)), .val (.int (Int32.ofNat vf)), .val (.ref cs), .val (.ref T179.heap.size), .val (.ref T193.heap.size), .val (.int (1 : Int32)), .unset] [(.int (0 : Int32)), (.int w1), (.int w0), (.ref T193.heap.size)])) _
        rw [if_neg hd296, if_neg hd302] at h_w2
        subst h_w2
        exact kZ
  show own_R p.tables e below _ (T201.setTop (mkF m 310 #[.val (.int p1), .val (.int p2), .val (.int p3), .val (.int (p1 &&& (1073741823 : Int32))), .val (.int ((((p1 &&& (1073741823 : Int32)) + (1 : Int32)) + (p2 &&& (536870911 : Int32))) &&& (1073741823 : Int32))), .val (.int (Int32.ofNat va)), .val (.int (Int32.ofNat vb)), .val (.int (Int32.ofNat vc)), .val (.int (Int32.ofNat vd)), .val (.int (Int32.ofNat ve)), .val (.int (Int32.ofNat vf)), .val (.ref cs), .val (.ref T179.heap.size), .val (.ref T193.heap.size), .val (.int (1 : Int32)), .unset] [(.int w2), (.int w1), (.int w0), (.ref T193.heap.size)]))
  refine own_by (fun _ kZ => XS.iload X201.here hx rfl (hb hby at_310) rfl kZ) ?_
  show own_R p.tables e below _ (T201.setTop (mkF m 312 #[.val (.int p1), .val (.int p2), .val (.int p3), .val (.int (p1 &&& (1073741823 : Int32))), .val (.int ((((p1 &&& (1073741823 : Int32)) + (1 : Int32)) + (p2 &&& (536870911 : Int32))) &&& (1073741823 : Int32))), .val (.int (Int32.ofNat va)), .val (.int (Int32.ofNat vb)), .val (.int (Int32.ofNat vc)), .val (.int (Int32.ofNat vd)), .val (.int (Int32.ofNat ve)), .val (.int (Int32.ofNat vf)), .val (.ref cs), .val (.ref T179.heap.size), .val (.ref T193.heap.size), .val (.int (1 : Int32)), .unset] [(.int (Int32.ofNat ve)), (.int w2), (.int w1), (.int w0), (.ref T193.heap.size)]))
  refine own_by (fun _ kZ => XS.iconst X201.here hx rfl (hb hby at_312) kZ) ?_
  show own_R p.tables e below _ (T201.setTop (mkF m 313 #[.val (.int p1), .val (.int p2), .val (.int p3), .val (.int (p1 &&& (1073741823 : Int32))), .val (.int ((((p1 &&& (1073741823 : Int32)) + (1 : Int32)) + (p2 &&& (536870911 : Int32))) &&& (1073741823 : Int32))), .val (.int (Int32.ofNat va)), .val (.int (Int32.ofNat vb)), .val (.int (Int32.ofNat vc)), .val (.int (Int32.ofNat vd)), .val (.int (Int32.ofNat ve)), .val (.int (Int32.ofNat vf)), .val (.ref cs), .val (.ref T179.heap.size), .val (.ref T193.heap.size), .val (.int (1 : Int32)), .unset] [(.int (3 : Int32)), (.int (Int32.ofNat ve)), (.int w2), (.int w1), (.int w0), (.ref T193.heap.size)]))
  obtain ⟨w3, h_w3⟩ : ∃ z : Int32, z = (if (Int32.ofNat ve) = (3 : Int32) then (1 : Int32) else (if (Int32.ofNat vf) = (3 : Int32) then (1 : Int32) else (0 : Int32))) := ⟨_, rfl⟩
  refine own_by (S' := T201.setTop (mkF m 327 #[.val (.int p1), .val (.int p2), .val (.int p3), .val (.int (p1 &&& (1073741823 : Int32))), .val (.int ((((p1 &&& (1073741823 : Int32)) + (1 : Int32)) + (p2 &&& (536870911 : Int32))) &&& (1073741823 : Int32))), .val (.int (Int32.ofNat va)), .val (.int (Int32.ofNat vb)), .val (.int (Int32.ofNat vc)), .val (.int (Int32.ofNat vd)), .val (.int (Int32.ofNat ve)), .val (.int (Int32.ofNat vf)), .val (.ref cs), .val (.ref T179.heap.size), .val (.ref T193.heap.size), .val (.int (1 : Int32)), .unset] [(.int w3), (.int w2), (.int w1), (.int w0), (.ref T193.heap.size)])) (fun _ kZ => ?_) ?_
  · skip
    show Steps p.tables e below (T201.setTop (mkF m 313 #[.val (.int p1), .val (.int p2), .val (.int p3), .val (.int (p1 &&& (1073741823 : Int32))), .val (.int ((((p1 &&& (1073741823 : Int32)) + (1 : Int32)) + (p2 &&& (536870911 : Int32))) &&& (1073741823 : Int32))), .val (.int (Int32.ofNat va)), .val (.int (Int32.ofNat vb)), .val (.int (Int32.ofNat vc)), .val (.int (Int32.ofNat vd)), .val (.int (Int32.ofNat ve)), .val (.int (Int32.ofNat vf)), .val (.ref cs), .val (.ref T179.heap.size), .val (.ref T193.heap.size), .val (.int (1 : Int32)), .unset] [(.int (3 : Int32)), (.int (Int32.ofNat ve)), (.int w2), (.int w1), (.int w0), (.ref T193.heap.size)])) _
    by_cases hd313 : (Int32.ofNat ve) = (3 : Int32)
    · skip
      refine XS.icmpYes X201.here hx rfl (pc0 := 313) (pc' := 322) rfl (hb hby at_313) rfl (teq hd313).1 (by decide) (by decide) ?_
      show Steps p.tables e below (T201.setTop (mkF m 322 #[.val (.int p1), .val (.int p2), .val (.int p3), .val (.int (p1 &&& (1073741823 : Int32))), .val (.int ((((p1 &&& (1073741823 : Int32)) + (1 : Int32)) + (p2 &&& (536870911 : Int32))) &&& (1073741823 : Int32))), .val (.int (Int32.ofNat va)), .val (.int (Int32.ofNat vb)), .val (.int (Int32.ofNat vc)), .val (.int (Int32.ofNat vd)), .val (.int (Int32.ofNat ve)), .val (.int (Int32.ofNat vf)), .val (.ref cs), .val (.ref T179.heap.size), .val (.ref T193.heap.size), .val (.int (1 : Int32)), .unset] [(.int w2), (.int w1), (.int w0), (.ref T193.heap.size)])) _
      refine XS.iconst X201.here hx rfl (hb hby at_322) ?_
      show Steps p.tables e below (T201.setTop (mkF m 323 #[.val (.int p1), .val (.int p2), .val (.int p3), .val (.int (p1 &&& (1073741823 : Int32))), .val (.int ((((p1 &&& (1073741823 : Int32)) + (1 : Int32)) + (p2 &&& (536870911 : Int32))) &&& (1073741823 : Int32))), .val (.int (Int32.ofNat va)), .val (.int (Int32.ofNat vb)), .val (.int (Int32.ofNat vc)), .val (.int (Int32.ofNat vd)), .val (.int (Int32.ofNat ve)), .val (.int (Int32.ofNat vf)), .val (.ref cs), .val (.ref T179.heap.size), .val (.ref T193.heap.size), .val (.int (1 : Int32)), .unset] [(.int (1 : Int32)), (.int w2), (.int w1), (.int w0), (.ref T193.heap.size)])) _
      refine XS.goto X201.here hx rfl (pc0 := 323) (pc' := 327) rfl (hb hby at_323) (by decide) (by decide) ?_
      show Steps p.tables e below (T201.setTop (mkF m 327 #[.val (.int p1), .val (.int p2), .val (.int p3), .val (.int (p1 &&& (1073741823 : Int32))), .val (.int ((((p1 &&& (1073741823 : Int32)) + (1 : Int32)) + (p2 &&& (536870911 : Int32))) &&& (1073741823 : Int32))), .val (.int (Int32.ofNat va)), .val (.int (Int32.ofNat vb)), .val (.int (Int32.ofNat vc)), .val (.int (Int32.ofNat vd)), .val (.int (Int32.ofNat ve)), .val (.int (Int32.ofNat vf)), .val (.ref cs), .val (.ref T179.heap.size), .val (.ref T193.heap.size), .val (.int (1 : Int32)), .unset] [(.int (1 : Int32)), (.int w2), (.int w1), (.int w0), (.ref T193.heap.size)])) _
      rw [if_pos hd313] at h_w3
      subst h_w3
      exact kZ
    · skip
      refine XS.icmpNo X201.here hx rfl (hb hby at_313) rfl (feq hd313).1 ?_
      show Steps p.tables e below (T201.setTop (mkF m 316 #[.val (.int p1), .val (.int p2), .val (.int p3), .val (.int (p1 &&& (1073741823 : Int32))), .val (.int ((((p1 &&& (1073741823 : Int32)) + (1 : Int32)) + (p2 &&& (536870911 : Int32))) &&& (1073741823 : Int32))), .val (.int (Int32.ofNat va)), .val (.int (Int32.ofNat vb)), .val (.int (Int32.ofNat vc)), .val (.int (Int32.ofNat vd)), .val (.int (Int32.ofNat ve)), .val (.int (Int32.ofNat vf)), .val (.ref cs), .val (.ref T179.heap.size), .val (.ref T193.heap.size), .val (.int (1 : Int32)), .unset] [(.int w2), (.int w1), (.int w0), (.ref T193.heap.size)])) _
      refine XS.iload X201.here hx rfl (hb hby at_316) rfl ?_
      show Steps p.tables e below (T201.setTop (mkF m 318 #[.val (.int p1), .val (.int p2), .val (.int p3), .val (.int (p1 &&& (1073741823 : Int32))), .val (.int ((((p1 &&& (1073741823 : Int32)) + (1 : Int32)) + (p2 &&& (536870911 : Int32))) &&& (1073741823 : Int32))), .val (.int (Int32.ofNat va)), .val (.int (Int32.ofNat vb)), .val (.int (Int32.ofNat vc)), .val (.int (Int32.ofNat vd)), .val (.int (Int32.ofNat ve)), .val (.int (Int32.ofNat vf)), .val (.ref cs), .val (.ref T179.heap.size), .val (.ref T193.heap.size), .val (.int (1 : Int32)), .unset] [(.int (Int32.ofNat vf)), (.int w2), (.int w1), (.int w0), (.ref T193.heap.size)])) _
      refine XS.iconst X201.here hx rfl (hb hby at_318) ?_
      show Steps p.tables e below (T201.setTop (mkF m 319 #[.val (.int p1), .val (.int p2), .val (.int p3), .val (.int (p1 &&& (1073741823 : Int32))), .val (.int ((((p1 &&& (1073741823 : Int32)) + (1 : Int32)) + (p2 &&& (536870911 : Int32))) &&& (1073741823 : Int32))), .val (.int (Int32.ofNat va)), .val (.int (Int32.ofNat vb)), .val (.int (Int32.ofNat vc)), .val (.int (Int32.ofNat vd)), .val (.int (Int32.ofNat ve)), .val (.int (Int32.ofNat vf)), .val (.ref cs), .val (.ref T179.heap.size), .val (.ref T193.heap.size), .val (.int (1 : Int32)), .unset] [(.int (3 : Int32)), (.int (Int32.ofNat vf)), (.int w2), (.int w1), (.int w0), (.ref T193.heap.size)])) _
      by_cases hd319 : (Int32.ofNat vf) = (3 : Int32)
      · skip
        refine XS.icmpNo X201.here hx rfl (hb hby at_319) rfl (teq hd319).2 ?_
        show Steps p.tables e below (T201.setTop (mkF m 322 #[.val (.int p1), .val (.int p2), .val (.int p3), .val (.int (p1 &&& (1073741823 : Int32))), .val (.int ((((p1 &&& (1073741823 : Int32)) + (1 : Int32)) + (p2 &&& (536870911 : Int32))) &&& (1073741823 : Int32))), .val (.int (Int32.ofNat va)), .val (.int (Int32.ofNat vb)), .val (.int (Int32.ofNat vc)), .val (.int (Int32.ofNat vd)), .val (.int (Int32.ofNat ve)), .val (.int (Int32.ofNat vf)), .val (.ref cs), .val (.ref T179.heap.size), .val (.ref T193.heap.size), .val (.int (1 : Int32)), .unset] [(.int w2), (.int w1), (.int w0), (.ref T193.heap.size)])) _
        refine XS.iconst X201.here hx rfl (hb hby at_322) ?_
        show Steps p.tables e below (T201.setTop (mkF m 323 #[.val (.int p1), .val (.int p2), .val (.int p3), .val (.int (p1 &&& (1073741823 : Int32))), .val (.int ((((p1 &&& (1073741823 : Int32)) + (1 : Int32)) + (p2 &&& (536870911 : Int32))) &&& (1073741823 : Int32))), .val (.int (Int32.ofNat va)), .val (.int (Int32.ofNat vb)), .val (.int (Int32.ofNat vc)), .val (.int (Int32.ofNat vd)), .val (.int (Int32.ofNat ve)), .val (.int (Int32.ofNat vf)), .val (.ref cs), .val (.ref T179.heap.size), .val (.ref T193.heap.size), .val (.int (1 : Int32)), .unset] [(.int (1 : Int32)), (.int w2), (.int w1), (.int w0), (.ref T193.heap.size)])) _
        refine XS.goto X201.here hx rfl (pc0 := 323) (pc' := 327) rfl (hb hby at_323) (by decide) (by decide) ?_
        show Steps p.tables e below (T201.setTop (mkF m 327 #[.val (.int p1), .val (.int p2), .val (.int p3), .val (.int (p1 &&& (1073741823 : Int32))), .val (.int ((((p1 &&& (1073741823 : Int32)) + (1 : Int32)) + (p2 &&& (536870911 : Int32))) &&& (1073741823 : Int32))), .val (.int (Int32.ofNat va)), .val (.int (Int32.ofNat vb)), .val (.int (Int32.ofNat vc)), .val (.int (Int32.ofNat vd)), .val (.int (Int32.ofNat ve)), .val (.int (Int32.ofNat vf)), .val (.ref cs), .val (.ref T179.heap.size), .val (.ref T193.heap.size), .val (.int (1 : Int32)), .unset] [(.int (1 : Int32)), (.int w2), (.int w1), (.int w0), (.ref T193.heap.size)])) _
        rw [if_neg hd313, if_pos hd319] at h_w3
        subst h_w3
        exact kZ
      · skip
        refine XS.icmpYes X201.here hx rfl (pc0 := 319) (pc' := 326) rfl (hb hby at_319) rfl (feq hd319).2 (by decide) (by decide) ?_
        show Steps p.tables e below (T201.setTop (mkF m 326 #[.val (.int p1), .val (.int p2), .val (.int p3), .val (.int (p1 &&& (1073741823 : Int32))), .val (.int ((((p1 &&& (1073741823 : Int32)) + (1 : Int32)) + (p2 &&& (536870911 : Int32))) &&& (1073741823 : Int32))), .val (.int (Int32.ofNat va)), .val (.int (Int32.ofNat vb)), .val (.int (Int32.ofNat vc)), .val (.int (Int32.ofNat vd)), .val (.int (Int32.ofNat ve)), .val (.int (Int32.ofNat vf)), .val (.ref cs), .val (.ref T179.heap.size), .val (.ref T193.heap.size), .val (.int (1 : Int32)), .unset] [(.int w2), (.int w1), (.int w0), (.ref T193.heap.size)])) _
        refine XS.iconst X201.here hx rfl (hb hby at_326) ?_
        show Steps p.tables e below (T201.setTop (mkF m 327 #[.val (.int p1), .val (.int p2), .val (.int p3), .val (.int (p1 &&& (1073741823 : Int32))), .val (.int ((((p1 &&& (1073741823 : Int32)) + (1 : Int32)) + (p2 &&& (536870911 : Int32))) &&& (1073741823 : Int32))), .val (.int (Int32.ofNat va)), .val (.int (Int32.ofNat vb)), .val (.int (Int32.ofNat vc)), .val (.int (Int32.ofNat vd)), .val (.int (Int32.ofNat ve)), .val (.int (Int32.ofNat vf)), .val (.ref cs), .val (.ref T179.heap.size), .val (.ref T193.heap.size), .val (.int (1 : Int32)), .unset] [(.int (0 : Int32)), (.int w2), (.int w1), (.int w0), (.ref T193.heap.size)])) _
        rw [if_neg hd313, if_neg hd319] at h_w3
        subst h_w3
        exact kZ
  show own_R p.tables e below _ (T201.setTop (mkF m 327 #[.val (.int p1), .val (.int p2), .val (.int p3), .val (.int (p1 &&& (1073741823 : Int32))), .val (.int ((((p1 &&& (1073741823 : Int32)) + (1 : Int32)) + (p2 &&& (536870911 : Int32))) &&& (1073741823 : Int32))), .val (.int (Int32.ofNat va)), .val (.int (Int32.ofNat vb)), .val (.int (Int32.ofNat vc)), .val (.int (Int32.ofNat vd)), .val (.int (Int32.ofNat ve)), .val (.int (Int32.ofNat vf)), .val (.ref cs), .val (.ref T179.heap.size), .val (.ref T193.heap.size), .val (.int (1 : Int32)), .unset] [(.int w3), (.int w2), (.int w1), (.int w0), (.ref T193.heap.size)]))
  obtain ⟨rc, rd⟩ := own_res I6 (by omega) (own_ok2 ⟨ve, lve⟩ ⟨vf, lvf⟩)
  have t0 : w0 = own_fl2 (Int32.ofNat ve) (Int32.ofNat vf) 0 := h_w0
  have t1 : w1 = own_fl2 (Int32.ofNat ve) (Int32.ofNat vf) 1 := h_w1
  have t2 : w2 = own_fl2 (Int32.ofNat ve) (Int32.ofNat vf) 2 := h_w2
  have t3 : w3 = own_fl2 (Int32.ofNat ve) (Int32.ofNat vf) 3 := h_w3
  dsimp only at rc rd
  rw [← t0, ← t1, ← t2, ← t3] at rc
  rw [← t0, ← t1, ← t2, ← t3] at rd
  obtain ⟨_, _, ⟨T206, L206, k206, n206⟩, -, X206, ⟨Lc206, hQ206, l206, y206, z206⟩, st206⟩ := Jvm.LawKit.callS X201 hx (y := (⟨"com/example/frugal_scheduler/frugalscheduler/planners/CandidatesAddPinLaw", "matches", "([IZZZZ)Z"⟩ : MethodName)) hown (mvT hZ (hw _ (List.mem_of_getElem? (i := 60) rfl))) (mvT hZ (hw _ (List.mem_of_getElem? (i := 61) rfl))) (mvT hZ (hw _ (List.mem_of_getElem? (i := 62) rfl))) (mvT hZ (hw _ (List.mem_of_getElem? (i := 63) rfl))) (by decide) (backOf (W := 0) (rm12 l Z a0 hw [] (T193.heap.size) w0 w1 w2 w3 m6 (own_os (m6 - 1) 0 u6) T201.heap n0 Z205 (by omega) f204_T193_heap_size rc rd) hZ (hw _ (List.mem_of_getElem? (i := 63) rfl)) (hw _ (List.mem_of_getElem? (i := 62) rfl)) (by decide) (by decide)) (g := (mkF m 327 #[.val (.int p1), .val (.int p2), .val (.int p3), .val (.int (p1 &&& (1073741823 : Int32))), .val (.int ((((p1 &&& (1073741823 : Int32)) + (1 : Int32)) + (p2 &&& (536870911 : Int32))) &&& (1073741823 : Int32))), .val (.int (Int32.ofNat va)), .val (.int (Int32.ofNat vb)), .val (.int (Int32.ofNat vc)), .val (.int (Int32.ofNat vd)), .val (.int (Int32.ofNat ve)), .val (.int (Int32.ofNat vf)), .val (.ref cs), .val (.ref T179.heap.size), .val (.ref T193.heap.size), .val (.int (1 : Int32)), .unset] [(.int w3), (.int w2), (.int w1), (.int w0), (.ref T193.heap.size)])) rfl (by rw [hml]; rfl) (argsL := [(.ref T193.heap.size), (.int w0), (.int w1), (.int w2), (.int w3)]) (rest := []) (lenOf own_pd8 rfl) rfl (by show 2 * 0 + _ ≤ _; exact Nat.le_of_eq rfl) (hb hby at_327) (fun _ _ => ⟨rfl, rfl, (by decide : 6 + 1 ≤ _), (by decide : 24 + 4 ≤ _)⟩)
  dsimp only [Pt.U, Pt.locs, Pt.cells, Pt.slots] at X206 l206 y206 z206 st206 hQ206
  subst l206 y206 z206
  obtain ⟨rfl, Nq206, K206⟩ := hQ206
  have N206 := Fr.app N201 Nq206
  have f207_cs : Exa Z T206.heap cs "com/example/frugal_scheduler/frugalscheduler/planners/PoolSchedule$Candidates" := f202_cs.keep K206
  have f208_T179_heap_size : own_K .int Z T206.heap T179.heap.size .int m4 (own_os (m4 - 1) 0 u4) := f203_T179_heap_size.keep K206 nin0
  have f209_T193_heap_size : own_K .int Z T206.heap T193.heap.size .int m6 (own_os (m6 - 1) 0 u6) := f204_T193_heap_size.keep K206 nin0
  have Z210 : n0 ≤ T206.heap.size := Nat.le_trans Z205 K206.1
  refine own_by st206 ?_
  show own_R p.tables e below _ (T206.setTop (mkF m 330 #[.val (.int p1), .val (.int p2), .val (.int p3), .val (.int (p1 &&& (1073741823 : Int32))), .val (.int ((((p1 &&& (1073741823 : Int32)) + (1 : Int32)) + (p2 &&& (536870911 : Int32))) &&& (1073741823 : Int32))), .val (.int (Int32.ofNat va)), .val (.int (Int32.ofNat vb)), .val (.int (Int32.ofNat vc)), .val (.int (Int32.ofNat vd)), .val (.int (Int32.ofNat ve)), .val (.int (Int32.ofNat vf)), .val (.ref cs), .val (.ref T179.heap.size), .val (.ref T193.heap.size), .val (.int (1 : Int32)), .unset] [(.int (1 : Int32))]))
  refine own_by (fun _ kZ => XS.istore X206.here hx rfl (hb hby at_330) rfl (l' := #[.val (.int p1), .val (.int p2), .val (.int p3), .val (.int (p1 &&& (1073741823 : Int32))), .val (.int ((((p1 &&& (1073741823 : Int32)) + (1 : Int32)) + (p2 &&& (536870911 : Int32))) &&& (1073741823 : Int32))), .val (.int (Int32.ofNat va)), .val (.int (Int32.ofNat vb)), .val (.int (Int32.ofNat vc)), .val (.int (Int32.ofNat vd)), .val (.int (Int32.ofNat ve)), .val (.int (Int32.ofNat vf)), .val (.ref cs), .val (.ref T179.heap.size), .val (.ref T193.heap.size), .val (.int (1 : Int32)), .val (.int (1 : Int32))]) rfl kZ) ?_
  show own_R p.tables e below _ (T206.setTop (mkF m 332 #[.val (.int p1), .val (.int p2), .val (.int p3), .val (.int (p1 &&& (1073741823 : Int32))), .val (.int ((((p1 &&& (1073741823 : Int32)) + (1 : Int32)) + (p2 &&& (536870911 : Int32))) &&& (1073741823 : Int32))), .val (.int (Int32.ofNat va)), .val (.int (Int32.ofNat vb)), .val (.int (Int32.ofNat vc)), .val (.int (Int32.ofNat vd)), .val (.int (Int32.ofNat ve)), .val (.int (Int32.ofNat vf)), .val (.ref cs), .val (.ref T179.heap.size), .val (.ref T193.heap.size), .val (.int (1 : Int32)), .val (.int (1 : Int32))] []))
  refine own_by (fun _ kZ => XS.iload X206.here hx rfl (hb hby at_332) rfl kZ) ?_
  show own_R p.tables e below _ (T206.setTop (mkF m 334 #[.val (.int p1), .val (.int p2), .val (.int p3), .val (.int (p1 &&& (1073741823 : Int32))), .val (.int ((((p1 &&& (1073741823 : Int32)) + (1 : Int32)) + (p2 &&& (536870911 : Int32))) &&& (1073741823 : Int32))), .val (.int (Int32.ofNat va)), .val (.int (Int32.ofNat vb)), .val (.int (Int32.ofNat vc)), .val (.int (Int32.ofNat vd)), .val (.int (Int32.ofNat ve)), .val (.int (Int32.ofNat vf)), .val (.ref cs), .val (.ref T179.heap.size), .val (.ref T193.heap.size), .val (.int (1 : Int32)), .val (.int (1 : Int32))] [(.int (1 : Int32))]))
  refine own_by (fun _ kZ => XS.ifNo X206.here hx rfl (hb hby at_334) rfl ((if0 _ _).trans (feq (by decide : ¬ (1 : Int32) = 0)).1) kZ) ?_
  show own_R p.tables e below _ (T206.setTop (mkF m 337 #[.val (.int p1), .val (.int p2), .val (.int p3), .val (.int (p1 &&& (1073741823 : Int32))), .val (.int ((((p1 &&& (1073741823 : Int32)) + (1 : Int32)) + (p2 &&& (536870911 : Int32))) &&& (1073741823 : Int32))), .val (.int (Int32.ofNat va)), .val (.int (Int32.ofNat vb)), .val (.int (Int32.ofNat vc)), .val (.int (Int32.ofNat vd)), .val (.int (Int32.ofNat ve)), .val (.int (Int32.ofNat vf)), .val (.ref cs), .val (.ref T179.heap.size), .val (.ref T193.heap.size), .val (.int (1 : Int32)), .val (.int (1 : Int32))] []))
  refine own_by (fun _ kZ => XS.iload X206.here hx rfl (hb hby at_337) rfl kZ) ?_
  show own_R p.tables e below _ (T206.setTop (mkF m 339 #[.val (.int p1), .val (.int p2), .val (.int p3), .val (.int (p1 &&& (1073741823 : Int32))), .val (.int ((((p1 &&& (1073741823 : Int32)) + (1 : Int32)) + (p2 &&& (536870911 : Int32))) &&& (1073741823 : Int32))), .val (.int (Int32.ofNat va)), .val (.int (Int32.ofNat vb)), .val (.int (Int32.ofNat vc)), .val (.int (Int32.ofNat vd)), .val (.int (Int32.ofNat ve)), .val (.int (Int32.ofNat vf)), .val (.ref cs), .val (.ref T179.heap.size), .val (.ref T193.heap.size), .val (.int (1 : Int32)), .val (.int (1 : Int32))] [(.int (1 : Int32))]))
  refine own_by (fun _ kZ => XS.ifNo X206.here hx rfl (hb hby at_339) rfl ((if0 _ _).trans (feq (by decide : ¬ (1 : Int32) = 0)).1) kZ) ?_
  show own_R p.tables e below _ (T206.setTop (mkF m 342 #[.val (.int p1), .val (.int p2), .val (.int p3), .val (.int (p1 &&& (1073741823 : Int32))), .val (.int ((((p1 &&& (1073741823 : Int32)) + (1 : Int32)) + (p2 &&& (536870911 : Int32))) &&& (1073741823 : Int32))), .val (.int (Int32.ofNat va)), .val (.int (Int32.ofNat vb)), .val (.int (Int32.ofNat vc)), .val (.int (Int32.ofNat vd)), .val (.int (Int32.ofNat ve)), .val (.int (Int32.ofNat vf)), .val (.ref cs), .val (.ref T179.heap.size), .val (.ref T193.heap.size), .val (.int (1 : Int32)), .val (.int (1 : Int32))] []))
  refine own_by (fun _ kZ => XS.iconst X206.here hx rfl (hb hby at_342) kZ) ?_
  show own_R p.tables e below _ (T206.setTop (mkF m 343 #[.val (.int p1), .val (.int p2), .val (.int p3), .val (.int (p1 &&& (1073741823 : Int32))), .val (.int ((((p1 &&& (1073741823 : Int32)) + (1 : Int32)) + (p2 &&& (536870911 : Int32))) &&& (1073741823 : Int32))), .val (.int (Int32.ofNat va)), .val (.int (Int32.ofNat vb)), .val (.int (Int32.ofNat vc)), .val (.int (Int32.ofNat vd)), .val (.int (Int32.ofNat ve)), .val (.int (Int32.ofNat vf)), .val (.ref cs), .val (.ref T179.heap.size), .val (.ref T193.heap.size), .val (.int (1 : Int32)), .val (.int (1 : Int32))] [(.int (1 : Int32))]))
  refine own_by (fun _ kZ => XS.goto X206.here hx rfl (pc0 := 343) (pc' := 347) rfl (hb hby at_343) (by decide) (by decide) kZ) ?_
  show own_R p.tables e below _ (T206.setTop (mkF m 347 #[.val (.int p1), .val (.int p2), .val (.int p3), .val (.int (p1 &&& (1073741823 : Int32))), .val (.int ((((p1 &&& (1073741823 : Int32)) + (1 : Int32)) + (p2 &&& (536870911 : Int32))) &&& (1073741823 : Int32))), .val (.int (Int32.ofNat va)), .val (.int (Int32.ofNat vb)), .val (.int (Int32.ofNat vc)), .val (.int (Int32.ofNat vd)), .val (.int (Int32.ofNat ve)), .val (.int (Int32.ofNat vf)), .val (.ref cs), .val (.ref T179.heap.size), .val (.ref T193.heap.size), .val (.int (1 : Int32)), .val (.int (1 : Int32))] [(.int (1 : Int32))]))
  obtain ⟨fs, hr, hrun, hended, hW, hsame⟩ := X206.leave (v := some (.int (1 : Int32))) (fun h => by rw [Bd.returns] at h; cases h)
  refine own_end ⟨_, _, ?_, hrun, hended, _, _, rfl, ?_, ⟨_, rfl⟩, hW, hsame.mono (by decide) (by decide)⟩
  · exact retN X206 hx (t := .boolean) Bd.returns (by simp) (hb hby at_347) hr
  · show Q0 Z p1 p2 p3 h0 n0 _ T206.heap _
    exact ⟨rfl, N206⟩
set_option maxRecDepth 65536 in
set_option maxHeartbeats 40000000 in
theorem comes_1 {Post : Tables → Env → Array Value → State → Outcome → State → Prop} (hpost : ∀ tb e args s v u, (limb_1_1.after args s (.returned v) u = true ∧ limb_1_2.after args s (.returned v) u = true) → FrameEnd s (.returned v) u (Jvm.fieldLocs frame_1_writes args s ++ Jvm.arrayLocs frame_1_arrays args s ++ Jvm.staticLocs frame_1_statics s) 24 128 → Post tb e args s (.returned v) u) :
    ArmFor flags0 classFile x code maxLocals ret World_1 tables_1 room_1 Calls_1 rest_1 Pre_1 Post := by
  intro l hfl _ _ p e ha hc hk s m args below hf hA hF happ hP
  obtain ⟨hcalls, hrest, hpre⟩ := hP
  obtain ⟨-, -, -, hnamed, -, -, -, hat⟩ := (Spec.applies_iff hf).mp happ
  obtain ⟨hg, hn⟩ := and_e (Cond.before_iff.mp (show (Jvm.Cond.and given_1 narrow_1).before args s = true from hpre))
  obtain ⟨g0, q0⟩ := and_e hg
  obtain ⟨g1, q1⟩ := and_e q0
  obtain ⟨g2, q2⟩ := and_e q1
  have g3 := q2
  obtain ⟨w0, w1, w2, rfl⟩ : ∃ w0 w1 w2 : Value, args = #[w0, w1, w2] := by
    have hs : args.size = 3 := by simpa [Cond.value, given_1] using g0
    obtain ⟨L⟩ := args
    match L, hs with
    | [w0, w1, w2], _ => exact ⟨w0, w1, w2, rfl⟩
  have hw := fun d (hd : d ∈ tables_1) => atoms_spec (ws := Jvm.Cond.code x code maxLocals ret :: tables_1) hat d (List.mem_cons_of_mem _ hd)
  have hfit : Fit s := fun {y c} hc i hi => by
    obtain ⟨ha, rfl⟩ := Array.getElem?_eq_some_iff.mp hc
    have q := List.all_eq_true.mp ((Array.all_eq_true_iff_forall_mem.mp hF) _ (Array.getElem_mem ha)) i (List.mem_range.mpr hi)
    simpa [Array.getElem?_eq_getElem hi] using q
  obtain ⟨i0, ei0⟩ := is_v g1
  obtain rfl : w0 = (.int i0) := Option.some.inj ei0
  obtain ⟨i1, ei1⟩ := is_v g2
  obtain rfl : w1 = (.int i1) := Option.some.inj ei1
  obtain ⟨i2, ei2⟩ := is_v g3
  obtain rfl : w2 = (.int i2) := Option.some.inj ei2
  obtain ⟨n, o, h1, h2, h3, _, L, rfl, ⟨rfl, N⟩, hq⟩ := rm0 l s _ hw tables_1 i0 i1 i2  s.heap s.heap.size (Nat.le_refl _)  p e ha hc hk s m _ below hf ((Spec.applies_iff_loose hf).mp happ).1 ⟨rfl, State.Warmed39.refl s, rfl⟩ trivial
  refine ⟨n, _, h1, h2, h3, hpost _ _ _ _ _ _ ⟨Cond.after_iff.mpr rfl, Cond.after_iff.mpr (eq_i res_at (Term.int_eval (1)) rfl)⟩ ⟨hq.1, hq.2.1, (hq.2.2.sift fun y hy => Or.inr (N y hy)).mono (by decide) (by decide)⟩⟩
theorem main_1_1 : Claimed_1_1 := comes_1 fun _ _ _ _ _ _ h hF => ⟨h.1, hF⟩
theorem main_1_2 : Claimed_1_2 := comes_1 fun _ _ _ _ _ _ h hF => ⟨h.2, hF⟩
end Jvm.Pilot.@@N@@
namespace Jvm.Pilot.@@N@@
open Jvm Jvm.ClassFile Sem Op Lib Jvm.Free Jvm.Stand Jvm.Pilot.@@N@@.Jvm.D
/-! MADE BY PROGRAM (witnessworld.py) out of the Statement's table words and the real class files: 13 classes; the members and pool entries that the words name. The judged class is class 1, her method 1. -/
namespace start1
open Jvm.ClassFile
def u (s : String) : CpInfo := .utf8 (stringToUtf16 s)
/-- a pool by its gaps: so many unusable entries, then the entry; so many at the end -/
def gap : Nat → List CpInfo → List CpInfo
  | 0, r => r
  | n + 1, r => .unusable :: gap n r
def poolList (es : List (Nat × CpInfo)) (last : Nat) : List CpInfo := es.foldr (fun e r => gap e.1 (e.2 :: r)) (gap last [])
def pool (es : List (Nat × CpInfo)) (last : Nat) : Array CpInfo := ⟨poolList es last⟩
def fileOf (pool : Array CpInfo) (this : Nat) (attrs : Array Attribute := #[]) (ms : Array MethodInfo := #[]) (fl : Nat := 33) (sup : Nat := 0) (ifs : Array Nat := #[]) (fds : Array FieldInfo := #[]) : ClassFile where
  minorVersion := 0
  majorVersion := 65
  constantPool := pool
  accessFlags := fl
  thisClass := this
  superClass := sup
  interfaces := ifs
  fields := fds
  methods := ms
  attributes := attrs
def plain (name : String) (sup : Option ClassId) : Class where
  name := name
  kind := .ordinary
  loader := none
  accessFlags := 33
  super := sup
  interfaces := #[]
  cf := none
  fields := #[]
  methods := #[]
  instanceTypes := #[]
  staticTypes := #[]
  resolved := #[]
  callSites := []
  init := .initialized
  statics := none
  mirror := none

def pool0 : Array CpInfo := pool [(5, u "<init>"), (0, u "()V"), (1, .class_ 10), (1, u "java/lang/Object"), (85, u "clone"), (0, u "()Ljava/lang/Object;")] 26

def k0c0 : Code := { maxStack := 0, maxLocals := 1, code := object_method_1_code, exceptionTable := #[], attributes := #[] }
def k0m0 : Method := { name := "<init>", desc := "()V", sig := { parameters := [], returnType := none }, accessFlags := 1, code := some k0c0 }
def k0m1 : Method := { name := "clone", desc := "()Ljava/lang/Object;", sig := { parameters := [], returnType := some (.object "java/lang/Object") }, accessFlags := 260, code := none }
/-- java/lang/Object -/
def k0 : Class := { plain "java/lang/Object" none with
  accessFlags := 33
  interfaces := #[]
  cf := some (fileOf pool0 8 #[] #[{ accessFlags := 1, nameIndex := 5, descriptorIndex := 6, attributes := #[] }, { accessFlags := 260, nameIndex := 96, descriptorIndex := 97, attributes := #[] }] 33 0 #[] #[])
  fields := #[]
  methods := #[k0m0, k0m1]
  instanceTypes := #[]
  staticTypes := #[]
  resolved := Array.replicate 124 none
  statics := none }

def pool1 : Array CpInfo := pool [(2, .class_ 4), (1, u "java/lang/Object"), (0, u "<init>"), (0, u "()V"), (0, .integer 1073741823), (0, .integer 536870911), (0, .class_ 10), (0, u "com/example/frugal_scheduler/frugalscheduler/planners/PoolSchedule$Candidates"), (0, .methodref 9 12), (0, .nameAndType 5 13), (0, u "(I)V"), (0, .methodref 9 15), (0, .nameAndType 16 13), (0, u "clear"), (0, .methodref 9 18), (0, .nameAndType 19 13), (0, u "add"), (0, .methodref 9 21), (0, .nameAndType 22 23), (0, u "inPoolOrder"), (0, u "()[I"), (0, .methodref 25 26), (0, .class_ 27), (0, .nameAndType 28 29), (0, u "com/example/frugal_scheduler/frugalscheduler/planners/CandidatesAddPinLaw"), (0, u "matches"), (0, u "([IZZZZ)Z"), (2, u "law"), (0, u "(III)Z")] 9

def k1m0 : Method := { name := "<init>", desc := "()V", sig := { parameters := [], returnType := none }, accessFlags := 1, code := none }
def k1c1 : Code := { maxStack := 6, maxLocals := 16, code := code, exceptionTable := #[], attributes := #[] }
def k1m1 : Method := { name := "law", desc := "(III)Z", sig := { parameters := [.int, .int, .int], returnType := some .boolean }, accessFlags := 9, code := some k1c1 }
def k1c2 : Code := { maxStack := 3, maxLocals := 7, code := method_3_code, exceptionTable := #[], attributes := #[] }
def k1m2 : Method := { name := "matches", desc := "([IZZZZ)Z", sig := { parameters := [(.array .int), .boolean, .boolean, .boolean, .boolean], returnType := some .boolean }, accessFlags := 10, code := some k1c2 }
/-- com/example/frugal_scheduler/frugalscheduler/planners/CandidatesAddPinLaw -/
def k1 : Class := { plain "com/example/frugal_scheduler/frugalscheduler/planners/CandidatesAddPinLaw" (some 0) with
  accessFlags := 49
  interfaces := #[]
  cf := some (fileOf pool1 25 #[] #[{ accessFlags := 1, nameIndex := 5, descriptorIndex := 6, attributes := #[] }, { accessFlags := 9, nameIndex := 32, descriptorIndex := 33, attributes := #[] }, { accessFlags := 10, nameIndex := 28, descriptorIndex := 29, attributes := #[] }] 49 2 #[] #[])
  fields := #[]
  methods := #[k1m0, k1m1, k1m2]
  instanceTypes := #[]
  staticTypes := #[]
  resolved := Array.replicate 43 none
  statics := none }

def pool2 : Array CpInfo := pool [(1, .methodref 2 3), (0, .class_ 4), (0, .nameAndType 5 6), (0, u "java/lang/Object"), (0, u "<init>"), (0, u "()V"), (0, .fieldref 8 9), (0, .class_ 10), (0, .nameAndType 11 12), (0, u "com/example/frugal_scheduler/frugalscheduler/planners/PoolSchedule$Candidates"), (0, u "vms"), (0, u "[I"), (0, .fieldref 8 14), (0, .nameAndType 15 12), (0, u "addedFor"), (0, .fieldref 8 17), (0, .nameAndType 18 19), (0, u "task"), (0, u "I"), (0, .fieldref 8 21), (0, .nameAndType 22 19), (0, u "size"), (0, .methodref 24 25), (0, .class_ 26), (0, .nameAndType 27 28), (0, u "java/util/Arrays"), (0, u "copyOf"), (0, u "([II)[I"), (0, .methodref 24 30), (0, .nameAndType 31 32), (0, u "sort"), (0, u "([I)V"), (0, u "(I)V"), (2, u "clear"), (0, u "add"), (1, u "inPoolOrder"), (0, u "()[I"), (3, .class_ 45), (0, u "com/example/frugal_scheduler/frugalscheduler/planners/PoolSchedule")] 2

def k2c0 : Code := { maxStack := 2, maxLocals := 2, code := prog_68_method_1_code, exceptionTable := #[], attributes := #[] }
def k2m0 : Method := { name := "<init>", desc := "(I)V", sig := { parameters := [.int], returnType := none }, accessFlags := 0, code := some k2c0 }
def k2c1 : Code := { maxStack := 3, maxLocals := 2, code := prog_68_method_2_code, exceptionTable := #[], attributes := #[] }
def k2m1 : Method := { name := "clear", desc := "(I)V", sig := { parameters := [.int], returnType := none }, accessFlags := 0, code := some k2c1 }
def k2c2 : Code := { maxStack := 5, maxLocals := 2, code := prog_68_method_3_code, exceptionTable := #[], attributes := #[] }
def k2m2 : Method := { name := "add", desc := "(I)V", sig := { parameters := [.int], returnType := none }, accessFlags := 0, code := some k2c2 }
def k2c3 : Code := { maxStack := 2, maxLocals := 2, code := prog_68_method_4_code, exceptionTable := #[], attributes := #[] }
def k2m3 : Method := { name := "inPoolOrder", desc := "()[I", sig := { parameters := [], returnType := some (.array .int) }, accessFlags := 0, code := some k2c3 }
/-- com/example/frugal_scheduler/frugalscheduler/planners/PoolSchedule$Candidates -/
def k2 : Class := { plain "com/example/frugal_scheduler/frugalscheduler/planners/PoolSchedule$Candidates" (some 0) with
  accessFlags := 32
  interfaces := #[]
  cf := some (fileOf pool2 8 #[.nestHost 44] #[{ accessFlags := 0, nameIndex := 5, descriptorIndex := 33, attributes := #[] }, { accessFlags := 0, nameIndex := 36, descriptorIndex := 33, attributes := #[] }, { accessFlags := 0, nameIndex := 37, descriptorIndex := 33, attributes := #[] }, { accessFlags := 0, nameIndex := 39, descriptorIndex := 40, attributes := #[] }] 32 2 #[] #[{ accessFlags := 18, nameIndex := 11, descriptorIndex := 12, attributes := #[] }, { accessFlags := 18, nameIndex := 15, descriptorIndex := 12, attributes := #[] }, { accessFlags := 2, nameIndex := 22, descriptorIndex := 19, attributes := #[] }, { accessFlags := 2, nameIndex := 18, descriptorIndex := 19, attributes := #[] }])
  fields := #[{ name := "vms", type := (.array .int), accessFlags := 18, slot := 0, constantValue := 0 }, { name := "addedFor", type := (.array .int), accessFlags := 18, slot := 1, constantValue := 0 }, { name := "size", type := .int, accessFlags := 2, slot := 2, constantValue := 0 }, { name := "task", type := .int, accessFlags := 2, slot := 3, constantValue := 0 }]
  methods := #[k2m0, k2m1, k2m2, k2m3]
  instanceTypes := #[(.array .int), (.array .int), .int, .int]
  staticTypes := #[]
  resolved := Array.replicate 48 none
  statics := none }

def pool3 : Array CpInfo := pool [(2, .class_ 4), (1, u "java/lang/Object"), (0, u "<init>"), (0, u "()V"), (0, .methodref 8 9), (0, .class_ 10), (0, .nameAndType 11 12), (0, u "java/util/DualPivotQuicksort"), (0, u "sort"), (0, u "([IIII)V"), (1, .class_ 16), (1, u "java/util/Arrays"), (57, .class_ 76), (1, u "java/util/Arrays$NaturalOrder"), (32, u "()Ljava/lang/Object;"), (3, .class_ 115), (1, u "java/util/Arrays$LegacyMergeSort"), (1, u "Z"), (10, .nameAndType 129 109), (0, u "clone"), (20, .methodref 151 152), (0, .class_ 153), (0, .nameAndType 154 155), (0, u "java/lang/System"), (0, u "arraycopy"), (0, u "(Ljava/lang/Object;ILjava/lang/Object;II)V"), (146, u "copyOf"), (1, .methodref 305 306), (0, .class_ 307), (0, .nameAndType 308 309), (0, u "java/lang/Math"), (0, u "min"), (0, u "(II)I"), (6, .methodref 317 128), (0, .class_ 318), (0, u "[I"), (56, .class_ 376), (0, u "java/util/Arrays$ArrayList"), (68, u "$assertionsDisabled"), (269, u "MIN_ARRAY_SORT_GRAN"), (0, u "I"), (2, u "INSERTIONSORT_THRESHOLD"), (6, u "([I)V"), (144, u "([II)[I"), (103, .class_ 976), (0, u "java/util/Arrays$ArrayItr")] 52

def k3m0 : Method := { name := "<init>", desc := "()V", sig := { parameters := [], returnType := none }, accessFlags := 2, code := none }
def k3c1 : Code := { maxStack := 4, maxLocals := 1, code := jdk_65_method_2_code, exceptionTable := #[], attributes := #[] }
def k3m1 : Method := { name := "sort", desc := "([I)V", sig := { parameters := [(.array .int)], returnType := none }, accessFlags := 9, code := some k3c1 }
def k3c2 : Code := { maxStack := 6, maxLocals := 3, code := jdk_65_method_123_code, exceptionTable := #[], attributes := #[] }
def k3m2 : Method := { name := "copyOf", desc := "([II)[I", sig := { parameters := [(.array .int), .int], returnType := some (.array .int) }, accessFlags := 9, code := some k3c2 }
/-- java/util/Arrays -/
def k3 : Class := { plain "java/util/Arrays" (some 0) with
  accessFlags := 49
  interfaces := #[]
  cf := some (fileOf pool3 14 #[.nestMembers #[975, 375, 113, 74]] #[{ accessFlags := 2, nameIndex := 5, descriptorIndex := 6, attributes := #[] }, { accessFlags := 9, nameIndex := 11, descriptorIndex := 726, attributes := #[] }, { accessFlags := 9, nameIndex := 302, descriptorIndex := 871, attributes := #[] }] 49 2 #[] #[{ accessFlags := 26, nameIndex := 715, descriptorIndex := 716, attributes := #[] }, { accessFlags := 26, nameIndex := 719, descriptorIndex := 716, attributes := #[] }, { accessFlags := 4120, nameIndex := 445, descriptorIndex := 117, attributes := #[] }])
  fields := #[{ name := "MIN_ARRAY_SORT_GRAN", type := .int, accessFlags := 26, slot := 0, constantValue := 0 }, { name := "INSERTIONSORT_THRESHOLD", type := .int, accessFlags := 26, slot := 1, constantValue := 0 }, { name := "$assertionsDisabled", type := .boolean, accessFlags := 4120, slot := 2, constantValue := 0 }]
  methods := #[k3m0, k3m1, k3m2]
  instanceTypes := #[]
  staticTypes := #[.int, .int, .boolean]
  resolved := Array.replicate 1029 none
  statics := none }

def pool4 : Array CpInfo := pool [(1, .class_ 2), (0, u "java/lang/Math"), (1, .class_ 6), (1, u "java/lang/Object"), (0, u "<init>"), (0, u "()V"), (89, .class_ 100), (1, u "java/lang/Math$RandomNumberGeneratorHolder"), (71, u "negativeZeroFloatBits"), (0, u "J"), (2, u "negativeZeroDoubleBits"), (24, u "min"), (43, u "$assertionsDisabled"), (0, u "Z"), (88, u "(II)I"), (2, u "twoToTheDoubleScaleDown"), (0, u "D"), (4, u "twoToTheDoubleScaleUp"), (9, u "E"), (3, u "PI"), (2, u "TAU"), (2, u "DEGREES_TO_RADIANS"), (0, u "RADIANS_TO_DEGREES")] 94

def k4m0 : Method := { name := "<init>", desc := "()V", sig := { parameters := [], returnType := none }, accessFlags := 2, code := none }
def k4c1 : Code := { maxStack := 2, maxLocals := 2, code := jdk_29_method_69_code, exceptionTable := #[], attributes := #[] }
def k4m1 : Method := { name := "min", desc := "(II)I", sig := { parameters := [.int, .int], returnType := some .int }, accessFlags := 9, code := some k4c1 }
/-- java/lang/Math -/
def k4 : Class := { plain "java/lang/Math" (some 0) with
  accessFlags := 49
  interfaces := #[]
  cf := some (fileOf pool4 1 #[.nestMembers #[98]] #[{ accessFlags := 2, nameIndex := 7, descriptorIndex := 8, attributes := #[] }, { accessFlags := 9, nameIndex := 201, descriptorIndex := 335, attributes := #[] }] 49 4 #[] #[{ accessFlags := 25, nameIndex := 354, descriptorIndex := 339, attributes := #[] }, { accessFlags := 25, nameIndex := 358, descriptorIndex := 339, attributes := #[] }, { accessFlags := 25, nameIndex := 361, descriptorIndex := 339, attributes := #[] }, { accessFlags := 26, nameIndex := 364, descriptorIndex := 339, attributes := #[] }, { accessFlags := 26, nameIndex := 365, descriptorIndex := 339, attributes := #[] }, { accessFlags := 26, nameIndex := 172, descriptorIndex := 173, attributes := #[] }, { accessFlags := 26, nameIndex := 176, descriptorIndex := 173, attributes := #[] }, { accessFlags := 8, nameIndex := 344, descriptorIndex := 339, attributes := #[] }, { accessFlags := 8, nameIndex := 338, descriptorIndex := 339, attributes := #[] }, { accessFlags := 4120, nameIndex := 245, descriptorIndex := 246, attributes := #[] }])
  fields := #[{ name := "E", type := .double, accessFlags := 25, slot := 0, constantValue := 0 }, { name := "PI", type := .double, accessFlags := 25, slot := 1, constantValue := 0 }, { name := "TAU", type := .double, accessFlags := 25, slot := 2, constantValue := 0 }, { name := "DEGREES_TO_RADIANS", type := .double, accessFlags := 26, slot := 3, constantValue := 0 }, { name := "RADIANS_TO_DEGREES", type := .double, accessFlags := 26, slot := 4, constantValue := 0 }, { name := "negativeZeroFloatBits", type := .long, accessFlags := 26, slot := 5, constantValue := 0 }, { name := "negativeZeroDoubleBits", type := .long, accessFlags := 26, slot := 6, constantValue := 0 }, { name := "twoToTheDoubleScaleUp", type := .double, accessFlags := 8, slot := 7, constantValue := 0 }, { name := "twoToTheDoubleScaleDown", type := .double, accessFlags := 8, slot := 8, constantValue := 0 }, { name := "$assertionsDisabled", type := .boolean, accessFlags := 4120, slot := 9, constantValue := 0 }]
  methods := #[k4m0, k4m1]
  instanceTypes := #[]
  staticTypes := #[.double, .double, .double, .double, .double, .long, .long, .double, .double, .boolean]
  resolved := Array.replicate 460 none
  statics := none }

def pool5 : Array CpInfo := pool [(2, .class_ 4), (1, u "java/lang/Object"), (0, u "<init>"), (0, u "()V"), (1, .class_ 10), (1, u "java/lang/System"), (0, u "allowSecurityManager"), (0, u "I"), (16, u "cons"), (0, u "Ljava/io/Console;"), (77, .class_ 110), (1, u "java/lang/System$CallersHolder"), (43, u "initialErrStream"), (0, u "Ljava/io/PrintStream;"), (19, u "security"), (0, u "Ljava/lang/SecurityManager;"), (31, .class_ 209), (0, u "java/lang/System$1"), (7, u "props"), (0, u "Ljava/util/Properties;"), (2, u "lineSeparator"), (0, u "Ljava/lang/String;"), (96, .class_ 321), (1, u "java/lang/System$LoggerFinder"), (5, .class_ 328), (0, u "java/lang/System$Logger"), (67, u "err"), (2, u "out"), (91, u "notSupportedJnuEncoding"), (15, u "in"), (17, u "initialIn"), (0, u "Ljava/io/InputStream;"), (35, u "bootLayer"), (0, u "Ljava/lang/ModuleLayer;"), (99, .class_ 664), (0, u "java/lang/System$2"), (9, u "NEVER"), (2, u "MAYBE"), (49, u "arraycopy"), (0, u "(Ljava/lang/Object;ILjava/lang/Object;II)V"), (72, .class_ 802), (0, u "java/lang/System$Logger$Level")] 31

def k5m0 : Method := { name := "<init>", desc := "()V", sig := { parameters := [], returnType := none }, accessFlags := 2, code := none }
def k5m1 : Method := { name := "arraycopy", desc := "(Ljava/lang/Object;ILjava/lang/Object;II)V", sig := { parameters := [(.object "java/lang/Object"), .int, (.object "java/lang/Object"), .int, .int], returnType := none }, accessFlags := 265, code := none }
/-- java/lang/System -/
def k5 : Class := { plain "java/lang/System" (some 0) with
  accessFlags := 49
  interfaces := #[]
  cf := some (fileOf pool5 8 #[.nestMembers #[319, 327, 801, 108, 663, 208]] #[{ accessFlags := 2, nameIndex := 5, descriptorIndex := 6, attributes := #[] }, { accessFlags := 265, nameIndex := 727, descriptorIndex := 728, attributes := #[] }] 49 2 #[] #[{ accessFlags := 25, nameIndex := 507, descriptorIndex := 526, attributes := #[] }, { accessFlags := 25, nameIndex := 399, descriptorIndex := 155, attributes := #[] }, { accessFlags := 25, nameIndex := 396, descriptorIndex := 155, attributes := #[] }, { accessFlags := 10, nameIndex := 525, descriptorIndex := 526, attributes := #[] }, { accessFlags := 26, nameIndex := 674, descriptorIndex := 12, attributes := #[] }, { accessFlags := 26, nameIndex := 677, descriptorIndex := 12, attributes := #[] }, { accessFlags := 10, nameIndex := 11, descriptorIndex := 12, attributes := #[] }, { accessFlags := 74, nameIndex := 175, descriptorIndex := 176, attributes := #[] }, { accessFlags := 10, nameIndex := 491, descriptorIndex := 222, attributes := #[] }, { accessFlags := 74, nameIndex := 29, descriptorIndex := 30, attributes := #[] }, { accessFlags := 74, nameIndex := 154, descriptorIndex := 155, attributes := #[] }, { accessFlags := 10, nameIndex := 217, descriptorIndex := 218, attributes := #[] }, { accessFlags := 10, nameIndex := 221, descriptorIndex := 222, attributes := #[] }, { accessFlags := 8, nameIndex := 562, descriptorIndex := 563, attributes := #[] }])
  fields := #[{ name := "in", type := (.object "java/io/InputStream"), accessFlags := 25, slot := 0, constantValue := 0 }, { name := "out", type := (.object "java/io/PrintStream"), accessFlags := 25, slot := 1, constantValue := 0 }, { name := "err", type := (.object "java/io/PrintStream"), accessFlags := 25, slot := 2, constantValue := 0 }, { name := "initialIn", type := (.object "java/io/InputStream"), accessFlags := 10, slot := 3, constantValue := 0 }, { name := "NEVER", type := .int, accessFlags := 26, slot := 4, constantValue := 0 }, { name := "MAYBE", type := .int, accessFlags := 26, slot := 5, constantValue := 0 }, { name := "allowSecurityManager", type := .int, accessFlags := 10, slot := 6, constantValue := 0 }, { name := "security", type := (.object "java/lang/SecurityManager"), accessFlags := 74, slot := 7, constantValue := 0 }, { name := "notSupportedJnuEncoding", type := (.object "java/lang/String"), accessFlags := 10, slot := 8, constantValue := 0 }, { name := "cons", type := (.object "java/io/Console"), accessFlags := 74, slot := 9, constantValue := 0 }, { name := "initialErrStream", type := (.object "java/io/PrintStream"), accessFlags := 74, slot := 10, constantValue := 0 }, { name := "props", type := (.object "java/util/Properties"), accessFlags := 10, slot := 11, constantValue := 0 }, { name := "lineSeparator", type := (.object "java/lang/String"), accessFlags := 10, slot := 12, constantValue := 0 }, { name := "bootLayer", type := (.object "java/lang/ModuleLayer"), accessFlags := 8, slot := 13, constantValue := 0 }]
  methods := #[k5m0, k5m1]
  instanceTypes := #[]
  staticTypes := #[(.object "java/io/InputStream"), (.object "java/io/PrintStream"), (.object "java/io/PrintStream"), (.object "java/io/InputStream"), .int, .int, .int, (.object "java/lang/SecurityManager"), (.object "java/lang/String"), (.object "java/io/Console"), (.object "java/io/PrintStream"), (.object "java/util/Properties"), (.object "java/lang/String"), (.object "java/lang/ModuleLayer")]
  resolved := Array.replicate 834 none
  statics := none }

def pool6 : Array CpInfo := pool [(1, .class_ 2), (0, u "java/util/DualPivotQuicksort"), (5, .class_ 10), (1, u "java/lang/Object"), (0, u "<init>"), (0, u "()V"), (4, .class_ 18), (0, u "java/util/DualPivotQuicksort$Sorter"), (7, .methodref 1 27), (0, .nameAndType 28 29), (0, u "sort"), (0, u "(Ljava/util/DualPivotQuicksort$Sorter;[IIII)V"), (3, u "([IIII)V"), (0, .methodref 1 35), (0, .nameAndType 36 37), (0, u "insertionSort"), (0, u "([III)V"), (30, u "I"), (4, .class_ 74), (0, u "java/util/DualPivotQuicksort$RunMerger"), (10, .class_ 86), (0, u "java/util/DualPivotQuicksort$Merger"), (127, u "MAX_MIXED_INSERTION_SORT_SIZE"), (2, u "MAX_INSERTION_SORT_SIZE"), (1, u "MIN_PARALLEL_SORT_SIZE"), (1, u "MIN_TRY_MERGE_SIZE"), (0, u "MIN_FIRST_RUN_SIZE"), (1, u "MIN_FIRST_RUNS_FACTOR"), (1, u "MAX_RUN_CAPACITY"), (1, u "MIN_RUN_COUNT"), (1, u "MIN_PARALLEL_MERGE_PARTS_SIZE"), (0, u "MIN_BYTE_COUNTING_SORT_SIZE"), (1, u "MIN_SHORT_OR_CHAR_COUNTING_SORT_SIZE"), (1, u "DELTA"), (1, u "MAX_RECURSION_DEPTH"), (1, u "NUM_BYTE_VALUES"), (1, u "MAX_BYTE_INDEX"), (0, u "NUM_CHAR_VALUES"), (0, u "NUM_SHORT_VALUES"), (0, u "MAX_SHORT_INDEX")] 86

def k6m0 : Method := { name := "<init>", desc := "()V", sig := { parameters := [], returnType := none }, accessFlags := 2, code := none }
def k6c1 : Code := { maxStack := 9, maxLocals := 7, code := jdk_2529_method_3_code, exceptionTable := #[], attributes := #[] }
def k6m1 : Method := { name := "sort", desc := "([IIII)V", sig := { parameters := [(.array .int), .int, .int, .int], returnType := none }, accessFlags := 8, code := some k6c1 }
def k6c2 : Code := { maxStack := 6, maxLocals := 21, code := jdk_2529_method_4_code, exceptionTable := #[], attributes := #[] }
def k6m2 : Method := { name := "sort", desc := "(Ljava/util/DualPivotQuicksort$Sorter;[IIII)V", sig := { parameters := [(.object "java/util/DualPivotQuicksort$Sorter"), (.array .int), .int, .int, .int], returnType := none }, accessFlags := 8, code := some k6c2 }
def k6c3 : Code := { maxStack := 4, maxLocals := 6, code := jdk_2529_method_6_code, exceptionTable := #[], attributes := #[] }
def k6m3 : Method := { name := "insertionSort", desc := "([III)V", sig := { parameters := [(.array .int), .int, .int], returnType := none }, accessFlags := 10, code := some k6c3 }
/-- java/util/DualPivotQuicksort -/
def k6 : Class := { plain "java/util/DualPivotQuicksort" (some 0) with
  accessFlags := 48
  interfaces := #[]
  cf := some (fileOf pool6 1 #[.nestMembers #[73, 85, 17]] #[{ accessFlags := 2, nameIndex := 11, descriptorIndex := 12, attributes := #[] }, { accessFlags := 8, nameIndex := 28, descriptorIndex := 33, attributes := #[] }, { accessFlags := 8, nameIndex := 28, descriptorIndex := 29, attributes := #[] }, { accessFlags := 10, nameIndex := 36, descriptorIndex := 37, attributes := #[] }] 48 8 #[] #[{ accessFlags := 26, nameIndex := 214, descriptorIndex := 68, attributes := #[] }, { accessFlags := 26, nameIndex := 217, descriptorIndex := 68, attributes := #[] }, { accessFlags := 26, nameIndex := 219, descriptorIndex := 68, attributes := #[] }, { accessFlags := 26, nameIndex := 221, descriptorIndex := 68, attributes := #[] }, { accessFlags := 26, nameIndex := 222, descriptorIndex := 68, attributes := #[] }, { accessFlags := 26, nameIndex := 224, descriptorIndex := 68, attributes := #[] }, { accessFlags := 26, nameIndex := 226, descriptorIndex := 68, attributes := #[] }, { accessFlags := 26, nameIndex := 228, descriptorIndex := 68, attributes := #[] }, { accessFlags := 26, nameIndex := 230, descriptorIndex := 68, attributes := #[] }, { accessFlags := 26, nameIndex := 231, descriptorIndex := 68, attributes := #[] }, { accessFlags := 26, nameIndex := 233, descriptorIndex := 68, attributes := #[] }, { accessFlags := 26, nameIndex := 235, descriptorIndex := 68, attributes := #[] }, { accessFlags := 26, nameIndex := 237, descriptorIndex := 68, attributes := #[] }, { accessFlags := 26, nameIndex := 239, descriptorIndex := 68, attributes := #[] }, { accessFlags := 26, nameIndex := 241, descriptorIndex := 68, attributes := #[] }, { accessFlags := 26, nameIndex := 242, descriptorIndex := 68, attributes := #[] }, { accessFlags := 26, nameIndex := 243, descriptorIndex := 68, attributes := #[] }, { accessFlags := 26, nameIndex := 244, descriptorIndex := 68, attributes := #[] }])
  fields := #[{ name := "MAX_MIXED_INSERTION_SORT_SIZE", type := .int, accessFlags := 26, slot := 0, constantValue := 0 }, { name := "MAX_INSERTION_SORT_SIZE", type := .int, accessFlags := 26, slot := 1, constantValue := 0 }, { name := "MIN_PARALLEL_SORT_SIZE", type := .int, accessFlags := 26, slot := 2, constantValue := 0 }, { name := "MIN_TRY_MERGE_SIZE", type := .int, accessFlags := 26, slot := 3, constantValue := 0 }, { name := "MIN_FIRST_RUN_SIZE", type := .int, accessFlags := 26, slot := 4, constantValue := 0 }, { name := "MIN_FIRST_RUNS_FACTOR", type := .int, accessFlags := 26, slot := 5, constantValue := 0 }, { name := "MAX_RUN_CAPACITY", type := .int, accessFlags := 26, slot := 6, constantValue := 0 }, { name := "MIN_RUN_COUNT", type := .int, accessFlags := 26, slot := 7, constantValue := 0 }, { name := "MIN_PARALLEL_MERGE_PARTS_SIZE", type := .int, accessFlags := 26, slot := 8, constantValue := 0 }, { name := "MIN_BYTE_COUNTING_SORT_SIZE", type := .int, accessFlags := 26, slot := 9, constantValue := 0 }, { name := "MIN_SHORT_OR_CHAR_COUNTING_SORT_SIZE", type := .int, accessFlags := 26, slot := 10, constantValue := 0 }, { name := "DELTA", type := .int, accessFlags := 26, slot := 11, constantValue := 0 }, { name := "MAX_RECURSION_DEPTH", type := .int, accessFlags := 26, slot := 12, constantValue := 0 }, { name := "NUM_BYTE_VALUES", type := .int, accessFlags := 26, slot := 13, constantValue := 0 }, { name := "MAX_BYTE_INDEX", type := .int, accessFlags := 26, slot := 14, constantValue := 0 }, { name := "NUM_CHAR_VALUES", type := .int, accessFlags := 26, slot := 15, constantValue := 0 }, { name := "NUM_SHORT_VALUES", type := .int, accessFlags := 26, slot := 16, constantValue := 0 }, { name := "MAX_SHORT_INDEX", type := .int, accessFlags := 26, slot := 17, constantValue := 0 }]
  methods := #[k6m0, k6m1, k6m2, k6m3]
  instanceTypes := #[]
  staticTypes := #[.int, .int, .int, .int, .int, .int, .int, .int, .int, .int, .int, .int, .int, .int, .int, .int, .int, .int]
  resolved := Array.replicate 331 none
  statics := none }

def pool7 : Array CpInfo := pool [(1, .class_ 2), (0, u "java/lang/Cloneable"), (0, .class_ 4), (0, u "java/lang/Object")] 2

/-- java/lang/Cloneable -/
def k7 : Class := { plain "java/lang/Cloneable" (some 0) with
  accessFlags := 1537
  interfaces := #[]
  cf := some (fileOf pool7 1 #[] #[] 1537 3 #[] #[])
  fields := #[]
  methods := #[]
  instanceTypes := #[]
  staticTypes := #[]
  resolved := Array.replicate 7 none
  statics := none }

def pool8 : Array CpInfo := pool [(1, u "java/io/Serializable"), (0, .class_ 1), (0, u "java/lang/Object"), (0, .class_ 3)] 3

/-- java/io/Serializable -/
def k8 : Class := { plain "java/io/Serializable" (some 0) with
  accessFlags := 1537
  interfaces := #[]
  cf := some (fileOf pool8 2 #[] #[] 1537 4 #[] #[])
  fields := #[]
  methods := #[]
  instanceTypes := #[]
  staticTypes := #[]
  resolved := Array.replicate 8 none
  statics := none }

/-- the primitive byte -/
def k9 : Class := { plain "byte" none with kind := .primitive 'B', accessFlags := 0x411 }
/-- [B -/
def k10 : Class := { plain "[B" (some 0) with kind := .array 9 .byte, interfaces := #[7, 8], accessFlags := 1041 }

/-- the primitive int -/
def k11 : Class := { plain "int" none with kind := .primitive 'I', accessFlags := 0x411 }
/-- [I -/
def k12 : Class := { plain "[I" (some 0) with kind := .array 11 .int, interfaces := #[7, 8], accessFlags := 1041 }

def heap : Heap := #[]
def classes : Array Class := #[k0, k1, k2, k3, k4, k5, k6, k7, k8, k9, k10, k11, k12]
def interned : List (Array UInt16 × Addr) := []
def slotsUsed : Nat := 0
def theMethod : MethodId := ⟨1, 1⟩
def args0 : Array Value := #[.int 5, .int 6, .int 7]
def aboutOver (below : List Frame) : State where
  vm := { classes := classes, interned := interned.toArray }
  heap := heap
  slotsUsed := slotsUsed
  threads := #[{ frames := .invoking theMethod args0 :: below }]
def below0 : List Frame := [.native { method := ⟨0, 0⟩, args := #[] }]
def about1 : State := aboutOver below0
def p0 : Program := .bare "" "" ""
def e0 : Env := launch0.env 0 0 0
theorem w_frames : about1.frames = Frame.invoking theMethod args0 :: below0 := rfl
set_option maxRecDepth 65536 in
theorem w_args : argsFit about1.vm theMethod args0 = true := by decide +kernel
set_option maxRecDepth 65536 in
theorem w_heap : heapFits about1 = true := by decide +kernel
set_option maxRecDepth 65536 in
theorem w_runnable : about1.curStatus? = some .runnable := by decide +kernel
set_option maxRecDepth 65536 in
theorem w_alone : about1.alone = true := by decide +kernel
set_option maxRecDepth 65536 in
theorem w_named : about1.methodNamed? x = some theMethod := by decide +kernel
set_option maxRecDepth 65536 in
theorem w_hears : about1.hears theMethod below0 = true := by decide +kernel
set_option maxRecDepth 65536 in
theorem w_ripe : about1.ripe theMethod args0 below0 = true := by decide +kernel
theorem w_running : about1.status = .running := rfl
set_option maxRecDepth 65536 in
theorem w_room : about1.hasRoom e0.platform room_1 = true :=
  launch0.hasRoom_least _ room_1 (by decide +kernel) (by decide +kernel) (by decide +kernel) (by decide +kernel) (by decide +kernel) (by decide +kernel)
theorem allAtoms_all (ts : List Jvm.Cond) (a : Array Jvm.Value) (st : Jvm.State) : (allAtoms ts).before a st = ts.all (fun c => c.before a st) := by
  induction ts with
  | nil => rfl
  | cons c t ih =>
    show (Jvm.Cond.and c (allAtoms t)).before a st = _
    rw [Jvm.Cond.before_and, ih, List.all_cons]
def words1 : List Jvm.Cond := Jvm.Cond.code x code maxLocals ret :: tables_1
/-- a 'code' word, met by the world's own term for the bytes: nothing is compared byte by byte -/
theorem code_word {y : MethodName} {bytes : ByteArray} {mx : Nat} {rt : Option FieldType} {a : Array Value} {s : State} {m : MethodId} {meth : Method} {c : Code} (h1 : s.methodNamed? y = some m) (h2 : s.vm.method? m = some meth) (h3 : meth.code = some c) (h4 : c.code = bytes)
    (h5 : (c.maxLocals == mx && c.exceptionTable.isEmpty && decide (c.maxStack ≤ mostOperands) && decide (meth.sig.returnType = rt) && !meth.locks && decide (parseMethodDescriptor y.desc = some meth.sig)) = true) : (Jvm.Cond.code y bytes mx rt).before a s = true := by
  simp only [Bool.and_eq_true, beq_iff_eq, Bool.not_eq_true', decide_eq_true_eq] at h5
  obtain ⟨⟨⟨⟨⟨g1, g2⟩, g3⟩, g4⟩, g5⟩, g6⟩ := h5
  simp [Cond.before, Cond.holds, Cond.value, h1, h2, h3, h4, g1, g2, g3, g4, g5, g6]
def isCode : Jvm.Cond → Bool
  | .code _ _ _ _ => true
  | _ => false
theorem all_split {L : List Jvm.Cond} {P : Jvm.Cond → Bool} (h1 : L.all (fun c => isCode c || P c) = true) (h2 : ∀ c ∈ L.filter isCode, P c = true) : L.all P = true := by
  refine List.all_eq_true.mpr fun c hc => ?_
  have h := List.all_eq_true.mp h1 c hc
  rcases Bool.eq_false_or_eq_true (isCode c) with hi | hi
  · exact h2 c (List.mem_filter.mpr ⟨hc, hi⟩)
  · simpa [hi] using h
set_option maxRecDepth 65536 in
theorem w_c0 : (Jvm.Cond.code x code maxLocals ret).before args0 about1 = true := code_word (m := ⟨1, 1⟩) (meth := k1m1) (c := k1c1) (by decide +kernel) rfl rfl rfl (by decide +kernel)
set_option maxRecDepth 65536 in
theorem w_c1 : (Jvm.Cond.code ({ cls := "com/example/frugal_scheduler/frugalscheduler/planners/PoolSchedule$Candidates", name := "<init>", desc := "(I)V" } : Jvm.MethodName) prog_68_method_1_code (2 : Nat) (Option.none : Option Jvm.ClassFile.FieldType)).before args0 about1 = true := code_word (m := ⟨2, 0⟩) (meth := k2m0) (c := k2c0) (by decide +kernel) rfl rfl rfl (by decide +kernel)
set_option maxRecDepth 65536 in
theorem w_c2 : (Jvm.Cond.code ({ cls := "java/lang/Object", name := "<init>", desc := "()V" } : Jvm.MethodName) object_method_1_code (1 : Nat) (Option.none : Option Jvm.ClassFile.FieldType)).before args0 about1 = true := code_word (m := ⟨0, 0⟩) (meth := k0m0) (c := k0c0) (by decide +kernel) rfl rfl rfl (by decide +kernel)
set_option maxRecDepth 65536 in
theorem w_c3 : (Jvm.Cond.code ({ cls := "com/example/frugal_scheduler/frugalscheduler/planners/PoolSchedule$Candidates", name := "clear", desc := "(I)V" } : Jvm.MethodName) prog_68_method_2_code (2 : Nat) (Option.none : Option Jvm.ClassFile.FieldType)).before args0 about1 = true := code_word (m := ⟨2, 1⟩) (meth := k2m1) (c := k2c1) (by decide +kernel) rfl rfl rfl (by decide +kernel)
set_option maxRecDepth 65536 in
theorem w_c4 : (Jvm.Cond.code ({ cls := "com/example/frugal_scheduler/frugalscheduler/planners/PoolSchedule$Candidates", name := "add", desc := "(I)V" } : Jvm.MethodName) prog_68_method_3_code (2 : Nat) (Option.none : Option Jvm.ClassFile.FieldType)).before args0 about1 = true := code_word (m := ⟨2, 2⟩) (meth := k2m2) (c := k2c2) (by decide +kernel) rfl rfl rfl (by decide +kernel)
set_option maxRecDepth 65536 in
theorem w_c5 : (Jvm.Cond.code ({ cls := "com/example/frugal_scheduler/frugalscheduler/planners/PoolSchedule$Candidates", name := "inPoolOrder", desc := "()[I" } : Jvm.MethodName) prog_68_method_4_code (2 : Nat) (Option.some (Jvm.ClassFile.FieldType.array Jvm.ClassFile.FieldType.int))).before args0 about1 = true := code_word (m := ⟨2, 3⟩) (meth := k2m3) (c := k2c3) (by decide +kernel) rfl rfl rfl (by decide +kernel)
set_option maxRecDepth 65536 in
theorem w_c6 : (Jvm.Cond.code ({ cls := "java/util/Arrays", name := "copyOf", desc := "([II)[I" } : Jvm.MethodName) jdk_65_method_123_code (3 : Nat) (Option.some (Jvm.ClassFile.FieldType.array Jvm.ClassFile.FieldType.int))).before args0 about1 = true := code_word (m := ⟨3, 2⟩) (meth := k3m2) (c := k3c2) (by decide +kernel) rfl rfl rfl (by decide +kernel)
set_option maxRecDepth 65536 in
theorem w_c7 : (Jvm.Cond.code ({ cls := "java/lang/Math", name := "min", desc := "(II)I" } : Jvm.MethodName) jdk_29_method_69_code (2 : Nat) (Option.some Jvm.ClassFile.FieldType.int)).before args0 about1 = true := code_word (m := ⟨4, 1⟩) (meth := k4m1) (c := k4c1) (by decide +kernel) rfl rfl rfl (by decide +kernel)
set_option maxRecDepth 65536 in
theorem w_c8 : (Jvm.Cond.code ({ cls := "java/util/Arrays", name := "sort", desc := "([I)V" } : Jvm.MethodName) jdk_65_method_2_code (1 : Nat) (Option.none : Option Jvm.ClassFile.FieldType)).before args0 about1 = true := code_word (m := ⟨3, 1⟩) (meth := k3m1) (c := k3c1) (by decide +kernel) rfl rfl rfl (by decide +kernel)
set_option maxRecDepth 65536 in
theorem w_c9 : (Jvm.Cond.code ({ cls := "java/util/DualPivotQuicksort", name := "sort", desc := "([IIII)V" } : Jvm.MethodName) jdk_2529_method_3_code (7 : Nat) (Option.none : Option Jvm.ClassFile.FieldType)).before args0 about1 = true := code_word (m := ⟨6, 1⟩) (meth := k6m1) (c := k6c1) (by decide +kernel) rfl rfl rfl (by decide +kernel)
set_option maxRecDepth 65536 in
theorem w_c10 : (Jvm.Cond.code ({ cls := "java/util/DualPivotQuicksort", name := "sort", desc := "(Ljava/util/DualPivotQuicksort$Sorter;[IIII)V" } : Jvm.MethodName) jdk_2529_method_4_code (21 : Nat) (Option.none : Option Jvm.ClassFile.FieldType)).before args0 about1 = true := code_word (m := ⟨6, 2⟩) (meth := k6m2) (c := k6c2) (by decide +kernel) rfl rfl rfl (by decide +kernel)
set_option maxRecDepth 65536 in
theorem w_c11 : (Jvm.Cond.code ({ cls := "java/util/DualPivotQuicksort", name := "insertionSort", desc := "([III)V" } : Jvm.MethodName) jdk_2529_method_6_code (6 : Nat) (Option.none : Option Jvm.ClassFile.FieldType)).before args0 about1 = true := code_word (m := ⟨6, 3⟩) (meth := k6m3) (c := k6c3) (by decide +kernel) rfl rfl rfl (by decide +kernel)
set_option maxRecDepth 65536 in
theorem w_c12 : (Jvm.Cond.code ({ cls := "com/example/frugal_scheduler/frugalscheduler/planners/CandidatesAddPinLaw", name := "matches", desc := "([IZZZZ)Z" } : Jvm.MethodName) method_3_code (7 : Nat) (Option.some Jvm.ClassFile.FieldType.boolean)).before args0 about1 = true := code_word (m := ⟨1, 2⟩) (meth := k1m2) (c := k1c2) (by decide +kernel) rfl rfl rfl (by decide +kernel)
def codes1 : List Jvm.Cond := [Jvm.Cond.code x code maxLocals ret, Jvm.Cond.code ({ cls := "com/example/frugal_scheduler/frugalscheduler/planners/PoolSchedule$Candidates", name := "<init>", desc := "(I)V" } : Jvm.MethodName) prog_68_method_1_code (2 : Nat) (Option.none : Option Jvm.ClassFile.FieldType), Jvm.Cond.code ({ cls := "java/lang/Object", name := "<init>", desc := "()V" } : Jvm.MethodName) object_method_1_code (1 : Nat) (Option.none : Option Jvm.ClassFile.FieldType), Jvm.Cond.code ({ cls := "com/example/frugal_scheduler/frugalscheduler/planners/PoolSchedule$Candidates", name := "clear", desc := "(I)V" } : Jvm.MethodName) prog_68_method_2_code (2 : Nat) (Option.none : Option Jvm.ClassFile.FieldType), Jvm.Cond.code ({ cls := "com/example/frugal_scheduler/frugalscheduler/planners/PoolSchedule$Candidates", name := "add", desc := "(I)V" } : Jvm.MethodName) prog_68_method_3_code (2 : Nat) (Option.none : Option Jvm.ClassFile.FieldType), Jvm.Cond.code ({ cls := "com/example/frugal_scheduler/frugalscheduler/planners/PoolSchedule$Candidates", name := "inPoolOrder", desc := "()[I" } : Jvm.MethodName) prog_68_method_4_code (2 : Nat) (Option.some (Jvm.ClassFile.FieldType.array Jvm.ClassFile.FieldType.int)), Jvm.Cond.code ({ cls := "java/util/Arrays", name := "copyOf", desc := "([II)[I" } : Jvm.MethodName) jdk_65_method_123_code (3 : Nat) (Option.some (Jvm.ClassFile.FieldType.array Jvm.ClassFile.FieldType.int)), Jvm.Cond.code ({ cls := "java/lang/Math", name := "min", desc := "(II)I" } : Jvm.MethodName) jdk_29_method_69_code (2 : Nat) (Option.some Jvm.ClassFile.FieldType.int), Jvm.Cond.code ({ cls := "java/util/Arrays", name := "sort", desc := "([I)V" } : Jvm.MethodName) jdk_65_method_2_code (1 : Nat) (Option.none : Option Jvm.ClassFile.FieldType), Jvm.Cond.code ({ cls := "java/util/DualPivotQuicksort", name := "sort", desc := "([IIII)V" } : Jvm.MethodName) jdk_2529_method_3_code (7 : Nat) (Option.none : Option Jvm.ClassFile.FieldType), Jvm.Cond.code ({ cls := "java/util/DualPivotQuicksort", name := "sort", desc := "(Ljava/util/DualPivotQuicksort$Sorter;[IIII)V" } : Jvm.MethodName) jdk_2529_method_4_code (21 : Nat) (Option.none : Option Jvm.ClassFile.FieldType), Jvm.Cond.code ({ cls := "java/util/DualPivotQuicksort", name := "insertionSort", desc := "([III)V" } : Jvm.MethodName) jdk_2529_method_6_code (6 : Nat) (Option.none : Option Jvm.ClassFile.FieldType), Jvm.Cond.code ({ cls := "com/example/frugal_scheduler/frugalscheduler/planners/CandidatesAddPinLaw", name := "matches", desc := "([IZZZZ)Z" } : Jvm.MethodName) method_3_code (7 : Nat) (Option.some Jvm.ClassFile.FieldType.boolean)]
set_option maxRecDepth 65536 in
theorem codes_eq : words1.filter isCode = codes1 := rfl
theorem w_codes : ∀ c ∈ words1.filter isCode, c.before args0 about1 = true := by
  rw [codes_eq]
  intro c hc
  simp only [codes1, List.mem_cons, List.not_mem_nil, or_false] at hc
  rcases hc with rfl | rfl | rfl | rfl | rfl | rfl | rfl | rfl | rfl | rfl | rfl | rfl | rfl
  · exact w_c0
  · exact w_c1
  · exact w_c2
  · exact w_c3
  · exact w_c4
  · exact w_c5
  · exact w_c6
  · exact w_c7
  · exact w_c8
  · exact w_c9
  · exact w_c10
  · exact w_c11
  · exact w_c12
set_option maxRecDepth 65536 in
theorem w_t1 : (words1.take 24).all (fun c => isCode c || c.before args0 about1) = true := by decide +kernel
set_option maxRecDepth 65536 in
theorem w_t2 : ((words1.drop 24).take 24).all (fun c => isCode c || c.before args0 about1) = true := by decide +kernel
set_option maxRecDepth 65536 in
theorem w_t3 : (((words1.drop 24).drop 24).take 24).all (fun c => isCode c || c.before args0 about1) = true := by decide +kernel
set_option maxRecDepth 65536 in
theorem w_t4 : (((words1.drop 24).drop 24).drop 24).all (fun c => isCode c || c.before args0 about1) = true := by decide +kernel
theorem w_tables : (allAtoms (Jvm.Cond.code x code maxLocals ret :: tables_1)).before args0 about1 = true := by
  rw [allAtoms_all]
  show words1.all (fun c => c.before args0 about1) = true
  refine all_split ?_ w_codes
  rw [← List.take_append_drop 24 words1, List.all_append, w_t1, ← List.take_append_drop 24 (words1.drop 24), List.all_append, w_t2, ← List.take_append_drop 24 ((words1.drop 24).drop 24), List.all_append, w_t3, w_t4]
  rfl
set_option maxRecDepth 65536 in
theorem w_case : (Jvm.Cond.and given_1 narrow_1).before args0 about1 = true := by decide +kernel
theorem w_applies : (headSpec (Jvm.Cond.code x code maxLocals ret :: tables_1) room_1).applies x e0.platform about1 = true :=
  (Spec.applies_iff w_frames).mpr ⟨w_running, w_runnable, w_alone, w_named, w_hears, w_ripe, w_room, w_tables⟩
theorem atStart : AtStart classFile x code maxLocals ret World_1 tables_1 room_1 Calls_1 rest_1 Pre_1 launch0 p0 e0 about1 theMethod args0 below0 :=
  ⟨lists_1, trivial, launch0.admits_env _ _ _, launch0.least_env, fairChoices_fair.cas, fairChoices_fair.clock, w_frames, w_args, w_heap, w_applies, trivial, trivial, w_case⟩
end start1
theorem witness_1 : WitnessClaimed_1 := ⟨start1.p0, start1.e0, start1.about1, start1.theMethod, start1.args0, start1.below0, start1.atStart⟩
end Jvm.Pilot.@@N@@
